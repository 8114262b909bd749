import Derived.Test.Qxb6003417aTail
import Derived.Lib.QuietBelow
import Derived.BigQuiet
import Derived.Deep.CutBlock
import Derived.Deep.RegionWith
namespace Go.Proofs.Qxb6003417a
open Go.RowKit
set_option linter.unusedVariables false

theorem tok_lo (za zb : List Int) (k : Nat) (h : ∀ j, j < k → za.getD j 0 = zb.getD j 0) (j : Nat) (hj : j < 2 * k) : tok za j = tok zb j := by
  unfold tok; rw [h (j / 2) (by omega)]

theorem tok_mid (za zb : List Int) (k : Nat) (h : ∀ j, j < k → za.getD j 0 = zb.getD j 0) (he : tok za (2 * k) = tok zb (2 * k)) (j : Nat) (hj : j < 2 * k + 1) : tok za j = tok zb j := by
  by_cases h1 : j = 2 * k
  · rw [h1]; exact he
  · exact tok_lo za zb k h j (by omega)

theorem tok_hi (za zb : List Int) (k : Nat) (hne : za.getD k 0 ≠ zb.getD k 0) (he : tok za (2 * k) = tok zb (2 * k)) : tok za (2 * k + 1) ≠ tok zb (2 * k + 1) := by
  unfold tok at *
  rw [if_pos (by omega), if_pos (by omega), show 2 * k / 2 = k from by omega] at he
  rw [if_neg (by omega), if_neg (by omega), show (2 * k + 1) / 2 = k from by omega]
  omega

theorem at_two (a : Option Addr) (len cap : Nat) (n : Int) (k : Nat) (zs : List Int) (w : World) (h : Bs w a len zs) (hj : 2 * k < 2 * len) :
    Calls Try.prog 50 #[.agg #[.slice a len cap, .int .i64 n], .int .i64 (2 * (k : Int))] w fun e w' => e = .returned (.int .u8 (tok zs (2 * k))) ∧ Below w.heap.size w w' := by
  have := at_any a len cap n (2 * (k : Int)) zs w h (by omega) (by omega)
  rwa [show (2 * (k : Int)).toNat = 2 * k from by omega] at this

set_option maxHeartbeats 400000 in
set_option maxRecDepth 100000 in
theorem common_core (a b : Option Addr) (la ca lb cb an bn n : Nat) (za zb : List Int) (w : World) (ha : Bs w a la za) (hb : Bs w b lb zb) (hla : la ≤ 1048576) (hlb : lb ≤ 1048576)
    (h1 : an ≤ 2 * la) (h2 : bn ≤ 2 * lb) (hn1 : n ≤ an) (hn2 : n ≤ bn) (hn : n = an ∨ n = bn) :
    Calls Try.prog 40 #[.agg #[.slice a la ca, .int .i64 (an : Int)], .agg #[.slice b lb cb, .int .i64 (bn : Int)]] w fun e w' => ∃ c : Nat, e = .returned (.int .i64 (c : Int)) ∧ c ≤ n ∧
      (∀ j, j < c → tok za j = tok zb j) ∧ (c < n → tok za c ≠ tok zb c) ∧ Below w.heap.size w w' := by
  have hnn : n ≤ 2097152 := by omega
  go_enter Try.func40, Try.ntmps40
  go_upto_region 1 with (fail)
  go_cut [5] from 8 (fun s5 wc => s5 = .int .i64 (n : Int) ∧ Below w.heap.size w wc ∧ w.heap.size + 1 < wc.heap.size ∧ wc.cell? ⟨w.heap.size, 0, none⟩ = some (.slice a la ca) ∧ wc.cell? ⟨w.heap.size, 1, none⟩ = some (.int .i64 (an : Int)) ∧
    wc.cell? ⟨w.heap.size + 1, 0, none⟩ = some (.slice b lb cb) ∧ wc.cell? ⟨w.heap.size + 1, 1, none⟩ = some (.int .i64 (bn : Int)))
  case first =>
    have hB : ∀ o0 o1, Below w.heap.size w ((w.alloc o0).alloc o1) := fun o0 o1 => ((Below.refl _ _).alloc (Nat.le_refl _) _).alloc (by simp) _
    by_cases hlt : bn < an
    · obtain rfl : n = bn := by omega
      go_wp2
      go_meet
      case rel => exact ⟨rfl, hB _ _, by simp, by go_simp, by go_simp, by go_simp, by go_simp⟩
    · obtain rfl : n = an := by omega
      go_wp2
      go_meet
      case rel => exact ⟨rfl, hB _ _, by simp, by go_simp, by go_simp, by go_simp, by go_simp⟩
  case rest =>
    obtain ⟨rfl, hB, hsz, c0, c1, c2, c3⟩ := hcut
    clear hn
    have hA : Bs wc a la za := ha.below hB
    have hBb : Bs wc b lb zb := hb.below hB
    go_upto_block 0 with (fail)
    go_cut [6] from 8 (fun s6 w2 => ∃ k nd : Nat, s6 = .int .i64 (k : Int) ∧ 2 * k ≤ n ∧ (∀ j, j < k → za.getD j 0 = zb.getD j 0) ∧ (2 * k + 1 < n → za.getD k 0 ≠ zb.getD k 0) ∧ w2 = wc.drewN nd)
    case first =>
      go_wp2
      go_loopw [6] (fun s6 w2 => ∃ k nd : Nat, s6 = .int .i64 (k : Int) ∧ 2 * k ≤ n ∧ (∀ j, j < k → za.getD j 0 = zb.getD j 0) ∧ w2 = wc.drewN nd) (fun i _ => n - (intOf i).toNat)
      case atStart => exact ⟨0, 0, rfl, by omega, fun j h => by omega, rfl⟩
      case round =>
        obtain ⟨k, nd, rfl, hk, heq, rfl⟩ := hrel
        by_cases hlt : 2 * k + 1 < n
        · obtain ⟨l1, l2, l3, l4⟩ := hA
          obtain ⟨m1, m2, m3, m4⟩ := hBb
          rcases l4 with l4 | ⟨ba, oa, rfl, hba, hca⟩
          · omega
          rcases m4 with m4 | ⟨bb, ob, rfl, hbb, hcb⟩
          · omega
          have xa := hca k (by omega)
          have xb := hcb k (by omega)
          generalize hxa : za.getD k 0 = x at xa
          generalize hxb : zb.getD k 0 = y at xb
          clear hca hcb
          have g1 : (k : Int) < (n : Int) / 2 := by omega
          have g2 : (k : Int) < (la : Int) := by omega
          have g3 : (k : Int) < (lb : Int) := by omega
          by_cases hxy : x = y
          · have hq : (x == y) = true := by simpa using hxy
            have HX : Hid (za.getD k 0 = zb.getD k 0) := by rw [Hid, hxa, hxb, hxy]
            have HE : Hid (∀ j, j < k → za.getD j 0 = zb.getD j 0) := heq
            clear hxy hxa hxb heq
            go_wp2
            go_quiet (fail)
            go_wp2
            go_roundw
            case rel =>
              refine ⟨k + 1, nd + nq, by go_num, by omega, fun j hj => ?_, rfl⟩
              by_cases hjk : j = k
              · subst hjk; exact HX.out
              · exact HE.out j (by omega)
            case measure => simp [intOf]; omega
          · have hq : (x == y) = false := by simpa using hxy
            have HX : Hid (za.getD k 0 ≠ zb.getD k 0) := by rw [Hid, hxa, hxb]; exact hxy
            have HE : Hid (∀ j, j < k → za.getD j 0 = zb.getD j 0) := heq
            clear hxy hxa hxb heq
            go_wp2
            go_quiet (fail)
            go_wp2
            go_meet
            case rel => exact ⟨k, nd + nq, rfl, hk, HE, fun _ => HX, by rw [World.drewN_drewN]⟩
        · have g1 : decide ((k : Int) < (n : Int) / 2) = false := by simp; omega
          have HE : Hid (∀ j, j < k → za.getD j 0 = zb.getD j 0) := heq
          clear heq
          go_wp2
          go_quiet (fail)
          go_wp2
          go_meet
          case rel => exact ⟨k, nd + nq, rfl, hk, HE, fun h => absurd h hlt, by rw [World.drewN_drewN]⟩
    case rest =>
      obtain ⟨k, nd, rfl, hk, heq, hne, rfl⟩ := hcut
      have HE : Hid (∀ j, j < k → za.getD j 0 = zb.getD j 0) := heq
      have HN : Hid (2 * k + 1 < n → za.getD k 0 ≠ zb.getD k 0) := hne
      clear heq hne
      obtain ⟨W, hW⟩ : ∃ W, W = wc.drewN nd := ⟨_, rfl⟩
      have hBW : Below w.heap.size w W := by rw [hW]; exact ⟨hB.os, hB.tape, hB.output, hB.size, hB.block⟩
      have c0' : W.cell? ⟨w.heap.size, 0, none⟩ = some (.slice a la ca) := by rw [hW]; exact c0
      have c1' : W.cell? ⟨w.heap.size, 1, none⟩ = some (.int .i64 (an : Int)) := by rw [hW]; exact c1
      have c2' : W.cell? ⟨w.heap.size + 1, 0, none⟩ = some (.slice b lb cb) := by rw [hW]; exact c2
      have c3' : W.cell? ⟨w.heap.size + 1, 1, none⟩ = some (.int .i64 (bn : Int)) := by rw [hW]; exact c3
      rw [← hW]
      clear hW c0 c1 c2 c3 hA hBb hB hsz
      by_cases h2k : 2 * k < n
      · have k0 := cell_regrown c0'
        have k1 := cell_regrown c1'
        have k2 := cell_regrown c2'
        have k3 := cell_regrown c3'
        have cA : ∀ d os, Calls Try.prog 50 #[.agg #[.slice a la ca, .int .i64 (an : Int)], .int .i64 (2 * (k : Int))] (Go.Sort.grow (redrawn W d) os) fun e w'' => e = .returned (.int .u8 (tok za (2 * k))) ∧ ∃ p : Regrown, w'' = Go.Sort.grow (redrawn W p.d) p.os :=
          fun d os => Calls.regrown_of (at_two a la ca an k za _ ((ha.below hBW).below (below_regrown W d os)) (by omega))
        have cB : ∀ d os, Calls Try.prog 50 #[.agg #[.slice b lb cb, .int .i64 (bn : Int)], .int .i64 (2 * (k : Int))] (Go.Sort.grow (redrawn W d) os) fun e w'' => e = .returned (.int .u8 (tok zb (2 * k))) ∧ ∃ p : Regrown, w'' = Go.Sort.grow (redrawn W p.d) p.os :=
          fun d os => Calls.regrown_of (at_two b lb cb bn k zb _ ((hb.below hBW).below (below_regrown W d os)) (by omega))
        have g1 : decide (2 * (k : Int) < (n : Int)) = true := by simp; omega
        generalize hx : tok za (2 * k) = x at cA
        generalize hy : tok zb (2 * k) = y at cB
        have HT : Hid (tok za (2 * k) = x ∧ tok zb (2 * k) = y) := ⟨hx, hy⟩
        clear hx hy c0' c1' c2' c3'
        by_cases hxy : x = y
        · have hq : (x == y) = true := by simpa using hxy
          have HXY : Hid (x = y) := hxy
          clear hxy
          go_wp2
          refine wp_region_quiet_below (by kernel_rfl) (by kernel_rfl) ?_
          repeat (quiet_step (first | (go_at_call_of 50 (Value.slice a la ca); exact cA _ _) | (go_at_call_of 50 (Value.slice b lb cb); exact cB _ _)))
          refine wpQuiet_nil ?_
          intro _ hw'
          obtain ⟨⟨dq, osq⟩, hw''⟩ := hw'
          subst hw''
          go_wp2
          go_ret
          have hT := HT.out
          have hE : tok za (2 * k) = tok zb (2 * k) := by rw [hT.1, hT.2]; exact HXY.out
          refine ⟨2 * k + 1, by simp, by omega, tok_mid za zb k HE hE, fun h => tok_hi za zb k (HN.out h) hE, hBW.trans ((below_regrown W dq osq).mono hBW.size)⟩
        · have hq : (x == y) = false := by simpa using hxy
          have HXY : Hid (x ≠ y) := hxy
          clear hxy
          go_wp2
          refine wp_region_quiet_below (by kernel_rfl) (by kernel_rfl) ?_
          repeat (quiet_step (first | (go_at_call_of 50 (Value.slice a la ca); exact cA _ _) | (go_at_call_of 50 (Value.slice b lb cb); exact cB _ _)))
          refine wpQuiet_nil ?_
          intro _ hw'
          obtain ⟨⟨dq, osq⟩, hw''⟩ := hw'
          subst hw''
          go_wp2
          go_ret
          have hT := HT.out
          have hE : tok za (2 * k) ≠ tok zb (2 * k) := by rw [hT.1, hT.2]; exact HXY.out
          refine ⟨2 * k, by simp, by omega, tok_lo za zb k HE, fun _ => hE, hBW.trans ((below_regrown W dq osq).mono hBW.size)⟩
      · have g1 : decide (2 * (k : Int) < (n : Int)) = false := by simp; omega
        go_wp2
        go_quiet (fail)
        go_wp2
        go_ret
        refine ⟨2 * k, by simp, by omega, fun j hj => tok_lo za zb k HE j hj, fun h => absurd h h2k, ?_⟩
        exact ⟨hBW.os, hBW.tape, hBW.output, hBW.size, hBW.block⟩

theorem common_any (a b : Option Addr) (la ca lb cb an bn : Nat) (za zb : List Int) (w : World) (ha : Bs w a la za) (hb : Bs w b lb zb)
    (h1 : an ≤ 2 * la) (h2 : bn ≤ 2 * lb) :
    Calls Try.prog 40 #[.agg #[.slice a la ca, .int .i64 (an : Int)], .agg #[.slice b lb cb, .int .i64 (bn : Int)]] w fun e w' => ∃ c : Nat, e = .returned (.int .i64 (c : Int)) ∧ (c ≤ an ∧ c ≤ bn) ∧
      (∀ j, j < c → tok za j = tok zb j) ∧ (c < an → c < bn → tok za c ≠ tok zb c) ∧ Below w.heap.size w w' := by
  refine (common_core a b la ca lb cb an bn (min an bn) za zb w ha hb ha.2.1 hb.2.1 h1 h2 (by omega) (by omega) (by omega)).mono ?_
  rintro e w' ⟨c, rfl, hc, h3, h4, h5⟩
  exact ⟨c, rfl, ⟨by omega, by omega⟩, h3, fun p q => h4 (by omega), h5⟩
end Go.Proofs.Qxb6003417a
