import Derived.Test.Qxb6003417aHolds
import Derived.WalkSmall
namespace Go.Proofs.Qxb6003417a
open Go.RowKit
set_option linter.unusedVariables false

theorem bcell {W w1 : World} (hb : Below W.heap.size W w1) : (∀ b o, b < W.heap.size → w1.cell? ⟨b, o, none⟩ = W.cell? ⟨b, o, none⟩) ∧ (∀ b o, b < W.heap.size → w1.frozen? ⟨b, o, none⟩ = W.frozen? ⟨b, o, none⟩) :=
  ⟨fun b o h => hb.cell (p := ⟨b, o, none⟩) h, fun b o h => hb.frozen (p := ⟨b, o, none⟩) h⟩

theorem common_key (a b : Option Addr) (la ca lb cb an : Nat) (za zb : List Int) (w : World) (ha : Bs w a la za) (hb : Bs w b lb zb) (h1 : an ≤ 2 * la) :
    Calls Try.prog 40 #[.agg #[.slice a la ca, .int .i64 (an : Int)], .agg #[.slice b lb cb, .int .i64 (2 * (lb : Int))]] w fun e w' => ∃ c : Nat, e = .returned (.int .i64 (c : Int)) ∧ (c ≤ an ∧ c ≤ 2 * lb) ∧
      (∀ j, j < c → tok za j = tok zb j) ∧ (c < an → c < 2 * lb → tok za c ≠ tok zb c) ∧ Below w.heap.size w w' := by
  have := common_any a b la ca lb cb an (2 * lb) za zb w ha hb h1 (Nat.le_refl _)
  rwa [show ((2 * lb : Nat) : Int) = 2 * (lb : Int) from by omega] at this

set_option maxHeartbeats 400000 in
set_option maxRecDepth 100000 in
theorem outside_any (s e k : Option Addr) (ls cs le ce lk ck pn : Nat) (after hasEnd : Bool) (zs ze zk : List Int) (w : World) (hs : Bs w s ls zs) (he : Bs w e le ze) (hk : Bs w k lk zk)
    (hp : pn ≤ 2 * lk) (hls : ls ≤ 1048576) (hle : le ≤ 1048576) (hlk : lk ≤ 1048576) :
    Calls Try.prog 43 #[.agg #[.slice s ls cs, .bool after, .slice e le ce, .bool hasEnd], .agg #[.slice k lk ck, .int .i64 (pn : Int)]] w fun e w' => ∃ b, e = .returned (.bool b) ∧ (b = true → holdsB zs after ze hasEnd zk = false) ∧ Below w.heap.size w w' := by
  have hB : ∀ o p, Below w.heap.size w ((w.alloc o).alloc p) := fun o p => ((Below.refl _ _).alloc (Nat.le_refl _) _).alloc (by simp) _
  go_enter Try.func43, Try.ntmps43
  go_wp2_with fail
  refine (keyPath_any s ls cs _ hls).mono ?_
  rintro e w1 ⟨rfl, hb1⟩
  obtain ⟨hc1, hf1⟩ := bcell hb1
  have hz1 : w.heap.size + 1 < w1.heap.size := by have := hb1.size; simp at this; omega
  have hB1 : Below w.heap.size w w1 := (hB _ _).trans (hb1.mono (by simp; omega))
  clear hb1
  go_wp2_with fail
  refine (common_key k s lk ck ls cs pn zk zs _ ?_ ?_ hp).mono ?_
  · exact (hk.below hB1).below ((Below.refl _ _).alloc (Nat.le_refl _) _)
  · exact (hs.below hB1).below ((Below.refl _ _).alloc (Nat.le_refl _) _)
  rintro e w2 ⟨c, rfl, ⟨hd1, hd2⟩, heq, hne, hb2⟩
  have HQ : Hid (∀ j, j < c → tok zk j = tok zs j) := heq
  clear heq hne
  obtain ⟨hc2, hf2⟩ := bcell hb2
  have hz2 : w1.heap.size < w2.heap.size := by have := hb2.size; simp at this; omega
  have hB2 : Below w.heap.size w w2 := hB1.trans (((Below.refl _ _).alloc (Nat.le_refl _) _).trans (hb2.mono (by simp)) |>.mono (by omega))
  clear hb2
  have hz1a : w.heap.size < w1.heap.size := by omega
  have r0 : w2.cell? ⟨w.heap.size, 0, none⟩ = some (.slice s ls cs) := by rw [hc2 _ _ (by simp; omega)]; go_simp
  have r1 : w2.cell? ⟨w.heap.size, 1, none⟩ = some (.bool after) := by rw [hc2 _ _ (by simp; omega)]; go_simp
  have r2 : w2.cell? ⟨w.heap.size, 2, none⟩ = some (.slice e le ce) := by rw [hc2 _ _ (by simp; omega)]; go_simp
  have r3 : w2.cell? ⟨w.heap.size, 3, none⟩ = some (.bool hasEnd) := by rw [hc2 _ _ (by simp; omega)]; go_simp
  have p0 : w2.cell? ⟨w.heap.size + 1, 0, none⟩ = some (.slice k lk ck) := by rw [hc2 _ _ (by simp; omega)]; go_simp
  have p1 : w2.cell? ⟨w.heap.size + 1, 1, none⟩ = some (.int .i64 (pn : Int)) := by rw [hc2 _ _ (by simp; omega)]; go_simp
  have q0 : w2.cell? ⟨w1.heap.size, 0, none⟩ = some (.slice s ls cs) := by rw [hc2 _ _ (by simp)]; go_simp
  have q1 : w2.cell? ⟨w1.heap.size, 1, none⟩ = some (.int .i64 (2 * (ls : Int))) := by rw [hc2 _ _ (by simp)]; go_simp
  clear hc1 hc2 hf1 hf2
  go_upto_region 3 with (fail)
  have hkl := hk.1
  have hsl := hs.1
  go_cut [33] from 9 (fun s33 w3 => ∃ b, s33 = .bool b ∧ (b = true → cmpI zk zs = -1) ∧ Below w2.heap.size w2 w3)
  case first =>
    by_cases g1 : c < pn
    · by_cases g2 : c < 2 * ls
      · have k0 := cell_regrown p0
        have k1 := cell_regrown p1
        have k2 := cell_regrown q0
        have k3 := cell_regrown q1
        have cA : ∀ d os, Calls Try.prog 50 #[.agg #[.slice k lk ck, .int .i64 (pn : Int)], .int .i64 (c : Int)] (Go.Sort.grow (redrawn w2 d) os) fun e w'' => e = .returned (.int .u8 (tok zk c)) ∧ ∃ p : Regrown, w'' = Go.Sort.grow (redrawn w2 p.d) p.os :=
          fun d os => Calls.regrown_of (at_nat k lk ck pn c zk _ ((hk.below hB2).below (below_regrown w2 d os)) (by omega))
        have cB : ∀ d os, Calls Try.prog 50 #[.agg #[.slice s ls cs, .int .i64 (2 * (ls : Int))], .int .i64 (c : Int)] (Go.Sort.grow (redrawn w2 d) os) fun e w'' => e = .returned (.int .u8 (tok zs c)) ∧ ∃ p : Regrown, w'' = Go.Sort.grow (redrawn w2 p.d) p.os :=
          fun d os => Calls.regrown_of (at_nat s ls cs (2 * (ls : Int)) c zs _ ((hs.below hB2).below (below_regrown w2 d os)) (by omega))
        have G1 : decide ((c : Int) < (pn : Int)) = true := by simp; omega
        have G2 : decide ((c : Int) < 2 * (ls : Int)) = true := by simp; omega
        generalize hx : tok zk c = x at cA
        generalize hy : tok zs c = y at cB
        have HT : Hid (tok zk c = x ∧ tok zs c = y) := ⟨hx, hy⟩
        clear hx hy p0 p1 q0 q1 r0 r1 r2 r3
        go_wp2
        refine wp_region_quiet_below (by kernel_rfl) (by kernel_rfl) ?_
        repeat (quiet_step (first | (go_at_call_of 50 (Value.slice k lk ck); exact cA _ _) | (go_at_call_of 50 (Value.slice s ls cs); exact cB _ _)))
        refine wpQuiet_nil ?_
        intro _ hw'
        obtain ⟨⟨dq, osq⟩, hw''⟩ := hw'
        subst hw''
        go_wp2
        go_meet
        case rel =>
          refine ⟨_, rfl, fun h => ?_, below_regrown w2 dq osq⟩
          have hT := HT.out
          exact cmp_lt zk zs c (by omega) (by omega) HQ.out (by rw [hT.1, hT.2]; simpa using h)
      · have G1 : decide ((c : Int) < (pn : Int)) = true := by simp; omega
        have G2 : decide ((c : Int) < 2 * (ls : Int)) = false := by simp; omega
        go_wp2
        go_quiet (fail)
        go_wp2
        go_meet
        case rel => exact ⟨false, rfl, fun h => by simp at h, ⟨rfl, rfl, rfl, Nat.le_refl _, fun _ _ => rfl⟩⟩
    · have G1 : decide ((c : Int) < (pn : Int)) = false := by simp; omega
      go_wp2
      go_quiet (fail)
      go_wp2
      go_meet
      case rel => exact ⟨false, rfl, fun h => by simp at h, ⟨rfl, rfl, rfl, Nat.le_refl _, fun _ _ => rfl⟩⟩
  case rest =>
    obtain ⟨b, rfl, hb, hb3⟩ := hcut
    have hel := he.1
    obtain ⟨hc3, hf3⟩ := bcell hb3
    have hz3 : w2.heap.size ≤ wc.heap.size := hb3.size
    have hB3 : Below w.heap.size w wc := hB2.trans (hb3.mono (by omega))
    have r2' : wc.cell? ⟨w.heap.size, 2, none⟩ = some (.slice e le ce) := by rw [hc3 _ _ (by omega)]; exact r2
    have r3' : wc.cell? ⟨w.heap.size, 3, none⟩ = some (.bool hasEnd) := by rw [hc3 _ _ (by omega)]; exact r3
    have p0' : wc.cell? ⟨w.heap.size + 1, 0, none⟩ = some (.slice k lk ck) := by rw [hc3 _ _ (by omega)]; exact p0
    have p1' : wc.cell? ⟨w.heap.size + 1, 1, none⟩ = some (.int .i64 (pn : Int)) := by rw [hc3 _ _ (by omega)]; exact p1
    clear hc3 hf3 r0 r1 r2 r3 p0 p1 q0 q1 HQ
    cases b
    case true =>
      have hfin : holdsB zs after ze hasEnd zk = false := out_low (hb rfl)
      have HF : Hid (holdsB zs after ze hasEnd zk = false) := hfin
      clear hb hfin
      go_wp2
      go_ret
      exact ⟨true, rfl, fun _ => HF.out, hB3⟩
    case false =>
      clear hb
      cases hasEnd
      case false =>
        go_wp2
        go_ret
        exact ⟨false, rfl, fun h => by simp at h, hB3⟩
      case true =>
        have hz3a : w.heap.size + 1 < wc.heap.size := by omega
        go_wp2_with fail
        refine (keyPath_any e le ce _ hle).mono ?_
        rintro e4 w4 ⟨rfl, hb4⟩
        obtain ⟨hc4, hf4⟩ := bcell hb4
        have hz4 : wc.heap.size ≤ w4.heap.size := hb4.size
        have hB4 : Below w.heap.size w w4 := hB3.trans (hb4.mono (by omega))
        have p0 : w4.cell? ⟨w.heap.size + 1, 0, none⟩ = some (.slice k lk ck) := by rw [hc4 _ _ (by omega)]; exact p0'
        have p1 : w4.cell? ⟨w.heap.size + 1, 1, none⟩ = some (.int .i64 (pn : Int)) := by rw [hc4 _ _ (by omega)]; exact p1'
        have hz4a : w.heap.size + 1 < w4.heap.size := by omega
        clear hb4 hc4 hf4 p0' p1' r2' r3'
        go_wp2_with fail
        refine (common_key k e lk ck le ce pn zk ze _ ?_ ?_ hp).mono ?_
        · exact (hk.below hB4).below ((Below.refl _ _).alloc (Nat.le_refl _) _)
        · exact (he.below hB4).below ((Below.refl _ _).alloc (Nat.le_refl _) _)
        rintro e5 w5 ⟨c', rfl, ⟨hd1', hd2'⟩, heq', hne', hb5⟩
        have HQ : Hid (∀ j, j < c' → tok zk j = tok ze j) := heq'
        clear heq' hne'
        obtain ⟨hc5, hf5⟩ := bcell hb5
        have hz5 : w4.heap.size < w5.heap.size := by have := hb5.size; simp at this; omega
        have hB5 : Below w.heap.size w w5 := hB4.trans (((Below.refl _ _).alloc (Nat.le_refl _) _).trans (hb5.mono (by simp)) |>.mono (by omega))
        have p0' : w5.cell? ⟨w.heap.size + 1, 0, none⟩ = some (.slice k lk ck) := by rw [hc5 _ _ (by simp; omega)]; go_simp
        have p1' : w5.cell? ⟨w.heap.size + 1, 1, none⟩ = some (.int .i64 (pn : Int)) := by rw [hc5 _ _ (by simp; omega)]; go_simp
        have q0 : w5.cell? ⟨w4.heap.size, 0, none⟩ = some (.slice e le ce) := by rw [hc5 _ _ (by simp)]; go_simp
        have q1 : w5.cell? ⟨w4.heap.size, 1, none⟩ = some (.int .i64 (2 * (le : Int))) := by rw [hc5 _ _ (by simp)]; go_simp
        clear hb5 hc5 hf5 p0 p1
        by_cases g1 : c' < pn
        · by_cases g2 : c' = 2 * le
          · have G1 : decide ((c' : Int) < (pn : Int)) = true := by simp; omega
            have G2 : ((c' : Int) == 2 * (le : Int)) = true := by simp; omega
            have HG : Hid (c' = 2 * le) := g2
            clear g2
            go_wp2
            go_quiet (fail)
            go_wp2
            go_ret
            refine ⟨true, rfl, fun _ => out_high (cmp_longer zk ze (by have := HG.out; omega) (by rw [hel, ← HG.out]; exact HQ.out)), ?_⟩
            exact ⟨hB5.os, hB5.tape, hB5.output, hB5.size, hB5.block⟩
          · have k0 := cell_regrown p0'
            have k1 := cell_regrown p1'
            have k2 := cell_regrown q0
            have k3 := cell_regrown q1
            have cA : ∀ d os, Calls Try.prog 50 #[.agg #[.slice k lk ck, .int .i64 (pn : Int)], .int .i64 (c' : Int)] (Go.Sort.grow (redrawn w5 d) os) fun e w'' => e = .returned (.int .u8 (tok zk c')) ∧ ∃ p : Regrown, w'' = Go.Sort.grow (redrawn w5 p.d) p.os :=
              fun d os => Calls.regrown_of (at_nat k lk ck pn c' zk _ ((hk.below hB5).below (below_regrown w5 d os)) (by omega))
            have cB : ∀ d os, Calls Try.prog 50 #[.agg #[.slice e le ce, .int .i64 (2 * (le : Int))], .int .i64 (c' : Int)] (Go.Sort.grow (redrawn w5 d) os) fun e w'' => e = .returned (.int .u8 (tok ze c')) ∧ ∃ p : Regrown, w'' = Go.Sort.grow (redrawn w5 p.d) p.os :=
              fun d os => Calls.regrown_of (at_nat e le ce (2 * (le : Int)) c' ze _ ((he.below hB5).below (below_regrown w5 d os)) (by omega))
            have G1 : decide ((c' : Int) < (pn : Int)) = true := by simp; omega
            have G2 : ((c' : Int) == 2 * (le : Int)) = false := by simp; omega
            generalize hx : tok zk c' = x at cA
            generalize hy : tok ze c' = y at cB
            have HT : Hid (tok zk c' = x ∧ tok ze c' = y) := ⟨hx, hy⟩
            clear hx hy p0' p1' q0 q1
            go_wp2
            refine wp_region_quiet_below (by kernel_rfl) (by kernel_rfl) ?_
            repeat (quiet_step (first | (go_at_call_of 50 (Value.slice k lk ck); exact cA _ _) | (go_at_call_of 50 (Value.slice e le ce); exact cB _ _)))
            refine wpQuiet_nil ?_
            intro _ hw'
            obtain ⟨⟨dq, osq⟩, hw''⟩ := hw'
            subst hw''
            go_wp2
            go_ret
            refine ⟨_, rfl, fun h => ?_, hB5.trans ((below_regrown w5 dq osq).mono hB5.size)⟩
            have hT := HT.out
            exact out_high (cmp_gt zk ze c' (by omega) (by omega) HQ.out (by rw [hT.1, hT.2]; simpa using h))
        · have G1 : decide ((c' : Int) < (pn : Int)) = false := by simp; omega
          go_wp2
          go_quiet (fail)
          go_wp2
          go_ret
          refine ⟨false, rfl, fun h => by simp at h, ?_⟩
          exact ⟨hB5.os, hB5.tape, hB5.output, hB5.size, hB5.block⟩
end Go.Proofs.Qxb6003417a
