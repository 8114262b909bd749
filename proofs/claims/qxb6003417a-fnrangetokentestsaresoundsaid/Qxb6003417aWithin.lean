import Derived.Test.Qxb6003417aOutside
namespace Go.Proofs.Qxb6003417a
open Go.RowKit
set_option linter.unusedVariables false

theorem run_field0 (x : Option Addr) (l c : Nat) (n : Int) (wx : World) : (Instr.field 70 (.agg #[.slice x l c, .int .i64 n]) 0).run Try.prog wx = .ok (.slice x l c) wx := by kernel_rfl

set_option maxHeartbeats 400000 in
set_option maxRecDepth 100000 in
theorem within_any (s e k : Option Addr) (ls cs le ce lk ck pn : Nat) (after hasEnd : Bool) (zs ze zk : List Int) (w : World) (hs : Bs w s ls zs) (he : Bs w e le ze) (hk : Bs w k lk zk)
    (hp : pn ≤ 2 * lk) (hls : ls ≤ 1048576) (hle : le ≤ 1048576) (hlk : lk ≤ 1048576) :
    Calls Try.prog 44 #[.agg #[.slice s ls cs, .bool after, .slice e le ce, .bool hasEnd], .agg #[.slice k lk ck, .int .i64 (pn : Int)]] w fun e w' => ∃ b, e = .returned (.bool b) ∧ (b = true → holdsB zs after ze hasEnd zk = true) ∧ Below w.heap.size w w' := by
  have hB : ∀ o p, Below w.heap.size w ((w.alloc o).alloc p) := fun o p => ((Below.refl _ _).alloc (Nat.le_refl _) _).alloc (by simp) _
  have hfd := run_field0
  go_enter Try.func44, Try.ntmps44
  go_wp2_with fail
  refine (tail_any k lk ck pn zk _ ?_ hp).mono ?_
  · exact hk.below (hB _ _)
  rintro e1 w1 ⟨g, rfl, hb1, hL⟩
  obtain ⟨hc1, hf1⟩ := bcell hb1
  have hz1 : w.heap.size + 1 < w1.heap.size := by have := hb1.size; simp at this; omega
  have hB1 : Below w.heap.size w w1 := (hB _ _).trans (hb1.mono (by simp; omega))
  have r0 : w1.cell? ⟨w.heap.size, 0, none⟩ = some (.slice s ls cs) := by rw [hc1 _ _ (by simp; omega)]; go_simp
  have r1 : w1.cell? ⟨w.heap.size, 1, none⟩ = some (.bool after) := by rw [hc1 _ _ (by simp; omega)]; go_simp
  have r2 : w1.cell? ⟨w.heap.size, 2, none⟩ = some (.slice e le ce) := by rw [hc1 _ _ (by simp; omega)]; go_simp
  have r3 : w1.cell? ⟨w.heap.size, 3, none⟩ = some (.bool hasEnd) := by rw [hc1 _ _ (by simp; omega)]; go_simp
  have p0 : w1.cell? ⟨w.heap.size + 1, 0, none⟩ = some (.slice k lk ck) := by rw [hc1 _ _ (by simp)]; go_simp
  have p1 : w1.cell? ⟨w.heap.size + 1, 1, none⟩ = some (.int .i64 (pn : Int)) := by rw [hc1 _ _ (by simp)]; go_simp
  have hkl := hk.1
  have hsl := hs.1
  have hel := he.1
  clear hb1 hc1 hf1
  go_wp2_with fail
  clear hfd
  refine (compare_any (some ⟨g, 0, none⟩) s ((pn + 1) / 2) ((pn + 1) / 2) ls cs (leastOf zk pn) zs w1 hL (hs.below hB1)).mono ?_
  rintro e2 w2 ⟨rfl, rfl⟩
  have hr := cmp_range (leastOf zk pn) zs
  have hin : ∀ he : hasEnd = false ∨ cmpI zk ze = -1, ¬ (cmpI (leastOf zk pn) zs < 0 ∨ (cmpI (leastOf zk pn) zs = 0 ∧ after = true)) → holdsB zs after ze hasEnd zk = true := fun he h => in_low (n := pn) (by omega) h he
  generalize cmpI (leastOf zk pn) zs = x at hr hin ⊢
  have HIN : Hid (∀ he : hasEnd = false ∨ cmpI zk ze = -1, ¬ (x < 0 ∨ (x = 0 ∧ after = true)) → holdsB zs after ze hasEnd zk = true) := hin
  clear hin
  go_upto_region 3 with (fail)
  go_cut [25] from 9 (fun s25 w3 => ∃ b, s25 = .bool b ∧ (b = false → ¬ (x < 0 ∨ (x = 0 ∧ after = true))) ∧ w3 = w2)
  case first =>
    rcases hr with rfl | rfl | rfl <;> cases after
    all_goals
      go_wp2
      go_meet
      case rel => exact ⟨_, rfl, by simp, rfl⟩
  case rest =>
    obtain ⟨b, rfl, hb, rfl⟩ := hcut
    clear hr
    cases b
    case true =>
      clear hb HIN
      go_wp2
      go_ret
      exact ⟨false, rfl, fun h => by simp at h, hB1⟩
    case false =>
      have HO : Hid (∀ he : hasEnd = false ∨ cmpI zk ze = -1, holdsB zs after ze hasEnd zk = true) := fun he => HIN.out he (hb rfl)
      clear hb HIN
      cases hasEnd
      case false =>
        have HF : Hid (holdsB zs after ze false zk = true) := HO.out (.inl rfl)
        clear HO
        go_wp2
        go_ret
        exact ⟨true, rfl, fun _ => HF.out, hB1⟩
      case true =>
        go_wp2_with fail
        refine (keyPath_any e le ce _ hle).mono ?_
        rintro e4 w4 ⟨rfl, hb4⟩
        obtain ⟨hc4, hf4⟩ := bcell hb4
        have hz4 : wc.heap.size ≤ w4.heap.size := hb4.size
        have hB4 : Below w.heap.size w w4 := hB1.trans (hb4.mono (by omega))
        have p0' : w4.cell? ⟨w.heap.size + 1, 0, none⟩ = some (.slice k lk ck) := by rw [hc4 _ _ (by omega)]; exact p0
        have p1' : w4.cell? ⟨w.heap.size + 1, 1, none⟩ = some (.int .i64 (pn : Int)) := by rw [hc4 _ _ (by omega)]; exact p1
        have hz4a : w.heap.size + 1 < w4.heap.size := by omega
        clear hb4 hc4 hf4 p0 p1 r0 r1 r2 r3
        go_wp2_with fail
        refine (common_key k e lk ck le ce pn zk ze _ ?_ ?_ hp).mono ?_
        · exact (hk.below hB4).below ((Below.refl _ _).alloc (Nat.le_refl _) _)
        · exact (he.below hB4).below ((Below.refl _ _).alloc (Nat.le_refl _) _)
        rintro e5 w5 ⟨c', rfl, ⟨hd1', hd2'⟩, heq', hne', hb5⟩
        have HQ : Hid (∀ j, j < c' → tok zk j = tok ze j) := heq'
        clear heq' hne'
        obtain ⟨hc5, hf5⟩ := bcell hb5
        have hz5 : w4.heap.size < w5.heap.size := by have := hb5.size; simp at this; omega
        have hB5 : Below w.heap.size w w5 := hB4.trans (((Below.refl _ _).alloc (Nat.le_refl _) _).trans (hb5.mono (by simp)) |>.mono (by omega))
        have p0 : w5.cell? ⟨w.heap.size + 1, 0, none⟩ = some (.slice k lk ck) := by rw [hc5 _ _ (by simp; omega)]; go_simp
        have p1 : w5.cell? ⟨w.heap.size + 1, 1, none⟩ = some (.int .i64 (pn : Int)) := by rw [hc5 _ _ (by simp; omega)]; go_simp
        have q0 : w5.cell? ⟨w4.heap.size, 0, none⟩ = some (.slice e le ce) := by rw [hc5 _ _ (by simp)]; go_simp
        have q1 : w5.cell? ⟨w4.heap.size, 1, none⟩ = some (.int .i64 (2 * (le : Int))) := by rw [hc5 _ _ (by simp)]; go_simp
        clear hb5 hc5 hf5 p0' p1'
        by_cases g1 : c' < pn
        · by_cases g2 : c' < 2 * le
          · have k0 := cell_regrown p0
            have k1 := cell_regrown p1
            have k2 := cell_regrown q0
            have k3 := cell_regrown q1
            have cA : ∀ d os, Calls Try.prog 50 #[.agg #[.slice k lk ck, .int .i64 (pn : Int)], .int .i64 (c' : Int)] (Go.Sort.grow (redrawn w5 d) os) fun e w'' => e = .returned (.int .u8 (tok zk c')) ∧ ∃ p : Regrown, w'' = Go.Sort.grow (redrawn w5 p.d) p.os :=
              fun d os => Calls.regrown_of (at_nat k lk ck pn c' zk _ ((hk.below hB5).below (below_regrown w5 d os)) (by omega))
            have cB : ∀ d os, Calls Try.prog 50 #[.agg #[.slice e le ce, .int .i64 (2 * (le : Int))], .int .i64 (c' : Int)] (Go.Sort.grow (redrawn w5 d) os) fun e w'' => e = .returned (.int .u8 (tok ze c')) ∧ ∃ p : Regrown, w'' = Go.Sort.grow (redrawn w5 p.d) p.os :=
              fun d os => Calls.regrown_of (at_nat e le ce (2 * (le : Int)) c' ze _ ((he.below hB5).below (below_regrown w5 d os)) (by omega))
            have G1 : decide ((c' : Int) < (pn : Int)) = true := by simp; omega
            have G2 : decide ((c' : Int) < 2 * (le : Int)) = true := by simp; omega
            generalize hx : tok zk c' = x at cA
            generalize hy : tok ze c' = y at cB
            have HT : Hid (tok zk c' = x ∧ tok ze c' = y) := ⟨hx, hy⟩
            clear hx hy p0 p1 q0 q1
            go_wp2
            refine wp_region_quiet_below (by kernel_rfl) (by kernel_rfl) ?_
            repeat (quiet_step (first | (go_at_call_of 50 (Value.slice k lk ck); exact cA _ _) | (go_at_call_of 50 (Value.slice e le ce); exact cB _ _)))
            refine wpQuiet_nil ?_
            intro _ hw'
            obtain ⟨⟨dq, osq⟩, hw''⟩ := hw'
            subst hw''
            go_wp2
            go_ret
            refine ⟨_, rfl, fun h => ?_, hB5.trans ((below_regrown w5 dq osq).mono hB5.size)⟩
            have hT := HT.out
            exact HO.out (.inr (cmp_lt zk ze c' (by omega) (by omega) HQ.out (by rw [hT.1, hT.2]; simpa using h)))
          · have G1 : decide ((c' : Int) < (pn : Int)) = true := by simp; omega
            have G2 : decide ((c' : Int) < 2 * (le : Int)) = false := by simp; omega
            go_wp2
            go_quiet (fail)
            go_wp2
            go_ret
            refine ⟨false, rfl, fun h => by simp at h, ?_⟩
            exact ⟨hB5.os, hB5.tape, hB5.output, hB5.size, hB5.block⟩
        · have G1 : decide ((c' : Int) < (pn : Int)) = false := by simp; omega
          go_wp2
          go_quiet (fail)
          go_wp2
          go_ret
          refine ⟨false, rfl, fun h => by simp at h, ?_⟩
          exact ⟨hB5.os, hB5.tape, hB5.output, hB5.size, hB5.block⟩
end Go.Proofs.Qxb6003417a
