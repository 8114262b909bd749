import Derived.Test.Qxb6603126aMBytes
import Derived.Test.Qxb6603126aEqual
namespace Go.Proofs.Qxb6603126a
open Go.RowKit
set_option linter.unusedVariables false

theorem Col.ofRow {w : World} {g n : Nat} {F : Nat → Value} (h : w.rowIs g 58 n F) (hg : g < w.heap.size) : Col w (some ⟨g, 0, none⟩) n F :=
  .inr ⟨g, 0, rfl, hg, fun i hi => by rw [Nat.zero_add]; exact h.cell hi⟩

theorem member_any (a0 a1 a2 a3 : Option Addr) (n c0 c1 c2 c3 : Nat) (key : ByteArray) (N Uf : Nat → ByteArray) (Sf : Nat → Int) (Lf : Nat → Bool) (w : World) (hn : n ≤ 65536) (hnil : a0 = none → n = 0 ∧ c0 = 0)
    (h0 : Col w a0 n (fun i => .string (N i))) (h1 : Col w a1 n (fun i => .string (Uf i))) (h2 : Col w a2 n (fun i => .int .u64 (Sf i))) (h3 : Col w a3 n (fun i => .bool (Lf i))) :
    Calls Try.prog 23 #[.slice a0 n c0, .slice a1 n c1, .slice a2 n c2, .slice a3 n c3, .string key] w fun e w' =>
      ∃ x c, e = .returned (.agg #[.slice x n c, .string key]) ∧ Below w.heap.size w w' ∧ Col w' x (n * 4) (memF N Uf Sf Lf) := by
  cases a0 with
  | none =>
    obtain ⟨rfl, rfl⟩ := hnil rfl
    refine (member_nil a1 a2 a3 0 0 0 c1 c2 c3 key w).mono ?_
    rintro e w' ⟨rfl, hb⟩
    exact ⟨none, 0, rfl, hb, .inl rfl⟩
  | some x =>
    refine (member_some x a1 a2 a3 n c0 c1 c2 c3 key N Uf Sf Lf w hn h0 h1 h2 h3).mono ?_
    rintro e w' ⟨rfl, hb, hr⟩
    refine ⟨_, _, rfl, hb, Col.ofRow hr ?_⟩
    exact hr.lt

theorem hidI {p : Prop} (h : p) : Hid p := h

set_option maxHeartbeats 1000000 in
set_option maxRecDepth 100000 in
theorem walk (a0 a1 a2 a3 a5 a6 a7 a8 : Option Addr) (l0 c0 l1 c1 l2 c2 l3 c3 l5 c5 l6 c6 l7 c7 l8 c8 : Nat) (k4 k9 : ByteArray) (N0 N1 N5 N6 : Nat → ByteArray) (S2 S7 : Nat → Int) (L3 L8 : Nat → Bool) (w : World)
    (n0 : a0 = none → l0 = 0 ∧ c0 = 0) (n5 : a5 = none → l5 = 0 ∧ c5 = 0)
    (h0 : Col w a0 l0 (fun i => .string (N0 i))) (h1 : Col w a1 l1 (fun i => .string (N1 i))) (h2 : Col w a2 l2 (fun i => .int .u64 (S2 i))) (h3 : Col w a3 l3 (fun i => .bool (L3 i)))
    (h5 : Col w a5 l5 (fun i => .string (N5 i))) (h6 : Col w a6 l6 (fun i => .string (N6 i))) (h7 : Col w a7 l7 (fun i => .int .u64 (S7 i))) (h8 : Col w a8 l8 (fun i => .bool (L8 i)))
    (b0 : l0 ≤ maxLen) (b1 : l1 ≤ maxLen) (b2 : l2 ≤ maxLen) (b3 : l3 ≤ maxLen) (b5 : l5 ≤ maxLen) (b6 : l6 ≤ maxLen) (b7 : l7 ≤ maxLen) (b8 : l8 ≤ maxLen) (b4 : k4.size ≤ maxLen) (b9 : k9.size ≤ maxLen)
    (s0 : ∀ i, (N0 i).size ≤ maxLen) (s1 : ∀ i, (N1 i).size ≤ maxLen) (s5 : ∀ i, (N5 i).size ≤ maxLen) (s6 : ∀ i, (N6 i).size ≤ maxLen) :
    Calls Try.prog 7 #[.slice a0 l0 c0, .slice a1 l1 c1, .slice a2 l2 c2, .slice a3 l3 c3, .string k4, .slice a5 l5 c5, .slice a6 l6 c6, .slice a7 l7 c7, .slice a8 l8 c8, .string k9] w fun e w' => e = .returned (.bool true) ∧ Below w.heap.size w w' := by
  have cB := hidI (bytes_any a0 a1 a2 a3 a5 a6 a7 a8 l0 c0 l1 c1 l2 c2 l3 c3 l5 c5 l6 c6 l7 c7 l8 c8 k4 k9 N0 N1 N5 N6 w h0 h1 h5 h6 b0 b1 b2 b3 b5 b6 b7 b8 b4 b9 s0 s1 s5 s6)
  have cM := hidI (mbytes_any a0 a1 a2 a3 l0 c0 l1 c1 l2 c2 l3 c3 k4 N0 N1 w h0 h1 b0 b1 b2 b3 b4)
  have cO := hidI (mbytes_any a5 a6 a7 a8 l5 c5 l6 c6 l7 c7 l8 c8 k9 N5 N6 w h5 h6 b5 b6 b7 b8 b9)
  clear b0 b1 b2 b3 b4 b5 b6 b7 b8 b9 s0 s1 s5 s6
  go_enter Try.func7, Try.ntmps7
  go_wp2_with fail
  refine cB.out.mono ?_
  rintro e wx ⟨⟨b, rfl, hb⟩, hwx⟩
  subst hwx
  cases b with
  | false =>
    go_wp2_with fail
    go_ret
    exact ⟨rfl, Below.refl _ _⟩
  | true =>
    obtain ⟨s0, s1, s5, s6⟩ := hb rfl
    go_wp2_with fail
    refine (cM.out s0 s1).mono ?_
    rintro e w1 ⟨⟨r, rfl, hr1, hr2, hr⟩, hw1⟩
    subst hw1
    go_wp2_with fail
    refine (cO.out s5 s6).mono ?_
    rintro e w2 ⟨⟨r', rfl, hr1', hr2', hr'⟩, hw2⟩
    subst hw2
    by_cases q1 : r < 0
    · have g1 : decide (r < 0) = true := by simpa using q1
      go_wp2_with fail
      go_ret
      exact ⟨rfl, Below.refl _ _⟩
    by_cases q2 : r' < 0
    · go_wp2_with fail
      go_ret
      exact ⟨rfl, Below.refl _ _⟩
    by_cases q3 : 1048576 < r + r'
    · go_wp2_with fail
      go_ret
      exact ⟨rfl, Below.refl _ _⟩
    have hl0 := hr (by omega)
    have hl5 := hr' (by omega)
    clear hr hr'
    clear s0 s1 s5 s6 cB cM cO hb
    go_wp2_with fail
    clear hr1 hr2 hr1' hr2' q1 q2 q3
    refine (fits_any a0 a1 a2 a3 l0 c0 l1 c1 l2 c2 l3 c3 _).mono ?_
    rintro e w3 ⟨⟨f1, rfl, hf1⟩, hw3⟩
    subst hw3
    cases f1 with
    | false =>
      go_wp2_with fail
      go_ret
      exact ⟨rfl, Below.refl _ _⟩
    | true =>
    obtain ⟨e1, e2, e3⟩ := hf1 rfl
    clear hf1
    subst e1 e2 e3
    go_wp2_with fail
    refine (fits_any a5 a6 a7 a8 l5 c5 l6 c6 l7 c7 l8 c8 _).mono ?_
    rintro e w4 ⟨⟨f2, rfl, hf2⟩, hw4⟩
    subst hw4
    cases f2 with
    | false =>
      go_wp2_with fail
      go_ret
      exact ⟨rfl, Below.refl _ _⟩
    | true =>
    obtain ⟨e1, e2, e3⟩ := hf2 rfl
    clear hf2
    subst e1 e2 e3
    go_wp2_with fail
    refine (member_any a0 a1 a2 a3 l3 c0 c1 c2 c3 k4 N0 N1 S2 L3 w4 hl0 n0 h0 h1 h2 h3).mono ?_
    rintro e wm ⟨x, cx, rfl, bm, cm⟩
    have bA : Below w4.heap.size w4 (wm.alloc (.cells #[.slice x l3 cx, .string k4] 48)) := bm.alloc bm.size _
    have cA : Col (wm.alloc (.cells #[.slice x l3 cx, .string k4] 48)) x (l3 * 4) (memF N0 N1 S2 L3) := cm.below ((Below.refl _ _).alloc (Nat.le_refl _) _)
    have pA : (wm.alloc (.cells #[.slice x l3 cx, .string k4] 48)).heap[wm.heap.size]? = some (.cells #[.slice x l3 cx, .string k4] 48 (0, 0)) := Go.Deep.blk_alloc_new _ _
    have qA : wm.heap.size < (wm.alloc (.cells #[.slice x l3 cx, .string k4] 48)).heap.size := by simp
    go_wp2_with fail
    generalize wm.alloc (.cells #[.slice x l3 cx, .string k4] 48) = wA at bA cA pA qA ⊢
    generalize wm.heap.size = gm at pA qA ⊢
    clear bm cm
    refine (member_any a5 a6 a7 a8 l8 c5 c6 c7 c8 k9 N5 N6 S7 L8 wA hl5 n5 (h5.below bA) (h6.below bA) (h7.below bA) (h8.below bA)).mono ?_
    rintro e wo ⟨y, cy, rfl, bo, co⟩
    have bO : Below wA.heap.size wA (wo.alloc (.cells #[.slice y l8 cy, .string k9] 48)) := bo.alloc bo.size _
    have cO : Col (wo.alloc (.cells #[.slice y l8 cy, .string k9] 48)) y (l8 * 4) (memF N5 N6 S7 L8) := co.below ((Below.refl _ _).alloc (Nat.le_refl _) _)
    have pO : (wo.alloc (.cells #[.slice y l8 cy, .string k9] 48)).heap[wo.heap.size]? = some (.cells #[.slice y l8 cy, .string k9] 48 (0, 0)) := Go.Deep.blk_alloc_new _ _
    have qO : wo.heap.size < (wo.alloc (.cells #[.slice y l8 cy, .string k9] 48)).heap.size := by simp
    go_wp2_with fail
    generalize wo.alloc (.cells #[.slice y l8 cy, .string k9] 48) = wO at bO cO pO qO ⊢
    generalize wo.heap.size = go at pO qO ⊢
    clear bo co
    have bW : Below w4.heap.size w4 wO := bA.trans (bO.mono bA.size)
    refine (member_any a0 a1 a2 a3 l3 c0 c1 c2 c3 k4 N0 N1 S2 L3 wO hl0 n0 (h0.below bW) (h1.below bW) (h2.below bW) (h3.below bW)).mono ?_
    rintro e wt ⟨z, cz, rfl, bt, ct⟩
    have bT : Below wO.heap.size wO (wt.alloc (.cells #[.slice z l3 cz, .string k4] 48)) := bt.alloc bt.size _
    have cT : Col (wt.alloc (.cells #[.slice z l3 cz, .string k4] 48)) z (l3 * 4) (memF N0 N1 S2 L3) := ct.below ((Below.refl _ _).alloc (Nat.le_refl _) _)
    have pT : (wt.alloc (.cells #[.slice z l3 cz, .string k4] 48)).heap[wt.heap.size]? = some (.cells #[.slice z l3 cz, .string k4] 48 (0, 0)) := Go.Deep.blk_alloc_new _ _
    go_wp2_with fail
    generalize wt.alloc (.cells #[.slice z l3 cz, .string k4] 48) = W at bT cT pT ⊢
    generalize wt.heap.size = gt at pT ⊢
    clear bt ct
    have bX : Below w4.heap.size w4 W := bW.trans (bT.mono bW.size)
    have bAW : Below wA.heap.size wA W := bO.trans (bT.mono bO.size)
    have u0 : W.cell? ⟨gm, 0, none⟩ = some (.slice x l3 cx) := by rw [bAW.cell (p := ⟨gm, 0, none⟩) qA]; simp [World.cell?, pA]
    have u1 : W.cell? ⟨gm, 1, none⟩ = some (.string k4) := by rw [bAW.cell (p := ⟨gm, 1, none⟩) qA]; simp [World.cell?, pA]
    have u2 : W.cell? ⟨go, 0, none⟩ = some (.slice y l8 cy) := by rw [bT.cell (p := ⟨go, 0, none⟩) qO]; simp [World.cell?, pO]
    have u3 : W.cell? ⟨go, 1, none⟩ = some (.string k9) := by rw [bT.cell (p := ⟨go, 1, none⟩) qO]; simp [World.cell?, pO]
    have u4 : W.cell? ⟨gt, 0, none⟩ = some (.slice z l3 cz) := by simp [World.cell?, pT]
    have u5 : W.cell? ⟨gt, 1, none⟩ = some (.string k4) := by simp [World.cell?, pT]
    have k0 := cell_regrown u0
    have k1 := cell_regrown u1
    have k2 := cell_regrown u2
    have k3 := cell_regrown u3
    have k4' := cell_regrown u4
    have k5 := cell_regrown u5
    have X : Col W x (l3 * 4) (memF N0 N1 S2 L3) := cA.below bAW
    have Y : Col W y (l8 * 4) (memF N5 N6 S7 L8) := cO.below bT
    have call : ∀ (p q : Option Addr) (n c n' c' : Nat) (key key' : ByteArray) (N U : Nat → ByteArray) (S : Nat → Int) (L : Nat → Bool) (N' U' : Nat → ByteArray) (S' : Nat → Int) (L' : Nat → Bool),
        Col W p (n * 4) (memF N U S L) → Col W q (n' * 4) (memF N' U' S' L') → n ≤ 65536 → ∀ v, eqL n n' key key' N U S L N' U' S' L' = v →
        ∀ d os, Calls Try.prog 24 #[.agg #[.slice p n c, .string key], .agg #[.slice q n' c', .string key']] (Go.Sort.grow (redrawn W d) os) fun e w'' => e = .returned (.bool v) ∧ ∃ p : Regrown, w'' = Go.Sort.grow (redrawn W p.d) p.os := by
      intro p q n c n' c' key key' N U S L N' U' S' L' hp hq hn v hv d os
      refine Calls.regrown_of ((equal_any p q n c n' c' key key' N U S L N' U' S' L' _ (hp.below (below_regrown W d os)) (hq.below (below_regrown W d os)) hn).mono ?_)
      rintro e w' ⟨he, hb⟩
      rw [hv] at he
      exact ⟨he, hb⟩
    have cXY := call x y l3 cx l8 cy k4 k9 _ _ _ _ _ _ _ _ X Y hl0 _ rfl
    have cYX := call y x l8 cy l3 cx k9 k4 _ _ _ _ _ _ _ _ Y X hl5 _ (eqL_symm ..)
    have cXX := call x x l3 cx l3 cx k4 k4 _ _ _ _ _ _ _ _ X X hl0 _ (eqL_refl ..)
    have cXT := call x z l3 cx l3 cz k4 k4 _ _ _ _ _ _ _ _ X cT hl0 _ (eqL_refl ..)
    have cTX := call z x l3 cz l3 cx k4 k4 _ _ _ _ _ _ _ _ cT X hl0 _ (eqL_refl ..)
    have cYY := call y y l8 cy l8 cy k9 k9 _ _ _ _ _ _ _ _ Y Y hl5 _ (eqL_refl ..)
    generalize eqL l3 l8 k4 k9 N0 N1 S2 L3 N5 N6 S7 L8 = R at cXY cYX
    have hRR : (R == R) = true := by simp
    have BX : Hid (Below w4.heap.size w4 W) := bX
    clear call X Y u0 u1 u2 u3 u4 u5 pT pO pA cA cO cT bX bAW bA bO bT bW qA qO h0 h1 h2 h3 h5 h6 h7 h8 n0 n5 hl0 hl5
    refine wp_region_quiet_below (by kernel_rfl) (by kernel_rfl) ?_
    repeat (quiet_step (first
      | (go_at_call_of 24 (#[Value.agg #[.slice x l3 cx, .string k4], Value.agg #[.slice y l8 cy, .string k9]]); exact cXY _ _)
      | (go_at_call_of 24 (#[Value.agg #[.slice y l8 cy, .string k9], Value.agg #[.slice x l3 cx, .string k4]]); exact cYX _ _)
      | (go_at_call_of 24 (#[Value.agg #[.slice x l3 cx, .string k4], Value.agg #[.slice x l3 cx, .string k4]]); exact cXX _ _)
      | (go_at_call_of 24 (#[Value.agg #[.slice x l3 cx, .string k4], Value.agg #[.slice z l3 cz, .string k4]]); exact cXT _ _)
      | (go_at_call_of 24 (#[Value.agg #[.slice z l3 cz, .string k4], Value.agg #[.slice x l3 cx, .string k4]]); exact cTX _ _)
      | (go_at_call_of 24 (#[Value.agg #[.slice y l8 cy, .string k9], Value.agg #[.slice y l8 cy, .string k9]]); exact cYY _ _)))
    refine wpQuiet_nil ?_
    intro _ hw'
    obtain ⟨⟨dq, osq⟩, hw''⟩ := hw'
    subst hw''
    go_wp2
    go_ret
    exact ⟨rfl, BX.out.trans ((below_regrown W dq osq).mono BX.out.size)⟩
end Go.Proofs.Qxb6603126a
