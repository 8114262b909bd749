import Derived.Test.Qxb6003417aWithin
import Derived.Laws.CopyOwn
import Derived.Laws.IdiomCopy
namespace Go.Proofs.Qxb6003417a
open Go.RowKit
set_option linter.unusedVariables false

theorem size5 : (Try.prog.info? 5).map (·.size) = some 1 := by kernel_rfl

/-- 'copy(out, s)', out new and as long. -/
theorem copy_all {w : World} {x : Addr} {len : Nat} {zs : List Int} (cap : Nat) (h : Bs w (some x) len zs) :
    ∃ w2, (∀ ty, (Builtin.copy_ #[22, 22] ty #[.slice (some ⟨w.heap.size, 0, none⟩) len len, .slice (some x) len cap]).run Try.prog (w.alloc (.cells (madeCells #[.int .u8 0] len) 5)) = .ok (.int .i64 (len : Int)) w2) ∧
      Below w.heap.size w w2 ∧ Bs w2 (some ⟨w.heap.size, 0, none⟩) len zs := by
  obtain ⟨h1, h2, h3, h4⟩ := h
  have hB1 : Below w.heap.size w (w.alloc (.cells (madeCells #[.int .u8 0] len) 5)) := (Below.refl _ _).alloc (Nat.le_refl _) _
  rcases h4 with h4 | ⟨b, off, hx, hlt, hc⟩
  · refine ⟨_, fun ty => ?_, hB1, h1, h2, h3, .inl h4⟩
    have := run_copy_none (P := Try.prog) (w.alloc (.cells (madeCells #[.int .u8 0] len) 5)) 22 22 ty 5 (some ⟨w.heap.size, 0, none⟩) (some x) len len len cap Try.underlying22 size5 (by rw [h4]; rfl)
    rw [this, h4]; rfl
  · obtain rfl : x = ⟨b, off, none⟩ := by simpa using hx
    have hg : (w.alloc (.cells (madeCells #[.int .u8 0] len) 5)).heap[w.heap.size]? = some (.cells (madeCells #[.int .u8 0] len) 5 (0, 0)) := Go.Deep.blk_alloc_new _ _
    have hcell : ∀ j v, (zs.map (Value.int .u8))[j]? = some v → (w.alloc (.cells (madeCells #[.int .u8 0] len) 5)).cell? ((⟨b, off, none⟩ : Addr).add j) = some v := by
      intro j v hj
      have e : (⟨b, off, none⟩ : Addr).add j = ⟨b, off + j, none⟩ := by unfold Addr.add; split <;> simp_all
      rw [List.getElem?_map] at hj
      obtain ⟨n, hn, rfl⟩ := Option.map_eq_some_iff.1 hj
      have hjl : j < zs.length := (List.getElem?_eq_some_iff.1 hn).1
      rw [e, hB1.cell (p := ⟨b, off + j, none⟩) hlt, hc j (by omega), List.getD_eq_getElem?_getD, hn]
      rfl
    have hrow : ((w.alloc (.cells (madeCells #[.int .u8 0] len) 5)).setRow w.heap.size (zs.map (Value.int .u8)).toArray).heap[w.heap.size]? = some (.cells (zs.map (Value.int .u8)).toArray 5 (0, 0)) := by
      exact setRow_heap _ _ _ _ _ _ hg
    refine ⟨(w.alloc (.cells (madeCells #[.int .u8 0] len) 5)).setRow w.heap.size (zs.map (Value.int .u8)).toArray, fun ty => ?_, below_setRow hB1 (Nat.le_refl _) _, h1, h2, h3, .inr ⟨w.heap.size, 0, rfl, (Array.getElem?_eq_some_iff.1 hrow).1, fun i hi => ?_⟩⟩
    · have := run_copy_row (P := Try.prog) (w.alloc (.cells (madeCells #[.int .u8 0] len) 5)) 22 22 ty 5 w.heap.size 0 len len ⟨b, off, none⟩ len cap _ 5 (zs.map (Value.int .u8)) Try.underlying22 size5 hg (by simp [h1]) hcell (by simp [h1, size_madeCells]) (by simp [Value.oneCell'])
      rw [this]
      have e1 : (madeCells #[.int .u8 0] len).toList.drop (0 + (zs.map (Value.int .u8)).length) = [] := List.drop_eq_nil_of_le (by simp [h1, size_madeCells])
      rw [e1]
      simp [goInt, h1]
    · unfold World.cell?
      rw [hrow]
      have hil : i < zs.length := by omega
      simp [List.getD, List.getElem?_eq_getElem hil]

set_option maxHeartbeats 400000 in
theorem clone_some (x : Addr) (len cap : Nat) (zs : List Int) (w : World) (h : Bs w (some x) len zs) (hl : len ≤ 1048576) :
    Calls Try.prog 11 #[.slice (some x) len cap] w fun e w' => ∃ a c, e = .returned (.slice a len c) ∧ Below w.heap.size w w' ∧ Bs w' a len zs := by
  have hmk := fun wx => run_make_row' (P := Try.prog) 22 5 (.int .u8 0) 1 Try.underlying22 info5 rfl .i64 .i64 len (by omega) (by omega) wx
  have heq := fun wx => Lib.run_eql_slice_nil (P := Try.prog) wx 22 5 (some x) len cap 0 0 Try.underlying22
  obtain ⟨w2, hcp, hB, hBs⟩ := copy_all cap h
  clear h
  go_enter Try.func11, Try.ntmps11
  go_wp2
  go_ret
  exact ⟨_, _, rfl, hB, hBs⟩

set_option maxHeartbeats 400000 in
theorem clone_nil (w : World) :
    Calls Try.prog 11 #[.slice none 0 0] w fun e w' => ∃ a c, e = .returned (.slice a 0 c) ∧ Below w.heap.size w w' ∧ Bs w' a 0 [] := by
  have heq := fun wx => Lib.run_eql_slice_nil (P := Try.prog) wx 22 5 none 0 0 0 0 Try.underlying22
  go_enter Try.func11, Try.ntmps11
  go_wp2
  go_ret
  exact ⟨none, 0, rfl, Below.refl _ _, rfl, by omega, by simp, .inl rfl⟩

set_option maxHeartbeats 400000 in
theorem shim_holds (s e k : Option Addr) (ls cs le ce lk ck : Nat) (after hasEnd : Bool) (zs ze zk : List Int) (w : World) (hs : Bs w s ls zs) (he : Bs w e le ze) (hk : Bs w k lk zk) :
    Calls Try.prog 18 #[.agg #[.slice s ls cs, .bool after, .slice e le ce, .bool hasEnd], .slice k lk ck] w fun e w' => e = .returned (.bool (holdsB zs after ze hasEnd zk)) ∧ Below w.heap.size w w' := by
  have hB : ∀ o, Below w.heap.size w (w.alloc o) := fun o => (Below.refl _ _).alloc (Nat.le_refl _) _
  go_enter Try.func18, Try.ntmps18
  go_wp2_with fail
  refine (holds_any s e k ls cs le ce lk ck after hasEnd zs ze zk _ (by exact hs.below (hB _)) (by exact he.below (hB _)) (by exact hk.below (hB _))).mono ?_
  rintro e w1 ⟨rfl, hb⟩
  go_wp2
  go_ret
  exact ⟨rfl, (hB _).trans (hb.mono (by simp))⟩

set_option maxHeartbeats 400000 in
theorem shim_outside (s e k : Option Addr) (ls cs le ce lk ck pn : Nat) (after hasEnd : Bool) (zs ze zk : List Int) (w : World) (hs : Bs w s ls zs) (he : Bs w e le ze) (hk : Bs w k lk zk)
    (hp : pn ≤ 2 * lk) :
    Calls Try.prog 19 #[.agg #[.slice s ls cs, .bool after, .slice e le ce, .bool hasEnd], .slice k lk ck, .int .i64 (pn : Int)] w fun e w' => ∃ b, e = .returned (.bool b) ∧ (b = true → holdsB zs after ze hasEnd zk = false) ∧ Below w.heap.size w w' := by
  have hB : ∀ o, Below w.heap.size w (w.alloc o) := fun o => (Below.refl _ _).alloc (Nat.le_refl _) _
  go_enter Try.func19, Try.ntmps19
  go_wp2_with fail
  refine (outside_any s e k ls cs le ce lk ck pn after hasEnd zs ze zk _ (by exact hs.below (hB _)) (by exact he.below (hB _)) (by exact hk.below (hB _)) hp hs.2.1 he.2.1 hk.2.1).mono ?_
  rintro e w1 ⟨b, rfl, h1, hb⟩
  have H1 : Hid (b = true → holdsB zs after ze hasEnd zk = false) := h1
  clear h1
  go_wp2
  go_ret
  exact ⟨b, rfl, H1.out, (hB _).trans (hb.mono (by simp))⟩

set_option maxHeartbeats 400000 in
theorem shim_within (s e k : Option Addr) (ls cs le ce lk ck pn : Nat) (after hasEnd : Bool) (zs ze zk : List Int) (w : World) (hs : Bs w s ls zs) (he : Bs w e le ze) (hk : Bs w k lk zk)
    (hp : pn ≤ 2 * lk) :
    Calls Try.prog 20 #[.agg #[.slice s ls cs, .bool after, .slice e le ce, .bool hasEnd], .slice k lk ck, .int .i64 (pn : Int)] w fun e w' => ∃ b, e = .returned (.bool b) ∧ (b = true → holdsB zs after ze hasEnd zk = true) ∧ Below w.heap.size w w' := by
  have hB : ∀ o, Below w.heap.size w (w.alloc o) := fun o => (Below.refl _ _).alloc (Nat.le_refl _) _
  go_enter Try.func20, Try.ntmps20
  go_wp2_with fail
  refine (within_any s e k ls cs le ce lk ck pn after hasEnd zs ze zk _ (by exact hs.below (hB _)) (by exact he.below (hB _)) (by exact hk.below (hB _)) hp hs.2.1 he.2.1 hk.2.1).mono ?_
  rintro e w1 ⟨b, rfl, h1, hb⟩
  have H1 : Hid (b = true → holdsB zs after ze hasEnd zk = true) := h1
  clear h1
  go_wp2
  go_ret
  exact ⟨b, rfl, H1.out, (hB _).trans (hb.mono (by simp))⟩

set_option maxHeartbeats 400000 in
theorem bytes_no (a0 a2 a4 : Option Addr) (l0 c0 l2 c2 l4 c4 : Nat) (b1 b3 : Bool) (n : Int) (w : World) (h0 : l0 ≤ maxLen) (h2 : l2 ≤ maxLen) (h4 : l4 ≤ maxLen) (h : 1048576 < l0 + l2 + l4) :
    Calls Try.prog 17 #[.slice a0 l0 c0, .bool b1, .slice a2 l2 c2, .bool b3, .slice a4 l4 c4, .int .i64 n] w fun e w' => e = .returned (.bool false) ∧ w' = w := by
  unfold maxLen at h0 h2 h4
  go_enter Try.func17, Try.ntmps17
  go_wp2
  all_goals
    go_ret
    exact ⟨rfl, rfl⟩

set_option maxHeartbeats 400000 in
theorem bytes_yes (a0 a2 a4 : Option Addr) (l0 c0 l2 c2 l4 c4 : Nat) (b1 b3 : Bool) (n : Int) (w : World) (h : l0 + l2 + l4 ≤ 1048576) :
    Calls Try.prog 17 #[.slice a0 l0 c0, .bool b1, .slice a2 l2 c2, .bool b3, .slice a4 l4 c4, .int .i64 n] w fun e w' => e = .returned (.bool true) ∧ w' = w := by
  go_enter Try.func17, Try.ntmps17
  go_wp2
  go_ret
  exact ⟨rfl, rfl⟩
end Go.Proofs.Qxb6003417a
