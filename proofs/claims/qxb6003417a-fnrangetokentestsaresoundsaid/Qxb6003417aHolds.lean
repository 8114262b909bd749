import Derived.Test.Qxb6003417aCommon
namespace Go.Proofs.Qxb6003417a
open Go.RowKit
set_option linter.unusedVariables false

theorem ret_bool {a b : Bool} (h : a = b) : Ending.returned (.bool a) = .returned (.bool b) := by rw [h]

set_option maxHeartbeats 400000 in
set_option maxRecDepth 100000 in
theorem holds_any (s e k : Option Addr) (ls cs le ce lk ck : Nat) (after hasEnd : Bool) (zs ze zk : List Int) (w : World) (hs : Bs w s ls zs) (he : Bs w e le ze) (hk : Bs w k lk zk) :
    Calls Try.prog 42 #[.agg #[.slice s ls cs, .bool after, .slice e le ce, .bool hasEnd], .slice k lk ck] w fun e w' => e = .returned (.bool (holdsB zs after ze hasEnd zk)) ∧ Below w.heap.size w w' := by
  have hB : ∀ o, Below w.heap.size w (w.alloc o) := fun o => (Below.refl _ _).alloc (Nat.le_refl _) _
  have C1 := fun o => compare_any k s lk ck ls cs zk zs (w.alloc o) (hk.below (hB o)) (hs.below (hB o))
  have C2 := fun o => compare_any k e lk ck le ce zk ze (w.alloc o) (hk.below (hB o)) (he.below (hB o))
  have hr := cmp_range zk zs
  obtain ⟨r, hrr⟩ : ∃ r, r = holdsB zs after ze hasEnd zk := ⟨_, rfl⟩
  rw [← hrr]
  have HR : Hid (r = holdsB zs after ze hasEnd zk) := hrr
  clear hrr hs he hk
  generalize hy : cmpI zk ze = y at C2
  generalize hx : cmpI zk zs = x at C1 hr
  have HXY : Hid (cmpI zk zs = x ∧ cmpI zk ze = y) := ⟨hx, hy⟩
  clear hx hy
  have fin : ∀ b : Bool, b = (if x < 0 ∨ (x = 0 ∧ after = true) then false else if hasEnd = false then true else decide (y ≤ 0)) → b = r := by
    intro b hb; rw [HR.out, hb]; unfold holdsB; rw [HXY.out.1, HXY.out.2]
  clear HR HXY
  have F := fin
  clear fin
  rcases hr with rfl | rfl | rfl <;> cases after <;> cases hasEnd
  all_goals
    have G : Hid (_) := F
    clear F
    go_enter Try.func42, Try.ntmps42
    go_wp2_with fail
    refine (C1 _).mono ?_
    rintro e w' ⟨rfl, rfl⟩
    go_wp2_with fail
    first
      | (go_at_call 51; refine (C2 _).mono ?_; rintro e w' ⟨rfl, rfl⟩; go_wp2; go_ret; exact ⟨ret_bool (G.out _ (by simp)), hB _⟩)
      | (go_ret; exact ⟨ret_bool (G.out _ (by simp)), hB _⟩)
end Go.Proofs.Qxb6003417a
