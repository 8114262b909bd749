import Derived.Test.Qxb6602924aString
import Derived.OpenShut
namespace Go.Proofs.Qxb6602924a
open Go.RowKit
set_option linter.unusedVariables false

theorem flag_list (c u : Bool) : (flagStr c u).toList = [if c then 67 else 45, 45, if u then 85 else 45, 45] := by
  cases c <;> cases u <;> decide +kernel

theorem grown_two {a b c : World} (h : Grown a b) (k : Grown b c) : Grown a c :=
  ⟨World.keptBut_trans h.1 k.1, fun x => (k.2.1 x).trans (h.2.1 x), Nat.le_trans h.2.2 k.2.2⟩

set_option maxHeartbeats 400000 in
theorem table_walk (a0 : Int) (w0 : (Lit.int .u8 a0).wf = true) (w : World) :
    Calls Try.prog 3 #[.int .u8 a0] w fun e w' => e = .returned (.bool true) ∧ Grown w w' := by
  have hb := bounds_u8 w0
  have h3 := and_three a0 hb.1 hb.2
  cases e1 : (bits .and .u8 a0 1 != 0) <;> cases e2 : (bits .and .u8 a0 2 != 0)
  all_goals
    rw [e1, e2] at h3
    simp at h3
    have hfl := flag_list
    have S := string_any a0 w _ _ e1 e2
    clear e1 e2 w0 hb
    go_enter Try.func3, Try.ntmps3
    go_wp2_with fail
    refine S.mono ?_
    rintro e w' ⟨rfl, hg⟩
    go_wp2
    go_ret
    exact ⟨rfl, hg⟩

set_option maxHeartbeats 400000 in
theorem separates_walk (a0 : Int) (a1 : Int) (w0 : (Lit.int .u8 a0).wf = true) (w1 : (Lit.int .u8 a1).wf = true) (w : World) :
    Calls Try.prog 4 #[.int .u8 a0, .int .u8 a1] w fun e w' => e = .returned (.bool true) ∧ Grown w w' := by
  have hb := bounds_u8 w0
  have hc := bounds_u8 w1
  have h3 := and_three a0 hb.1 hb.2
  have k3 := and_three a1 hc.1 hc.2
  cases e1 : (bits .and .u8 a0 1 != 0) <;> cases e2 : (bits .and .u8 a0 2 != 0) <;> cases d1 : (bits .and .u8 a1 1 != 0) <;> cases d2 : (bits .and .u8 a1 2 != 0)
  all_goals
    rw [e1, e2] at h3
    rw [d1, d2] at k3
    simp at h3 k3
    have hfl := flag_list
    have S := string_any a0 w _ _ e1 e2
    have T := fun wx => string_any a1 wx _ _ d1 d2
    clear e1 e2 d1 d2 w0 w1 hb hc
    go_enter Try.func4, Try.ntmps4
    go_wp2_with fail
    refine S.mono ?_
    rintro e w' ⟨rfl, hg⟩
    go_wp2_with fail
    refine (T _).mono ?_
    rintro e w'' ⟨rfl, hg'⟩
    go_wp2
    go_ret
    exact ⟨rfl, grown_two hg hg'⟩

set_option maxHeartbeats 400000 in
theorem parse_any (c u : Bool) (w : World) :
    Calls Try.prog 7 #[.string (flagStr c u)] w fun e w' => e = .returned (.tuple #[.int .u8 ((if c then 1 else 0) + (if u then 2 else 0)), .bool true]) ∧ w' = w := by
  cases c <;> cases u
  all_goals
    simp only [flagStr]
    go_enter Try.func7, Try.ntmps7
    go_wp2
    go_ret2
    exact ⟨rfl, rfl⟩

set_option maxHeartbeats 400000 in
theorem parses_walk (a0 : Int) (w0 : (Lit.int .u8 a0).wf = true) (w : World) :
    Calls Try.prog 5 #[.int .u8 a0] w fun e w' => e = .returned (.bool true) ∧ Grown w w' := by
  have hb := bounds_u8 w0
  have h3 := and_three a0 hb.1 hb.2
  cases e1 : (bits .and .u8 a0 1 != 0) <;> cases e2 : (bits .and .u8 a0 2 != 0)
  all_goals
    rw [e1, e2] at h3
    simp at h3
    have hfl := flag_list
    have S := string_any a0 w _ _ e1 e2
    clear e1 e2 w0 hb
    go_enter Try.func5, Try.ntmps5
    go_wp2_with fail
    refine S.mono ?_
    rintro e w' ⟨rfl, hg⟩
    go_wp2_with fail
    refine (parse_any _ _ _).mono ?_
    rintro e w'' ⟨rfl, rfl⟩
    go_wp2
    go_ret
    exact ⟨rfl, hg⟩
end Go.Proofs.Qxb6602924a
