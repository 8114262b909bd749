import Derived.Test.Qxb6602992aLawC
namespace Go.Proofs.Qxb6602992a.fnHeldNumbersDoNotHangOnOrderOfPuts
open Go.RowKit
set_option linter.unusedVariables false

set_option maxHeartbeats 400000 in
set_option maxRecDepth 100000 in
/-- ████ THE WALK ████ -/
theorem walk (a0 : Option Addr) (len0 cap0 : Nat) (z0 : List Int) (a1 : Option Addr) (len1 cap1 : Nat) (z1 : List Int) (w : World) (w0 : IsRow .u64 w a0 len0 cap0 z0) (w1 : IsRow .u64 w a1 len1 cap1 z1) :
    Calls Try.prog 10 #[.slice a0 len0 cap0, .slice a1 len1 cap1] w fun e w' => e = .returned (.bool true) ∧ Below w.heap.size w w' := by
  have hl0 := w0.le
  have hl1 := w1.le
  by_cases hsum : len0 + len1 ≤ 1048576
  · by_cases h0 : len0 ≤ 4096
    · by_cases h1 : len1 ≤ 4096
      · exact walk_yes a0 len0 cap0 z0 a1 len1 cap1 z1 w w0 w1 h0 h1
      · clear hl0 hl1 w0 w1
        go_enter Try.func10, Try.ntmps10
        go_wp2_with fail
        refine (bytes_yes a0 a1 len0 cap0 len1 cap1 w hsum).mono ?_
        rintro e wx ⟨rfl, rfl⟩
        go_wp2
        go_ret
        exact ⟨rfl, Below.refl _ _⟩
    · clear hl0 hl1 w0 w1
      go_enter Try.func10, Try.ntmps10
      go_wp2_with fail
      refine (bytes_yes a0 a1 len0 cap0 len1 cap1 w hsum).mono ?_
      rintro e wx ⟨rfl, rfl⟩
      go_wp2
      go_ret
      exact ⟨rfl, Below.refl _ _⟩
  · go_enter Try.func10, Try.ntmps10
    go_wp2_with fail
    refine (bytes_no a0 a1 len0 cap0 len1 cap1 w hl0 hl1 (by omega)).mono ?_
    clear hl0 hl1 w0 w1
    rintro e wx ⟨rfl, rfl⟩
    go_wp2
    go_ret
    exact ⟨rfl, Below.refl _ _⟩
end Go.Proofs.Qxb6602992a.fnHeldNumbersDoNotHangOnOrderOfPuts
