import Derived.Test.Qxb6602992aRows
import Derived.ProofKit
/-! The row's closed facts, each a lemma of its own: taken together the kernel outgrows the memory lid. -/
namespace Go.Proofs.Qxb6602992a.fnHeldNumbersDoNotHangOnOrderOfPuts
set_option linter.unusedVariables false

theorem and_mk {a b : Bool} (h1 : a = true) (h2 : b = true) : (a && b) = true := by rw [h1, h2]; rfl

set_option maxRecDepth 100000 in
set_option maxHeartbeats 8000000 in
theorem closed : joinedFacts Try.pinned.checked.prog 10 Try.f10 Rows.fnHeldNumbersDoNotHangOnOrderOfPutsSpec Rows.fnHeldNumbersDoNotHangOnOrderOfPutsRow = true := by
  unfold joinedFacts
  refine (and_mk (and_mk (and_mk (and_mk (and_mk (and_mk (and_mk (and_mk (and_mk (and_mk (and_mk (and_mk (and_mk (and_mk (and_mk (and_mk (and_mk (and_mk (and_mk (and_mk (and_mk (and_mk (and_mk (and_mk (and_mk (and_mk (and_mk (and_mk (and_mk (and_mk (and_mk ?_ ?_) ?_) ?_) ?_) ?_) ?_) ?_) ?_) ?_) ?_) ?_) ?_) ?_) ?_) ?_) ?_) ?_) ?_) ?_) ?_) ?_) ?_) ?_) ?_) ?_) ?_) ?_) ?_) ?_) ?_) ?_)
  all_goals (as_aux_lemma => kernel_rfl)
end Go.Proofs.Qxb6602992a.fnHeldNumbersDoNotHangOnOrderOfPuts
