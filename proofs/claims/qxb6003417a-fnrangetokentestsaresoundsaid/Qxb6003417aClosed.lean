import Derived.Test.Qxb6003417aRows
import Derived.ProofKit
/-! The row's closed facts, each a lemma of its own: taken together the kernel outgrows the memory lid. What reads the cut's first words (three of the facts) goes by lemmas: reckoned sign by sign from the string it is what costs. -/
namespace Go.Proofs.Qxb6003417a.fnRangeTokenTestsAreSound
set_option linter.unusedVariables false

theorem and_mk {a b : Bool} (h1 : a = true) (h2 : b = true) : (a && b) = true := by rw [h1, h2]; rfl

theorem head_words {ws : List (List Char)} {x : List Char} (h : ws.head? = some x) : ∃ rest, ws = x :: rest := by
  cases ws with
  | nil => cases h
  | cons c r => exact ⟨r, by rw [Option.some.inj h]⟩
theorem head_of {s : String} {l x : List Char} (hs : s = String.ofList l) (h : (behindMainWord (wordsSigns l)).head? = some x) : ∃ rest, behindMainWord (wordsSigns s.toList) = x :: rest := by
  rw [hs, String.toList_ofList]
  exact head_words h
theorem may_of {P : Program} (hw : ∃ rest, behindMainWord (wordsSigns P.initOrder.toList) = ['c', 'u', 't'] :: rest) (h1 : P.laysLater = false) (h2 : P.bearsReflect = false) (h3 : P.doorFits [] = true) : P.mayEnter = true := by
  obtain ⟨rest, h⟩ := hw
  have hs : stripLifts liftWords (['c', 'u', 't'] :: rest) = ([], ['c', 'u', 't'] :: rest) := by kernel_rfl
  unfold Program.mayEnter
  rw [h]
  simp [hs, h1, h2, h3]
theorem lifts_of {P : Program} (hw : ∃ rest, behindMainWord (wordsSigns P.initOrder.toList) = ['c', 'u', 't'] :: rest) : P.liftsFinal = false := by
  obtain ⟨rest, h⟩ := hw
  have hs : stripLifts liftWords (['c', 'u', 't'] :: rest) = ([], ['c', 'u', 't'] :: rest) := by kernel_rfl
  unfold Program.liftsFinal Program.headLifts
  rw [h]
  simp [hs]
theorem made_of {P : Program} (hw : ∃ rest, behindMainWord (wordsSigns P.initOrder.toList) = ['c', 'u', 't'] :: rest) : P.make = some .cut := by
  obtain ⟨rest, h⟩ := hw
  unfold Program.make
  rw [h]
  simp

set_option maxRecDepth 100000 in
theorem cut_words : ∃ rest, behindMainWord (wordsSigns Try.pinned.checked.prog.initOrder.toList) = ['c', 'u', 't'] :: rest := by
  refine head_of (s := Try.pinned.checked.prog.initOrder) rfl ?_
  kernel_rfl
theorem may_ok : Try.pinned.checked.prog.mayEnter = true := may_of cut_words (by kernel_rfl) (by kernel_rfl) (by kernel_rfl)
theorem lifted_ok : (Rows.fnRangeTokenTestsAreSoundRow.lifted == Try.pinned.checked.prog.liftsFinal) = true := by
  rw [lifts_of cut_words]
  kernel_rfl
theorem made_ok : (Try.pinned.checked.prog.make == some Rows.fnRangeTokenTestsAreSoundRow.make) = true := by
  rw [made_of cut_words]
  kernel_rfl

set_option maxRecDepth 100000 in
set_option maxHeartbeats 8000000 in
theorem closed : joinedFacts Try.pinned.checked.prog 5 Try.f5 Rows.fnRangeTokenTestsAreSoundSpec Rows.fnRangeTokenTestsAreSoundRow = true := by
  unfold joinedFacts
  refine (and_mk (and_mk (and_mk (and_mk (and_mk (and_mk (and_mk (and_mk (and_mk (and_mk (and_mk (and_mk (and_mk (and_mk (and_mk (and_mk (and_mk (and_mk (and_mk (and_mk (and_mk (and_mk (and_mk (and_mk (and_mk (and_mk (and_mk (and_mk (and_mk (and_mk (and_mk ?_ ?_) ?_) ?_) ?_) ?_) ?_) ?_) ?_) ?_) ?_) ?_) ?_) ?_) ?_) ?_) ?_) ?_) ?_) ?_) ?_) ?_) ?_) ?_) ?_) may_ok) lifted_ok) made_ok) ?_) ?_) ?_) ?_)
  all_goals (as_aux_lemma => kernel_rfl)
end Go.Proofs.Qxb6003417a.fnRangeTokenTestsAreSound
