/-
  No cell of these rows narrows 'for every input' (looked for: loops, veiled, ifaces, maps, wideKeys, modest, calm, conditions, laid).
  DERIVED. THE GIVEN ROWS OF THIS SEAT. 6 by the template 'for every input the law returns true; each argument reads behind the call as it read before'; 0 by the template 'total and deterministic' (their statements: Qxb6603126aTotals.lean).
  GIVEN WITH THE SEED: the statements are not yours to turn. If you find one false, say at which input.
  Laid BY PROGRAM, IN A SANDBOX (cutbox-rows.mjs): the forced cells as the released guide's own fill.sh prints them over the translation 2340b880a8ea3350… (all of the seat's roots in one cut). By AI agents, Wed Nov 11 2026. No macro, syntax, notation, axiom, sorry.
-/
import Derived.Test.Qxb6603126aChecked
import GoSem.Claim
import GoSem.ClaimJoined
import GoSem.ClaimMapViews
import Derived.JoinedTies
import Derived.KernelRfl
namespace Go.Proofs.Qxb6603126a
/- THE CELL 'sum', in the pinned program and in every row, IS THE sha256 OF THE DUMP (.gsa) THAT Qxb6603126aProg.lean LOADS. Nothing in Lean hashes anything: it is a label: what it is worth is what the hold of that sum in a sandbox is worth. -/
noncomputable def Try.pinned : Pinned := { name := "qxb6603126a", sum := "2340b880a8ea335071c225cc961856957ecee6668e18d5b55b875ff000ed8e08", checked := Try.checked }
namespace Rows
def none {H : Type} : Left H := { results := [], args := [] }

/-- 'zzlaws_internal_raft_b1.FnFromExact': WHATEVER THE INPUT: true; the input reads as it did. -/
def fnFromExactSpec : ChangeSpec := { name := "fnFromExact", fn := fun _ => fun
  | [d1, d2, d3, d4, d5, d6] => { results := [.lit (.bool true)], args := [d1, d2, d3, d4, d5, d6] }
  | _ => none }
def fnFromExactRow : OpenClaim := { program := "qxb6603126a", sum := "2340b880a8ea335071c225cc961856957ecee6668e18d5b55b875ff000ed8e08", func := "example.com/tenure/tenure/zzlaws_internal_raft_b1.FnFromExact", spec := "fnFromExact", apart := false }
def FnFromExactSaid : Prop := fnFromExactRow.holds Try.pinned (OpenSpec.ofChange fnFromExactSpec)

/-- ITS FALSE NEIGHBOUR: 'it returns false'. Refute it at one input. -/
def fnFromExactWrong : ChangeSpec := { name := "fnFromExact", fn := fun _ => fun
  | [d1, d2, d3, d4, d5, d6] => { results := [.lit (.bool false)], args := [d1, d2, d3, d4, d5, d6] }
  | _ => none }
def FnFromExactWrongFalsely : Prop := fnFromExactRow.holds Try.pinned (OpenSpec.ofChange fnFromExactWrong)

/-- 'zzlaws_internal_raft_b1.FnFromPagesCoverLog': WHATEVER THE INPUT: true; the input reads as it did. -/
def fnFromPagesCoverLogSpec : ChangeSpec := { name := "fnFromPagesCoverLog", fn := fun _ => fun
  | [d1, d2, d3, d4, d5, d6] => { results := [.lit (.bool true)], args := [d1, d2, d3, d4, d5, d6] }
  | _ => none }
def fnFromPagesCoverLogRow : OpenClaim := { program := "qxb6603126a", sum := "2340b880a8ea335071c225cc961856957ecee6668e18d5b55b875ff000ed8e08", func := "example.com/tenure/tenure/zzlaws_internal_raft_b1.FnFromPagesCoverLog", spec := "fnFromPagesCoverLog", apart := false }
def FnFromPagesCoverLogSaid : Prop := fnFromPagesCoverLogRow.holds Try.pinned (OpenSpec.ofChange fnFromPagesCoverLogSpec)

/-- ITS FALSE NEIGHBOUR: 'it returns false'. Refute it at one input. -/
def fnFromPagesCoverLogWrong : ChangeSpec := { name := "fnFromPagesCoverLog", fn := fun _ => fun
  | [d1, d2, d3, d4, d5, d6] => { results := [.lit (.bool false)], args := [d1, d2, d3, d4, d5, d6] }
  | _ => none }
def FnFromPagesCoverLogWrongFalsely : Prop := fnFromPagesCoverLogRow.holds Try.pinned (OpenSpec.ofChange fnFromPagesCoverLogWrong)

/-- 'zzlaws_internal_raft_b1.FnFirstOfTermExact': WHATEVER THE INPUT: true; the input reads as it did. -/
def fnFirstOfTermExactSpec : ChangeSpec := { name := "fnFirstOfTermExact", fn := fun _ => fun
  | [d1, d2, d3, d4] => { results := [.lit (.bool true)], args := [d1, d2, d3, d4] }
  | _ => none }
def fnFirstOfTermExactRow : OpenClaim := { program := "qxb6603126a", sum := "2340b880a8ea335071c225cc961856957ecee6668e18d5b55b875ff000ed8e08", func := "example.com/tenure/tenure/zzlaws_internal_raft_b1.FnFirstOfTermExact", spec := "fnFirstOfTermExact", apart := false }
def FnFirstOfTermExactSaid : Prop := fnFirstOfTermExactRow.holds Try.pinned (OpenSpec.ofChange fnFirstOfTermExactSpec)

/-- ITS FALSE NEIGHBOUR: 'it returns false'. Refute it at one input. -/
def fnFirstOfTermExactWrong : ChangeSpec := { name := "fnFirstOfTermExact", fn := fun _ => fun
  | [d1, d2, d3, d4] => { results := [.lit (.bool false)], args := [d1, d2, d3, d4] }
  | _ => none }
def FnFirstOfTermExactWrongFalsely : Prop := fnFirstOfTermExactRow.holds Try.pinned (OpenSpec.ofChange fnFirstOfTermExactWrong)

/-- 'zzlaws_internal_raft_b1.FnFirstOfTermRun': WHATEVER THE INPUT: true; the input reads as it did. -/
def fnFirstOfTermRunSpec : ChangeSpec := { name := "fnFirstOfTermRun", fn := fun _ => fun
  | [d1, d2, d3, d4, d5] => { results := [.lit (.bool true)], args := [d1, d2, d3, d4, d5] }
  | _ => none }
def fnFirstOfTermRunRow : OpenClaim := { program := "qxb6603126a", sum := "2340b880a8ea335071c225cc961856957ecee6668e18d5b55b875ff000ed8e08", func := "example.com/tenure/tenure/zzlaws_internal_raft_b1.FnFirstOfTermRun", spec := "fnFirstOfTermRun", apart := false }
def FnFirstOfTermRunSaid : Prop := fnFirstOfTermRunRow.holds Try.pinned (OpenSpec.ofChange fnFirstOfTermRunSpec)

/-- ITS FALSE NEIGHBOUR: 'it returns false'. Refute it at one input. -/
def fnFirstOfTermRunWrong : ChangeSpec := { name := "fnFirstOfTermRun", fn := fun _ => fun
  | [d1, d2, d3, d4, d5] => { results := [.lit (.bool false)], args := [d1, d2, d3, d4, d5] }
  | _ => none }
def FnFirstOfTermRunWrongFalsely : Prop := fnFirstOfTermRunRow.holds Try.pinned (OpenSpec.ofChange fnFirstOfTermRunWrong)

/-- 'zzlaws_internal_raft_b1.FnMembershipEqualSymmetricReflexive': WHATEVER THE INPUT: true; the input reads as it did. -/
def fnMembershipEqualSymmetricReflexiveSpec : ChangeSpec := { name := "fnMembershipEqualSymmetricReflexive", fn := fun _ => fun
  | [d1, d2, d3, d4, d5, d6, d7, d8, d9, d10] => { results := [.lit (.bool true)], args := [d1, d2, d3, d4, d5, d6, d7, d8, d9, d10] }
  | _ => none }
def fnMembershipEqualSymmetricReflexiveRow : OpenClaim := { program := "qxb6603126a", sum := "2340b880a8ea335071c225cc961856957ecee6668e18d5b55b875ff000ed8e08", func := "example.com/tenure/tenure/zzlaws_internal_raft_b1.FnMembershipEqualSymmetricReflexive", spec := "fnMembershipEqualSymmetricReflexive", apart := false }
def FnMembershipEqualSymmetricReflexiveSaid : Prop := fnMembershipEqualSymmetricReflexiveRow.holds Try.pinned (OpenSpec.ofChange fnMembershipEqualSymmetricReflexiveSpec)

/-- ITS FALSE NEIGHBOUR: 'it returns false'. Refute it at one input. -/
def fnMembershipEqualSymmetricReflexiveWrong : ChangeSpec := { name := "fnMembershipEqualSymmetricReflexive", fn := fun _ => fun
  | [d1, d2, d3, d4, d5, d6, d7, d8, d9, d10] => { results := [.lit (.bool false)], args := [d1, d2, d3, d4, d5, d6, d7, d8, d9, d10] }
  | _ => none }
def FnMembershipEqualSymmetricReflexiveWrongFalsely : Prop := fnMembershipEqualSymmetricReflexiveRow.holds Try.pinned (OpenSpec.ofChange fnMembershipEqualSymmetricReflexiveWrong)

/-- 'zzlaws_internal_raft_b1.FnFromBudgetPrefix': WHATEVER THE INPUT: true; the input reads as it did. -/
def fnFromBudgetPrefixSpec : ChangeSpec := { name := "fnFromBudgetPrefix", fn := fun _ => fun
  | [d1, d2, d3, d4, d5, d6, d7] => { results := [.lit (.bool true)], args := [d1, d2, d3, d4, d5, d6, d7] }
  | _ => none }
def fnFromBudgetPrefixRow : OpenClaim := { program := "qxb6603126a", sum := "2340b880a8ea335071c225cc961856957ecee6668e18d5b55b875ff000ed8e08", func := "example.com/tenure/tenure/zzlaws_internal_raft_b1.FnFromBudgetPrefix", spec := "fnFromBudgetPrefix", apart := false }
def FnFromBudgetPrefixSaid : Prop := fnFromBudgetPrefixRow.holds Try.pinned (OpenSpec.ofChange fnFromBudgetPrefixSpec)

/-- ITS FALSE NEIGHBOUR: 'it returns false'. Refute it at one input. -/
def fnFromBudgetPrefixWrong : ChangeSpec := { name := "fnFromBudgetPrefix", fn := fun _ => fun
  | [d1, d2, d3, d4, d5, d6, d7] => { results := [.lit (.bool false)], args := [d1, d2, d3, d4, d5, d6, d7] }
  | _ => none }
def FnFromBudgetPrefixWrongFalsely : Prop := fnFromBudgetPrefixRow.holds Try.pinned (OpenSpec.ofChange fnFromBudgetPrefixWrong)

end Rows
end Go.Proofs.Qxb6603126a
