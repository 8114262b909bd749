/-
  No cell of these rows narrows 'for every input' (looked for: loops, veiled, ifaces, maps, wideKeys, modest, calm, conditions, laid).
  DERIVED. THE GIVEN ROWS OF THIS SEAT. 3 by the template 'for every input the law returns true; each argument reads behind the call as it read before'; 0 by the template 'total and deterministic' (their statements: Qxb6602924aTotals.lean).
  GIVEN WITH THE SEED: the statements are not yours to turn. If you find one false, say at which input.
  Laid BY PROGRAM, IN A SANDBOX (cutbox-rows.mjs): the forced cells as the released guide's own fill.sh prints them over the translation ec4833538f7697c5… (all of the seat's roots in one cut). By AI agents, Wed Nov 11 2026. No macro, syntax, notation, axiom, sorry.
-/
import Derived.Test.Qxb6602924aChecked
import GoSem.Claim
import GoSem.ClaimJoined
import GoSem.ClaimMapViews
import Derived.JoinedTies
import Derived.KernelRfl
namespace Go.Proofs.Qxb6602924a
/- THE CELL 'sum', in the pinned program and in every row, IS THE sha256 OF THE DUMP (.gsa) THAT Qxb6602924aProg.lean LOADS. Nothing in Lean hashes anything: it is a label: what it is worth is what the hold of that sum in a sandbox is worth. -/
noncomputable def Try.pinned : Pinned := { name := "qxb6602924a", sum := "ec4833538f7697c55761bfe5a70d214768904eae7742e47b17bcfc67782ae21d", checked := Try.checked }
namespace Rows
def none {H : Type} : Left H := { results := [], args := [] }

/-- 'zzlaws_internal_block_b1.FnTxnFlagsStringCaseTable': WHATEVER THE INPUT: true; the input reads as it did. -/
def fnTxnFlagsStringCaseTableSpec : ChangeSpec := { name := "fnTxnFlagsStringCaseTable", fn := fun _ => fun
  | [d] => { results := [.lit (.bool true)], args := [d] }
  | _ => none }
def fnTxnFlagsStringCaseTableRow : OpenClaim := { program := "qxb6602924a", sum := "ec4833538f7697c55761bfe5a70d214768904eae7742e47b17bcfc67782ae21d", func := "example.com/palimpsest/palimpsest/zzlaws_internal_block_b1.FnTxnFlagsStringCaseTable", spec := "fnTxnFlagsStringCaseTable", apart := false }
def FnTxnFlagsStringCaseTableSaid : Prop := fnTxnFlagsStringCaseTableRow.holds Try.pinned (OpenSpec.ofChange fnTxnFlagsStringCaseTableSpec)

/-- ITS FALSE NEIGHBOUR: 'it returns false'. Refute it at one input. -/
def fnTxnFlagsStringCaseTableWrong : ChangeSpec := { name := "fnTxnFlagsStringCaseTable", fn := fun _ => fun
  | [d] => { results := [.lit (.bool false)], args := [d] }
  | _ => none }
def FnTxnFlagsStringCaseTableWrongFalsely : Prop := fnTxnFlagsStringCaseTableRow.holds Try.pinned (OpenSpec.ofChange fnTxnFlagsStringCaseTableWrong)

/-- 'zzlaws_internal_block_b1.FnTxnFlagsStringSeparatesKnownBits': WHATEVER THE INPUT: true; the input reads as it did. -/
def fnTxnFlagsStringSeparatesKnownBitsSpec : ChangeSpec := { name := "fnTxnFlagsStringSeparatesKnownBits", fn := fun _ => fun
  | [d1, d2] => { results := [.lit (.bool true)], args := [d1, d2] }
  | _ => none }
def fnTxnFlagsStringSeparatesKnownBitsRow : OpenClaim := { program := "qxb6602924a", sum := "ec4833538f7697c55761bfe5a70d214768904eae7742e47b17bcfc67782ae21d", func := "example.com/palimpsest/palimpsest/zzlaws_internal_block_b1.FnTxnFlagsStringSeparatesKnownBits", spec := "fnTxnFlagsStringSeparatesKnownBits", apart := false }
def FnTxnFlagsStringSeparatesKnownBitsSaid : Prop := fnTxnFlagsStringSeparatesKnownBitsRow.holds Try.pinned (OpenSpec.ofChange fnTxnFlagsStringSeparatesKnownBitsSpec)

/-- ITS FALSE NEIGHBOUR: 'it returns false'. Refute it at one input. -/
def fnTxnFlagsStringSeparatesKnownBitsWrong : ChangeSpec := { name := "fnTxnFlagsStringSeparatesKnownBits", fn := fun _ => fun
  | [d1, d2] => { results := [.lit (.bool false)], args := [d1, d2] }
  | _ => none }
def FnTxnFlagsStringSeparatesKnownBitsWrongFalsely : Prop := fnTxnFlagsStringSeparatesKnownBitsRow.holds Try.pinned (OpenSpec.ofChange fnTxnFlagsStringSeparatesKnownBitsWrong)

/-- 'zzlaws_internal_block_b1.FnTxnFlagsStringParsesBack': WHATEVER THE INPUT: true; the input reads as it did. -/
def fnTxnFlagsStringParsesBackSpec : ChangeSpec := { name := "fnTxnFlagsStringParsesBack", fn := fun _ => fun
  | [d] => { results := [.lit (.bool true)], args := [d] }
  | _ => none }
def fnTxnFlagsStringParsesBackRow : OpenClaim := { program := "qxb6602924a", sum := "ec4833538f7697c55761bfe5a70d214768904eae7742e47b17bcfc67782ae21d", func := "example.com/palimpsest/palimpsest/zzlaws_internal_block_b1.FnTxnFlagsStringParsesBack", spec := "fnTxnFlagsStringParsesBack", apart := false }
def FnTxnFlagsStringParsesBackSaid : Prop := fnTxnFlagsStringParsesBackRow.holds Try.pinned (OpenSpec.ofChange fnTxnFlagsStringParsesBackSpec)

/-- ITS FALSE NEIGHBOUR: 'it returns false'. Refute it at one input. -/
def fnTxnFlagsStringParsesBackWrong : ChangeSpec := { name := "fnTxnFlagsStringParsesBack", fn := fun _ => fun
  | [d] => { results := [.lit (.bool false)], args := [d] }
  | _ => none }
def FnTxnFlagsStringParsesBackWrongFalsely : Prop := fnTxnFlagsStringParsesBackRow.holds Try.pinned (OpenSpec.ofChange fnTxnFlagsStringParsesBackWrong)

end Rows
end Go.Proofs.Qxb6602924a
