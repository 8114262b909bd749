/-
  No cell of these rows narrows 'for every input' (looked for: loops, veiled, ifaces, maps, wideKeys, modest, calm, conditions, laid).
  DERIVED. THE GIVEN ROWS OF THIS SEAT. 9 by the template 'for every input the law returns true; each argument reads behind the call as it read before'; 0 by the template 'total and deterministic' (their statements: Qxb6602992aTotals.lean).
  GIVEN WITH THE SEED: the statements are not yours to turn. If you find one false, say at which input.
  Laid BY PROGRAM, IN A SANDBOX (cutbox-rows.mjs): the forced cells as the released guide's own fill.sh prints them over the translation d26ef2f03bc5d1e5… (all of the seat's roots in one cut). By AI agents, Wed Nov 11 2026. No macro, syntax, notation, axiom, sorry.
-/
import Derived.Test.Qxb6602992aChecked
import GoSem.Claim
import GoSem.ClaimJoined
import GoSem.ClaimMapViews
import Derived.JoinedTies
import Derived.KernelRfl
namespace Go.Proofs.Qxb6602992a
/- THE CELL 'sum', in the pinned program and in every row, IS THE sha256 OF THE DUMP (.gsa) THAT Qxb6602992aProg.lean LOADS. Nothing in Lean hashes anything: it is a label: what it is worth is what the hold of that sum in a sandbox is worth. -/
noncomputable def Try.pinned : Pinned := { name := "qxb6602992a", sum := "d26ef2f03bc5d1e56336525d1153173bf0729f20ee0af5f7e44a61b86a51e19b", checked := Try.checked }
namespace Rows
def none {H : Type} : Left H := { results := [], args := [] }

/-- 'zzlaws_layer_b1.FnRunsAreMaximalConsecutiveBlocks': WHATEVER THE INPUT: true; the input reads as it did. -/
def fnRunsAreMaximalConsecutiveBlocksSpec : ChangeSpec := { name := "fnRunsAreMaximalConsecutiveBlocks", fn := fun _ => fun
  | [d1, d2] => { results := [.lit (.bool true)], args := [d1, d2] }
  | _ => none }
def fnRunsAreMaximalConsecutiveBlocksRow : OpenClaim := { program := "qxb6602992a", sum := "d26ef2f03bc5d1e56336525d1153173bf0729f20ee0af5f7e44a61b86a51e19b", func := "example.com/coterie/coterie/zzlaws_layer_b1.FnRunsAreMaximalConsecutiveBlocks", spec := "fnRunsAreMaximalConsecutiveBlocks", plainKeys := false, apart := false }
def FnRunsAreMaximalConsecutiveBlocksSaid : Prop := fnRunsAreMaximalConsecutiveBlocksRow.holds Try.pinned (OpenSpec.ofChange fnRunsAreMaximalConsecutiveBlocksSpec)

/-- ITS FALSE NEIGHBOUR: 'it returns false'. Refute it at one input. -/
def fnRunsAreMaximalConsecutiveBlocksWrong : ChangeSpec := { name := "fnRunsAreMaximalConsecutiveBlocks", fn := fun _ => fun
  | [d1, d2] => { results := [.lit (.bool false)], args := [d1, d2] }
  | _ => none }
def FnRunsAreMaximalConsecutiveBlocksWrongFalsely : Prop := fnRunsAreMaximalConsecutiveBlocksRow.holds Try.pinned (OpenSpec.ofChange fnRunsAreMaximalConsecutiveBlocksWrong)

/-- 'zzlaws_layer_b1.FnRunsReadBackAsTheNumbersFromOn': WHATEVER THE INPUT: true; the input reads as it did. -/
def fnRunsReadBackAsTheNumbersFromOnSpec : ChangeSpec := { name := "fnRunsReadBackAsTheNumbersFromOn", fn := fun _ => fun
  | [d1, d2] => { results := [.lit (.bool true)], args := [d1, d2] }
  | _ => none }
def fnRunsReadBackAsTheNumbersFromOnRow : OpenClaim := { program := "qxb6602992a", sum := "d26ef2f03bc5d1e56336525d1153173bf0729f20ee0af5f7e44a61b86a51e19b", func := "example.com/coterie/coterie/zzlaws_layer_b1.FnRunsReadBackAsTheNumbersFromOn", spec := "fnRunsReadBackAsTheNumbersFromOn", plainKeys := false, apart := false }
def FnRunsReadBackAsTheNumbersFromOnSaid : Prop := fnRunsReadBackAsTheNumbersFromOnRow.holds Try.pinned (OpenSpec.ofChange fnRunsReadBackAsTheNumbersFromOnSpec)

/-- ITS FALSE NEIGHBOUR: 'it returns false'. Refute it at one input. -/
def fnRunsReadBackAsTheNumbersFromOnWrong : ChangeSpec := { name := "fnRunsReadBackAsTheNumbersFromOn", fn := fun _ => fun
  | [d1, d2] => { results := [.lit (.bool false)], args := [d1, d2] }
  | _ => none }
def FnRunsReadBackAsTheNumbersFromOnWrongFalsely : Prop := fnRunsReadBackAsTheNumbersFromOnRow.holds Try.pinned (OpenSpec.ofChange fnRunsReadBackAsTheNumbersFromOnWrong)

/-- 'zzlaws_layer_b1.FnRunsWritesOnlyListedNumbersFromOn': WHATEVER THE INPUT: true; the input reads as it did. -/
def fnRunsWritesOnlyListedNumbersFromOnSpec : ChangeSpec := { name := "fnRunsWritesOnlyListedNumbersFromOn", fn := fun _ => fun
  | [d1, d2] => { results := [.lit (.bool true)], args := [d1, d2] }
  | _ => none }
def fnRunsWritesOnlyListedNumbersFromOnRow : OpenClaim := { program := "qxb6602992a", sum := "d26ef2f03bc5d1e56336525d1153173bf0729f20ee0af5f7e44a61b86a51e19b", func := "example.com/coterie/coterie/zzlaws_layer_b1.FnRunsWritesOnlyListedNumbersFromOn", spec := "fnRunsWritesOnlyListedNumbersFromOn", plainKeys := false, apart := false }
def FnRunsWritesOnlyListedNumbersFromOnSaid : Prop := fnRunsWritesOnlyListedNumbersFromOnRow.holds Try.pinned (OpenSpec.ofChange fnRunsWritesOnlyListedNumbersFromOnSpec)

/-- ITS FALSE NEIGHBOUR: 'it returns false'. Refute it at one input. -/
def fnRunsWritesOnlyListedNumbersFromOnWrong : ChangeSpec := { name := "fnRunsWritesOnlyListedNumbersFromOn", fn := fun _ => fun
  | [d1, d2] => { results := [.lit (.bool false)], args := [d1, d2] }
  | _ => none }
def FnRunsWritesOnlyListedNumbersFromOnWrongFalsely : Prop := fnRunsWritesOnlyListedNumbersFromOnRow.holds Try.pinned (OpenSpec.ofChange fnRunsWritesOnlyListedNumbersFromOnWrong)

/-- 'zzlaws_layer_b1.FnLacksMatchesItsCaseTable': WHATEVER THE INPUT: true; the input reads as it did. -/
def fnLacksMatchesItsCaseTableSpec : ChangeSpec := { name := "fnLacksMatchesItsCaseTable", fn := fun _ => fun
  | [d1, d2, d3, d4, d5, d6, d7, d8, d9, d10, d11, d12] => { results := [.lit (.bool true)], args := [d1, d2, d3, d4, d5, d6, d7, d8, d9, d10, d11, d12] }
  | _ => none }
def fnLacksMatchesItsCaseTableRow : OpenClaim := { program := "qxb6602992a", sum := "d26ef2f03bc5d1e56336525d1153173bf0729f20ee0af5f7e44a61b86a51e19b", func := "example.com/coterie/coterie/zzlaws_layer_b1.FnLacksMatchesItsCaseTable", spec := "fnLacksMatchesItsCaseTable", plainKeys := false, apart := false }
def FnLacksMatchesItsCaseTableSaid : Prop := fnLacksMatchesItsCaseTableRow.holds Try.pinned (OpenSpec.ofChange fnLacksMatchesItsCaseTableSpec)

/-- ITS FALSE NEIGHBOUR: 'it returns false'. Refute it at one input. -/
def fnLacksMatchesItsCaseTableWrong : ChangeSpec := { name := "fnLacksMatchesItsCaseTable", fn := fun _ => fun
  | [d1, d2, d3, d4, d5, d6, d7, d8, d9, d10, d11, d12] => { results := [.lit (.bool false)], args := [d1, d2, d3, d4, d5, d6, d7, d8, d9, d10, d11, d12] }
  | _ => none }
def FnLacksMatchesItsCaseTableWrongFalsely : Prop := fnLacksMatchesItsCaseTableRow.holds Try.pinned (OpenSpec.ofChange fnLacksMatchesItsCaseTableWrong)

/-- 'zzlaws_layer_b1.FnLacksCountsHeldAndAboveAlike': WHATEVER THE INPUT: true; the input reads as it did. -/
def fnLacksCountsHeldAndAboveAlikeSpec : ChangeSpec := { name := "fnLacksCountsHeldAndAboveAlike", fn := fun _ => fun
  | [d1, d2, d3, d4, d5, d6, d7, d8, d9] => { results := [.lit (.bool true)], args := [d1, d2, d3, d4, d5, d6, d7, d8, d9] }
  | _ => none }
def fnLacksCountsHeldAndAboveAlikeRow : OpenClaim := { program := "qxb6602992a", sum := "d26ef2f03bc5d1e56336525d1153173bf0729f20ee0af5f7e44a61b86a51e19b", func := "example.com/coterie/coterie/zzlaws_layer_b1.FnLacksCountsHeldAndAboveAlike", spec := "fnLacksCountsHeldAndAboveAlike", plainKeys := false, apart := false }
def FnLacksCountsHeldAndAboveAlikeSaid : Prop := fnLacksCountsHeldAndAboveAlikeRow.holds Try.pinned (OpenSpec.ofChange fnLacksCountsHeldAndAboveAlikeSpec)

/-- ITS FALSE NEIGHBOUR: 'it returns false'. Refute it at one input. -/
def fnLacksCountsHeldAndAboveAlikeWrong : ChangeSpec := { name := "fnLacksCountsHeldAndAboveAlike", fn := fun _ => fun
  | [d1, d2, d3, d4, d5, d6, d7, d8, d9] => { results := [.lit (.bool false)], args := [d1, d2, d3, d4, d5, d6, d7, d8, d9] }
  | _ => none }
def FnLacksCountsHeldAndAboveAlikeWrongFalsely : Prop := fnLacksCountsHeldAndAboveAlikeRow.holds Try.pinned (OpenSpec.ofChange fnLacksCountsHeldAndAboveAlikeWrong)

/-- 'zzlaws_layer_b1.FnLacksNeverGrowsWithWhatTheDigestSays': WHATEVER THE INPUT: true; the input reads as it did. -/
def fnLacksNeverGrowsWithWhatTheDigestSaysSpec : ChangeSpec := { name := "fnLacksNeverGrowsWithWhatTheDigestSays", fn := fun _ => fun
  | [d1, d2, d3, d4, d5, d6, d7, d8, d9, d10, d11, d12] => { results := [.lit (.bool true)], args := [d1, d2, d3, d4, d5, d6, d7, d8, d9, d10, d11, d12] }
  | _ => none }
def fnLacksNeverGrowsWithWhatTheDigestSaysRow : OpenClaim := { program := "qxb6602992a", sum := "d26ef2f03bc5d1e56336525d1153173bf0729f20ee0af5f7e44a61b86a51e19b", func := "example.com/coterie/coterie/zzlaws_layer_b1.FnLacksNeverGrowsWithWhatTheDigestSays", spec := "fnLacksNeverGrowsWithWhatTheDigestSays", plainKeys := false, apart := false }
def FnLacksNeverGrowsWithWhatTheDigestSaysSaid : Prop := fnLacksNeverGrowsWithWhatTheDigestSaysRow.holds Try.pinned (OpenSpec.ofChange fnLacksNeverGrowsWithWhatTheDigestSaysSpec)

/-- ITS FALSE NEIGHBOUR: 'it returns false'. Refute it at one input. -/
def fnLacksNeverGrowsWithWhatTheDigestSaysWrong : ChangeSpec := { name := "fnLacksNeverGrowsWithWhatTheDigestSays", fn := fun _ => fun
  | [d1, d2, d3, d4, d5, d6, d7, d8, d9, d10, d11, d12] => { results := [.lit (.bool false)], args := [d1, d2, d3, d4, d5, d6, d7, d8, d9, d10, d11, d12] }
  | _ => none }
def FnLacksNeverGrowsWithWhatTheDigestSaysWrongFalsely : Prop := fnLacksNeverGrowsWithWhatTheDigestSaysRow.holds Try.pinned (OpenSpec.ofChange fnLacksNeverGrowsWithWhatTheDigestSaysWrong)

/-- 'zzlaws_layer_b1.FnHeldMessagesKeepLastPutOfEachNumberInOrder': WHATEVER THE INPUT: true; the input reads as it did. -/
def fnHeldMessagesKeepLastPutOfEachNumberInOrderSpec : ChangeSpec := { name := "fnHeldMessagesKeepLastPutOfEachNumberInOrder", fn := fun _ => fun
  | [d1, d2] => { results := [.lit (.bool true)], args := [d1, d2] }
  | _ => none }
def fnHeldMessagesKeepLastPutOfEachNumberInOrderRow : OpenClaim := { program := "qxb6602992a", sum := "d26ef2f03bc5d1e56336525d1153173bf0729f20ee0af5f7e44a61b86a51e19b", func := "example.com/coterie/coterie/zzlaws_layer_b1.FnHeldMessagesKeepLastPutOfEachNumberInOrder", spec := "fnHeldMessagesKeepLastPutOfEachNumberInOrder", inPlace := ["slices.overlaps[uint64]"], plainKeys := false, apart := false }
def FnHeldMessagesKeepLastPutOfEachNumberInOrderSaid : Prop := fnHeldMessagesKeepLastPutOfEachNumberInOrderRow.holds Try.pinned (OpenSpec.ofChange fnHeldMessagesKeepLastPutOfEachNumberInOrderSpec)

/-- ITS FALSE NEIGHBOUR: 'it returns false'. Refute it at one input. -/
def fnHeldMessagesKeepLastPutOfEachNumberInOrderWrong : ChangeSpec := { name := "fnHeldMessagesKeepLastPutOfEachNumberInOrder", fn := fun _ => fun
  | [d1, d2] => { results := [.lit (.bool false)], args := [d1, d2] }
  | _ => none }
def FnHeldMessagesKeepLastPutOfEachNumberInOrderWrongFalsely : Prop := fnHeldMessagesKeepLastPutOfEachNumberInOrderRow.holds Try.pinned (OpenSpec.ofChange fnHeldMessagesKeepLastPutOfEachNumberInOrderWrong)

/-- 'zzlaws_layer_b1.FnHeldNumbersDoNotHangOnOrderOfPuts': WHATEVER THE INPUT: true; the input reads as it did. -/
def fnHeldNumbersDoNotHangOnOrderOfPutsSpec : ChangeSpec := { name := "fnHeldNumbersDoNotHangOnOrderOfPuts", fn := fun _ => fun
  | [d1, d2] => { results := [.lit (.bool true)], args := [d1, d2] }
  | _ => none }
def fnHeldNumbersDoNotHangOnOrderOfPutsRow : OpenClaim := { program := "qxb6602992a", sum := "d26ef2f03bc5d1e56336525d1153173bf0729f20ee0af5f7e44a61b86a51e19b", func := "example.com/coterie/coterie/zzlaws_layer_b1.FnHeldNumbersDoNotHangOnOrderOfPuts", spec := "fnHeldNumbersDoNotHangOnOrderOfPuts", inPlace := ["slices.overlaps[uint64]"], plainKeys := false, apart := false }
def FnHeldNumbersDoNotHangOnOrderOfPutsSaid : Prop := fnHeldNumbersDoNotHangOnOrderOfPutsRow.holds Try.pinned (OpenSpec.ofChange fnHeldNumbersDoNotHangOnOrderOfPutsSpec)

/-- ITS FALSE NEIGHBOUR: 'it returns false'. Refute it at one input. -/
def fnHeldNumbersDoNotHangOnOrderOfPutsWrong : ChangeSpec := { name := "fnHeldNumbersDoNotHangOnOrderOfPuts", fn := fun _ => fun
  | [d1, d2] => { results := [.lit (.bool false)], args := [d1, d2] }
  | _ => none }
def FnHeldNumbersDoNotHangOnOrderOfPutsWrongFalsely : Prop := fnHeldNumbersDoNotHangOnOrderOfPutsRow.holds Try.pinned (OpenSpec.ofChange fnHeldNumbersDoNotHangOnOrderOfPutsWrong)

/-- 'zzlaws_layer_b1.FnDigestOfHeldRunsLacksJustWhatIsNotHeld': WHATEVER THE INPUT: true; the input reads as it did. -/
def fnDigestOfHeldRunsLacksJustWhatIsNotHeldSpec : ChangeSpec := { name := "fnDigestOfHeldRunsLacksJustWhatIsNotHeld", fn := fun _ => fun
  | [d1, d2, d3, d4, d5, d6, d7] => { results := [.lit (.bool true)], args := [d1, d2, d3, d4, d5, d6, d7] }
  | _ => none }
def fnDigestOfHeldRunsLacksJustWhatIsNotHeldRow : OpenClaim := { program := "qxb6602992a", sum := "d26ef2f03bc5d1e56336525d1153173bf0729f20ee0af5f7e44a61b86a51e19b", func := "example.com/coterie/coterie/zzlaws_layer_b1.FnDigestOfHeldRunsLacksJustWhatIsNotHeld", spec := "fnDigestOfHeldRunsLacksJustWhatIsNotHeld", inPlace := ["slices.overlaps[uint64]"], plainKeys := false, apart := false }
def FnDigestOfHeldRunsLacksJustWhatIsNotHeldSaid : Prop := fnDigestOfHeldRunsLacksJustWhatIsNotHeldRow.holds Try.pinned (OpenSpec.ofChange fnDigestOfHeldRunsLacksJustWhatIsNotHeldSpec)

/-- ITS FALSE NEIGHBOUR: 'it returns false'. Refute it at one input. -/
def fnDigestOfHeldRunsLacksJustWhatIsNotHeldWrong : ChangeSpec := { name := "fnDigestOfHeldRunsLacksJustWhatIsNotHeld", fn := fun _ => fun
  | [d1, d2, d3, d4, d5, d6, d7] => { results := [.lit (.bool false)], args := [d1, d2, d3, d4, d5, d6, d7] }
  | _ => none }
def FnDigestOfHeldRunsLacksJustWhatIsNotHeldWrongFalsely : Prop := fnDigestOfHeldRunsLacksJustWhatIsNotHeldRow.holds Try.pinned (OpenSpec.ofChange fnDigestOfHeldRunsLacksJustWhatIsNotHeldWrong)

end Rows
end Go.Proofs.Qxb6602992a
