/-
  No cell of these rows narrows 'for every input' (looked for: loops, veiled, ifaces, maps, wideKeys, modest, calm, conditions, laid).
  DERIVED. THE GIVEN ROWS OF THIS SEAT. 7 by the template 'for every input the law returns true; each argument reads behind the call as it read before'; 0 by the template 'total and deterministic' (their statements: Qxb6003473aTotals.lean).
  GIVEN WITH THE SEED: the statements are not yours to turn. If you find one false, say at which input.
  Laid BY PROGRAM, IN A SANDBOX (cutbox-rows.mjs): the forced cells as the released guide's own fill.sh prints them over the translation a77551e15323ec33… (all of the seat's roots in one cut). By AI agents, Wed Nov 11 2026. No macro, syntax, notation, axiom, sorry.
-/
import Derived.Test.Qxb6003473aChecked
import GoSem.Claim
import GoSem.ClaimJoined
import GoSem.ClaimMapViews
import Derived.JoinedTies
import Derived.KernelRfl
namespace Go.Proofs.Qxb6003473a
/- THE CELL 'sum', in the pinned program and in every row, IS THE sha256 OF THE DUMP (.gsa) THAT Qxb6003473aProg.lean LOADS. Nothing in Lean hashes anything: it is a label: what it is worth is what the hold of that sum in a sandbox is worth. -/
noncomputable def Try.pinned : Pinned := { name := "qxb6003473a", sum := "a77551e15323ec33dd4d776cd2b3ae1fc9f4d5a3ef448fa0a03bfc002b5d3135", checked := Try.checked }
namespace Rows
def none {H : Type} : Left H := { results := [], args := [] }

/-- 'zzlaws_internal_lists_b2.FnCommonPrefixIsLongestSharedPrefix': WHATEVER THE INPUT: true; the input reads as it did. -/
def fnCommonPrefixIsLongestSharedPrefixSpec : ChangeSpec := { name := "fnCommonPrefixIsLongestSharedPrefix", fn := fun _ => fun
  | [d1, d2] => { results := [.lit (.bool true)], args := [d1, d2] }
  | _ => none }
def fnCommonPrefixIsLongestSharedPrefixRow : OpenClaim := { program := "qxb6003473a", sum := "a77551e15323ec33dd4d776cd2b3ae1fc9f4d5a3ef448fa0a03bfc002b5d3135", func := "example.com/pasm/pasm/zzlaws_internal_lists_b2.FnCommonPrefixIsLongestSharedPrefix", spec := "fnCommonPrefixIsLongestSharedPrefix", apart := false }
def FnCommonPrefixIsLongestSharedPrefixSaid : Prop := fnCommonPrefixIsLongestSharedPrefixRow.holds Try.pinned (OpenSpec.ofChange fnCommonPrefixIsLongestSharedPrefixSpec)

/-- ITS FALSE NEIGHBOUR: 'it returns false'. Refute it at one input. -/
def fnCommonPrefixIsLongestSharedPrefixWrong : ChangeSpec := { name := "fnCommonPrefixIsLongestSharedPrefix", fn := fun _ => fun
  | [d1, d2] => { results := [.lit (.bool false)], args := [d1, d2] }
  | _ => none }
def FnCommonPrefixIsLongestSharedPrefixWrongFalsely : Prop := fnCommonPrefixIsLongestSharedPrefixRow.holds Try.pinned (OpenSpec.ofChange fnCommonPrefixIsLongestSharedPrefixWrong)

/-- 'zzlaws_internal_lists_b2.FnCommonPrefixIsSymmetric': WHATEVER THE INPUT: true; the input reads as it did. -/
def fnCommonPrefixIsSymmetricSpec : ChangeSpec := { name := "fnCommonPrefixIsSymmetric", fn := fun _ => fun
  | [d1, d2] => { results := [.lit (.bool true)], args := [d1, d2] }
  | _ => none }
def fnCommonPrefixIsSymmetricRow : OpenClaim := { program := "qxb6003473a", sum := "a77551e15323ec33dd4d776cd2b3ae1fc9f4d5a3ef448fa0a03bfc002b5d3135", func := "example.com/pasm/pasm/zzlaws_internal_lists_b2.FnCommonPrefixIsSymmetric", spec := "fnCommonPrefixIsSymmetric", apart := false }
def FnCommonPrefixIsSymmetricSaid : Prop := fnCommonPrefixIsSymmetricRow.holds Try.pinned (OpenSpec.ofChange fnCommonPrefixIsSymmetricSpec)

/-- ITS FALSE NEIGHBOUR: 'it returns false'. Refute it at one input. -/
def fnCommonPrefixIsSymmetricWrong : ChangeSpec := { name := "fnCommonPrefixIsSymmetric", fn := fun _ => fun
  | [d1, d2] => { results := [.lit (.bool false)], args := [d1, d2] }
  | _ => none }
def FnCommonPrefixIsSymmetricWrongFalsely : Prop := fnCommonPrefixIsSymmetricRow.holds Try.pinned (OpenSpec.ofChange fnCommonPrefixIsSymmetricWrong)

/-- 'zzlaws_internal_lists_b2.FnCommonPrefixShiftsBySharedStart': WHATEVER THE INPUT: true; the input reads as it did. -/
def fnCommonPrefixShiftsBySharedStartSpec : ChangeSpec := { name := "fnCommonPrefixShiftsBySharedStart", fn := fun _ => fun
  | [d1, d2, d3] => { results := [.lit (.bool true)], args := [d1, d2, d3] }
  | _ => none }
def fnCommonPrefixShiftsBySharedStartRow : OpenClaim := { program := "qxb6003473a", sum := "a77551e15323ec33dd4d776cd2b3ae1fc9f4d5a3ef448fa0a03bfc002b5d3135", func := "example.com/pasm/pasm/zzlaws_internal_lists_b2.FnCommonPrefixShiftsBySharedStart", spec := "fnCommonPrefixShiftsBySharedStart", apart := false }
def FnCommonPrefixShiftsBySharedStartSaid : Prop := fnCommonPrefixShiftsBySharedStartRow.holds Try.pinned (OpenSpec.ofChange fnCommonPrefixShiftsBySharedStartSpec)

/-- ITS FALSE NEIGHBOUR: 'it returns false'. Refute it at one input. -/
def fnCommonPrefixShiftsBySharedStartWrong : ChangeSpec := { name := "fnCommonPrefixShiftsBySharedStart", fn := fun _ => fun
  | [d1, d2, d3] => { results := [.lit (.bool false)], args := [d1, d2, d3] }
  | _ => none }
def FnCommonPrefixShiftsBySharedStartWrongFalsely : Prop := fnCommonPrefixShiftsBySharedStartRow.holds Try.pinned (OpenSpec.ofChange fnCommonPrefixShiftsBySharedStartWrong)

/-- 'zzlaws_internal_lists_b2.FnDealMovesBucketsEachMoveOfTheRangeOnceInOrder': WHATEVER THE INPUT: true; the input reads as it did. -/
def fnDealMovesBucketsEachMoveOfTheRangeOnceInOrderSpec : ChangeSpec := { name := "fnDealMovesBucketsEachMoveOfTheRangeOnceInOrder", fn := fun _ => fun
  | [d1, d2, d3, d4] => { results := [.lit (.bool true)], args := [d1, d2, d3, d4] }
  | _ => none }
def fnDealMovesBucketsEachMoveOfTheRangeOnceInOrderRow : OpenClaim := { program := "qxb6003473a", sum := "a77551e15323ec33dd4d776cd2b3ae1fc9f4d5a3ef448fa0a03bfc002b5d3135", func := "example.com/pasm/pasm/zzlaws_internal_lists_b2.FnDealMovesBucketsEachMoveOfTheRangeOnceInOrder", spec := "fnDealMovesBucketsEachMoveOfTheRangeOnceInOrder", apart := false }
def FnDealMovesBucketsEachMoveOfTheRangeOnceInOrderSaid : Prop := fnDealMovesBucketsEachMoveOfTheRangeOnceInOrderRow.holds Try.pinned (OpenSpec.ofChange fnDealMovesBucketsEachMoveOfTheRangeOnceInOrderSpec)

/-- ITS FALSE NEIGHBOUR: 'it returns false'. Refute it at one input. -/
def fnDealMovesBucketsEachMoveOfTheRangeOnceInOrderWrong : ChangeSpec := { name := "fnDealMovesBucketsEachMoveOfTheRangeOnceInOrder", fn := fun _ => fun
  | [d1, d2, d3, d4] => { results := [.lit (.bool false)], args := [d1, d2, d3, d4] }
  | _ => none }
def FnDealMovesBucketsEachMoveOfTheRangeOnceInOrderWrongFalsely : Prop := fnDealMovesBucketsEachMoveOfTheRangeOnceInOrderRow.holds Try.pinned (OpenSpec.ofChange fnDealMovesBucketsEachMoveOfTheRangeOnceInOrderWrong)

/-- 'zzlaws_internal_lists_b2.FnGroupMovesByAgreesWithDealMoves': WHATEVER THE INPUT: true; the input reads as it did. -/
def fnGroupMovesByAgreesWithDealMovesSpec : ChangeSpec := { name := "fnGroupMovesByAgreesWithDealMoves", fn := fun _ => fun
  | [d1, d2, d3] => { results := [.lit (.bool true)], args := [d1, d2, d3] }
  | _ => none }
def fnGroupMovesByAgreesWithDealMovesRow : OpenClaim := { program := "qxb6003473a", sum := "a77551e15323ec33dd4d776cd2b3ae1fc9f4d5a3ef448fa0a03bfc002b5d3135", func := "example.com/pasm/pasm/zzlaws_internal_lists_b2.FnGroupMovesByAgreesWithDealMoves", spec := "fnGroupMovesByAgreesWithDealMoves", apart := false }
def FnGroupMovesByAgreesWithDealMovesSaid : Prop := fnGroupMovesByAgreesWithDealMovesRow.holds Try.pinned (OpenSpec.ofChange fnGroupMovesByAgreesWithDealMovesSpec)

/-- ITS FALSE NEIGHBOUR: 'it returns false'. Refute it at one input. -/
def fnGroupMovesByAgreesWithDealMovesWrong : ChangeSpec := { name := "fnGroupMovesByAgreesWithDealMoves", fn := fun _ => fun
  | [d1, d2, d3] => { results := [.lit (.bool false)], args := [d1, d2, d3] }
  | _ => none }
def FnGroupMovesByAgreesWithDealMovesWrongFalsely : Prop := fnGroupMovesByAgreesWithDealMovesRow.holds Try.pinned (OpenSpec.ofChange fnGroupMovesByAgreesWithDealMovesWrong)

/-- 'zzlaws_internal_lists_b2.FnRepeatsAmongMarksExactlyTheRepeatedMoves': WHATEVER THE INPUT: true; the input reads as it did. -/
def fnRepeatsAmongMarksExactlyTheRepeatedMovesSpec : ChangeSpec := { name := "fnRepeatsAmongMarksExactlyTheRepeatedMoves", fn := fun _ => fun
  | [d1, d2] => { results := [.lit (.bool true)], args := [d1, d2] }
  | _ => none }
def fnRepeatsAmongMarksExactlyTheRepeatedMovesRow : OpenClaim := { program := "qxb6003473a", sum := "a77551e15323ec33dd4d776cd2b3ae1fc9f4d5a3ef448fa0a03bfc002b5d3135", func := "example.com/pasm/pasm/zzlaws_internal_lists_b2.FnRepeatsAmongMarksExactlyTheRepeatedMoves", spec := "fnRepeatsAmongMarksExactlyTheRepeatedMoves", apart := false }
def FnRepeatsAmongMarksExactlyTheRepeatedMovesSaid : Prop := fnRepeatsAmongMarksExactlyTheRepeatedMovesRow.holds Try.pinned (OpenSpec.ofChange fnRepeatsAmongMarksExactlyTheRepeatedMovesSpec)

/-- ITS FALSE NEIGHBOUR: 'it returns false'. Refute it at one input. -/
def fnRepeatsAmongMarksExactlyTheRepeatedMovesWrong : ChangeSpec := { name := "fnRepeatsAmongMarksExactlyTheRepeatedMoves", fn := fun _ => fun
  | [d1, d2] => { results := [.lit (.bool false)], args := [d1, d2] }
  | _ => none }
def FnRepeatsAmongMarksExactlyTheRepeatedMovesWrongFalsely : Prop := fnRepeatsAmongMarksExactlyTheRepeatedMovesRow.holds Try.pinned (OpenSpec.ofChange fnRepeatsAmongMarksExactlyTheRepeatedMovesWrong)

/-- 'zzlaws_internal_lists_b2.FnRepeatsAmongSplitAtAStateAgreesWithWhole': WHATEVER THE INPUT: true; the input reads as it did. -/
def fnRepeatsAmongSplitAtAStateAgreesWithWholeSpec : ChangeSpec := { name := "fnRepeatsAmongSplitAtAStateAgreesWithWhole", fn := fun _ => fun
  | [d1, d2, d3] => { results := [.lit (.bool true)], args := [d1, d2, d3] }
  | _ => none }
def fnRepeatsAmongSplitAtAStateAgreesWithWholeRow : OpenClaim := { program := "qxb6003473a", sum := "a77551e15323ec33dd4d776cd2b3ae1fc9f4d5a3ef448fa0a03bfc002b5d3135", func := "example.com/pasm/pasm/zzlaws_internal_lists_b2.FnRepeatsAmongSplitAtAStateAgreesWithWhole", spec := "fnRepeatsAmongSplitAtAStateAgreesWithWhole", apart := false }
def FnRepeatsAmongSplitAtAStateAgreesWithWholeSaid : Prop := fnRepeatsAmongSplitAtAStateAgreesWithWholeRow.holds Try.pinned (OpenSpec.ofChange fnRepeatsAmongSplitAtAStateAgreesWithWholeSpec)

/-- ITS FALSE NEIGHBOUR: 'it returns false'. Refute it at one input. -/
def fnRepeatsAmongSplitAtAStateAgreesWithWholeWrong : ChangeSpec := { name := "fnRepeatsAmongSplitAtAStateAgreesWithWhole", fn := fun _ => fun
  | [d1, d2, d3] => { results := [.lit (.bool false)], args := [d1, d2, d3] }
  | _ => none }
def FnRepeatsAmongSplitAtAStateAgreesWithWholeWrongFalsely : Prop := fnRepeatsAmongSplitAtAStateAgreesWithWholeRow.holds Try.pinned (OpenSpec.ofChange fnRepeatsAmongSplitAtAStateAgreesWithWholeWrong)

end Rows
end Go.Proofs.Qxb6003473a
