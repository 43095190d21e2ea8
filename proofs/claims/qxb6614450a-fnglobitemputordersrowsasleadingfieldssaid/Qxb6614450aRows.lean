/-
  No cell of these rows narrows 'for every input' (looked for: loops, veiled, ifaces, maps, wideKeys, modest, calm, conditions, laid).
  DERIVED. THE GIVEN ROWS OF THIS SEAT. 5 by the template 'for every input the law returns true; each argument reads behind the call as it read before'; 0 by the template 'total and deterministic' (their statements: Qxb6614450aTotals.lean).
  GIVEN WITH THE SEED: the statements are not yours to turn. If you find one false, say at which input.
  Laid BY PROGRAM, IN A SANDBOX (cutbox-rows.mjs): the forced cells as the released guide's own fill.sh prints them over the translation b73faac2db91be59… (all of the seat's roots in one cut). By AI agents, Wed Nov 11 2026. No macro, syntax, notation, axiom, sorry.
-/
import Derived.Test.Qxb6614450aChecked
import GoSem.Claim
import GoSem.ClaimJoined
import GoSem.ClaimMapViews
import Derived.JoinedTies
import Derived.KernelRfl
namespace Go.Proofs.Qxb6614450a
/- THE CELL 'sum', in the pinned program and in every row, IS THE sha256 OF THE DUMP (.gsa) THAT Qxb6614450aProg.lean LOADS. Nothing in Lean hashes anything: it is a label: what it is worth is what the hold of that sum in a sandbox is worth. -/
noncomputable def Try.pinned : Pinned := { name := "qxb6614450a", sum := "b73faac2db91be5979ed7f006861f65d627052a8f7e6d54f6a285177c88f9e0a", checked := Try.checked }
namespace Rows
def none {H : Type} : Left H := { results := [], args := [] }

/-- 'zzlaws_root_b1.FnWaitingEmptyHangsOnRunLengthsAlone': WHATEVER THE INPUT: true; the input reads as it did. -/
def fnWaitingEmptyHangsOnRunLengthsAloneSpec : ChangeSpec := { name := "fnWaitingEmptyHangsOnRunLengthsAlone", fn := fun _ => fun
  | [d1, d2, d3, d4, d5, d6] => { results := [.lit (.bool true)], args := [d1, d2, d3, d4, d5, d6] }
  | _ => none }
def fnWaitingEmptyHangsOnRunLengthsAloneRow : OpenClaim := { program := "qxb6614450a", sum := "b73faac2db91be5979ed7f006861f65d627052a8f7e6d54f6a285177c88f9e0a", func := "example.com/packwright/packwright/zzlaws_root_b1.FnWaitingEmptyHangsOnRunLengthsAlone", spec := "fnWaitingEmptyHangsOnRunLengthsAlone", apart := false }
def FnWaitingEmptyHangsOnRunLengthsAloneSaid : Prop := fnWaitingEmptyHangsOnRunLengthsAloneRow.holds Try.pinned (OpenSpec.ofChange fnWaitingEmptyHangsOnRunLengthsAloneSpec)

/-- ITS FALSE NEIGHBOUR: 'it returns false'. Refute it at one input. -/
def fnWaitingEmptyHangsOnRunLengthsAloneWrong : ChangeSpec := { name := "fnWaitingEmptyHangsOnRunLengthsAlone", fn := fun _ => fun
  | [d1, d2, d3, d4, d5, d6] => { results := [.lit (.bool false)], args := [d1, d2, d3, d4, d5, d6] }
  | _ => none }
def FnWaitingEmptyHangsOnRunLengthsAloneWrongFalsely : Prop := fnWaitingEmptyHangsOnRunLengthsAloneRow.holds Try.pinned (OpenSpec.ofChange fnWaitingEmptyHangsOnRunLengthsAloneWrong)

/-- 'zzlaws_root_b1.FnWaitingEmptyAfterDrainingEveryRow': WHATEVER THE INPUT: true; the input reads as it did. -/
def fnWaitingEmptyAfterDrainingEveryRowSpec : ChangeSpec := { name := "fnWaitingEmptyAfterDrainingEveryRow", fn := fun _ => fun
  | [d1, d2, d3, d4, d5] => { results := [.lit (.bool true)], args := [d1, d2, d3, d4, d5] }
  | _ => none }
def fnWaitingEmptyAfterDrainingEveryRowRow : OpenClaim := { program := "qxb6614450a", sum := "b73faac2db91be5979ed7f006861f65d627052a8f7e6d54f6a285177c88f9e0a", func := "example.com/packwright/packwright/zzlaws_root_b1.FnWaitingEmptyAfterDrainingEveryRow", spec := "fnWaitingEmptyAfterDrainingEveryRow", apart := false }
def FnWaitingEmptyAfterDrainingEveryRowSaid : Prop := fnWaitingEmptyAfterDrainingEveryRowRow.holds Try.pinned (OpenSpec.ofChange fnWaitingEmptyAfterDrainingEveryRowSpec)

/-- ITS FALSE NEIGHBOUR: 'it returns false'. Refute it at one input. -/
def fnWaitingEmptyAfterDrainingEveryRowWrong : ChangeSpec := { name := "fnWaitingEmptyAfterDrainingEveryRow", fn := fun _ => fun
  | [d1, d2, d3, d4, d5] => { results := [.lit (.bool false)], args := [d1, d2, d3, d4, d5] }
  | _ => none }
def FnWaitingEmptyAfterDrainingEveryRowWrongFalsely : Prop := fnWaitingEmptyAfterDrainingEveryRowRow.holds Try.pinned (OpenSpec.ofChange fnWaitingEmptyAfterDrainingEveryRowWrong)

/-- 'zzlaws_root_b1.FnHoldsAgreesWithScanAtAnyCut': WHATEVER THE INPUT: true; the input reads as it did. -/
def fnHoldsAgreesWithScanAtAnyCutSpec : ChangeSpec := { name := "fnHoldsAgreesWithScanAtAnyCut", fn := fun _ => fun
  | [d1, d2, d3] => { results := [.lit (.bool true)], args := [d1, d2, d3] }
  | _ => none }
def fnHoldsAgreesWithScanAtAnyCutRow : OpenClaim := { program := "qxb6614450a", sum := "b73faac2db91be5979ed7f006861f65d627052a8f7e6d54f6a285177c88f9e0a", func := "example.com/packwright/packwright/zzlaws_root_b1.FnHoldsAgreesWithScanAtAnyCut", spec := "fnHoldsAgreesWithScanAtAnyCut", inPlace := ["internal/bytealg.Compare"], unfollowed := true, recurses := true, named := ["encoding/binary.BigEndian"], apart := false }
def FnHoldsAgreesWithScanAtAnyCutSaid : Prop := fnHoldsAgreesWithScanAtAnyCutRow.holds Try.pinned (OpenSpec.ofChange fnHoldsAgreesWithScanAtAnyCutSpec)

/-- ITS FALSE NEIGHBOUR: 'it returns false'. Refute it at one input. -/
def fnHoldsAgreesWithScanAtAnyCutWrong : ChangeSpec := { name := "fnHoldsAgreesWithScanAtAnyCut", fn := fun _ => fun
  | [d1, d2, d3] => { results := [.lit (.bool false)], args := [d1, d2, d3] }
  | _ => none }
def FnHoldsAgreesWithScanAtAnyCutWrongFalsely : Prop := fnHoldsAgreesWithScanAtAnyCutRow.holds Try.pinned (OpenSpec.ofChange fnHoldsAgreesWithScanAtAnyCutWrong)

/-- 'zzlaws_root_b1.FnHoldsAfterInsertAtLowerBound': WHATEVER THE INPUT: true; the input reads as it did. -/
def fnHoldsAfterInsertAtLowerBoundSpec : ChangeSpec := { name := "fnHoldsAfterInsertAtLowerBound", fn := fun _ => fun
  | [d1, d2, d3] => { results := [.lit (.bool true)], args := [d1, d2, d3] }
  | _ => none }
def fnHoldsAfterInsertAtLowerBoundRow : OpenClaim := { program := "qxb6614450a", sum := "b73faac2db91be5979ed7f006861f65d627052a8f7e6d54f6a285177c88f9e0a", func := "example.com/packwright/packwright/zzlaws_root_b1.FnHoldsAfterInsertAtLowerBound", spec := "fnHoldsAfterInsertAtLowerBound", inPlace := ["internal/bytealg.Compare"], unfollowed := true, recurses := true, named := ["encoding/binary.BigEndian"], apart := false }
def FnHoldsAfterInsertAtLowerBoundSaid : Prop := fnHoldsAfterInsertAtLowerBoundRow.holds Try.pinned (OpenSpec.ofChange fnHoldsAfterInsertAtLowerBoundSpec)

/-- ITS FALSE NEIGHBOUR: 'it returns false'. Refute it at one input. -/
def fnHoldsAfterInsertAtLowerBoundWrong : ChangeSpec := { name := "fnHoldsAfterInsertAtLowerBound", fn := fun _ => fun
  | [d1, d2, d3] => { results := [.lit (.bool false)], args := [d1, d2, d3] }
  | _ => none }
def FnHoldsAfterInsertAtLowerBoundWrongFalsely : Prop := fnHoldsAfterInsertAtLowerBoundRow.holds Try.pinned (OpenSpec.ofChange fnHoldsAfterInsertAtLowerBoundWrong)

/-- 'zzlaws_root_b1.FnGlobItemPutOrdersRowsAsLeadingFields': WHATEVER THE INPUT: true; the input reads as it did. -/
def fnGlobItemPutOrdersRowsAsLeadingFieldsSpec : ChangeSpec := { name := "fnGlobItemPutOrdersRowsAsLeadingFields", fn := fun _ => fun
  | [d1, d2, d3] => { results := [.lit (.bool true)], args := [d1, d2, d3] }
  | _ => none }
def fnGlobItemPutOrdersRowsAsLeadingFieldsRow : OpenClaim := { program := "qxb6614450a", sum := "b73faac2db91be5979ed7f006861f65d627052a8f7e6d54f6a285177c88f9e0a", func := "example.com/packwright/packwright/zzlaws_root_b1.FnGlobItemPutOrdersRowsAsLeadingFields", spec := "fnGlobItemPutOrdersRowsAsLeadingFields", named := ["encoding/binary.BigEndian"], apart := false }
def FnGlobItemPutOrdersRowsAsLeadingFieldsSaid : Prop := fnGlobItemPutOrdersRowsAsLeadingFieldsRow.holds Try.pinned (OpenSpec.ofChange fnGlobItemPutOrdersRowsAsLeadingFieldsSpec)

/-- ITS FALSE NEIGHBOUR: 'it returns false'. Refute it at one input. -/
def fnGlobItemPutOrdersRowsAsLeadingFieldsWrong : ChangeSpec := { name := "fnGlobItemPutOrdersRowsAsLeadingFields", fn := fun _ => fun
  | [d1, d2, d3] => { results := [.lit (.bool false)], args := [d1, d2, d3] }
  | _ => none }
def FnGlobItemPutOrdersRowsAsLeadingFieldsWrongFalsely : Prop := fnGlobItemPutOrdersRowsAsLeadingFieldsRow.holds Try.pinned (OpenSpec.ofChange fnGlobItemPutOrdersRowsAsLeadingFieldsWrong)

end Rows
end Go.Proofs.Qxb6614450a
