/-
  No cell of these rows narrows 'for every input' (looked for: loops, veiled, ifaces, maps, wideKeys, modest, calm, conditions, laid).
  DERIVED. THE GIVEN ROWS OF THIS SEAT. 4 by the template 'for every input the law returns true; each argument reads behind the call as it read before'; 0 by the template 'total and deterministic' (their statements: Qxb6614440aTotals.lean).
  GIVEN WITH THE SEED: the statements are not yours to turn. If you find one false, say at which input.
  Laid BY PROGRAM, IN A SANDBOX (cutbox-rows.mjs): the forced cells as the released guide's own fill.sh prints them over the translation c959d0d1518787bf… (all of the seat's roots in one cut). By AI agents, Wed Nov 11 2026. No macro, syntax, notation, axiom, sorry.
-/
import Derived.Test.Qxb6614440aChecked
import GoSem.Claim
import GoSem.ClaimJoined
import GoSem.ClaimMapViews
import Derived.JoinedTies
import Derived.KernelRfl
namespace Go.Proofs.Qxb6614440a
/- THE CELL 'sum', in the pinned program and in every row, IS THE sha256 OF THE DUMP (.gsa) THAT Qxb6614440aProg.lean LOADS. Nothing in Lean hashes anything: it is a label: what it is worth is what the hold of that sum in a sandbox is worth. -/
noncomputable def Try.pinned : Pinned := { name := "qxb6614440a", sum := "c959d0d1518787bf708f4a363bf1e57be57c8493043bef18b3d49584f93d267b", checked := Try.checked }
namespace Rows
def none {H : Type} : Left H := { results := [], args := [] }

/-- 'zzlaws_internal_api_b1.FnUsersUnderPrefixesUserURNs': WHATEVER THE INPUT: true; the input reads as it did. -/
def fnUsersUnderPrefixesUserURNsSpec : ChangeSpec := { name := "fnUsersUnderPrefixesUserURNs", fn := fun _ => fun
  | [d1, d2, d3, d4, d5] => { results := [.lit (.bool true)], args := [d1, d2, d3, d4, d5] }
  | _ => none }
def fnUsersUnderPrefixesUserURNsRow : OpenClaim := { program := "qxb6614440a", sum := "c959d0d1518787bf708f4a363bf1e57be57c8493043bef18b3d49584f93d267b", func := "example.com/entitlement-service/entitlement-service/zzlaws_internal_api_b1.FnUsersUnderPrefixesUserURNs", spec := "fnUsersUnderPrefixesUserURNs", apart := false }
def FnUsersUnderPrefixesUserURNsSaid : Prop := fnUsersUnderPrefixesUserURNsRow.holds Try.pinned (OpenSpec.ofChange fnUsersUnderPrefixesUserURNsSpec)

/-- ITS FALSE NEIGHBOUR: 'it returns false'. Refute it at one input. -/
def fnUsersUnderPrefixesUserURNsWrong : ChangeSpec := { name := "fnUsersUnderPrefixesUserURNs", fn := fun _ => fun
  | [d1, d2, d3, d4, d5] => { results := [.lit (.bool false)], args := [d1, d2, d3, d4, d5] }
  | _ => none }
def FnUsersUnderPrefixesUserURNsWrongFalsely : Prop := fnUsersUnderPrefixesUserURNsRow.holds Try.pinned (OpenSpec.ofChange fnUsersUnderPrefixesUserURNsWrong)

/-- 'zzlaws_internal_api_b1.FnUsersUnderCoversSubpaths': WHATEVER THE INPUT: true; the input reads as it did. -/
def fnUsersUnderCoversSubpathsSpec : ChangeSpec := { name := "fnUsersUnderCoversSubpaths", fn := fun _ => fun
  | [d1, d2, d3, d4] => { results := [.lit (.bool true)], args := [d1, d2, d3, d4] }
  | _ => none }
def fnUsersUnderCoversSubpathsRow : OpenClaim := { program := "qxb6614440a", sum := "c959d0d1518787bf708f4a363bf1e57be57c8493043bef18b3d49584f93d267b", func := "example.com/entitlement-service/entitlement-service/zzlaws_internal_api_b1.FnUsersUnderCoversSubpaths", spec := "fnUsersUnderCoversSubpaths", apart := false }
def FnUsersUnderCoversSubpathsSaid : Prop := fnUsersUnderCoversSubpathsRow.holds Try.pinned (OpenSpec.ofChange fnUsersUnderCoversSubpathsSpec)

/-- ITS FALSE NEIGHBOUR: 'it returns false'. Refute it at one input. -/
def fnUsersUnderCoversSubpathsWrong : ChangeSpec := { name := "fnUsersUnderCoversSubpaths", fn := fun _ => fun
  | [d1, d2, d3, d4] => { results := [.lit (.bool false)], args := [d1, d2, d3, d4] }
  | _ => none }
def FnUsersUnderCoversSubpathsWrongFalsely : Prop := fnUsersUnderCoversSubpathsRow.holds Try.pinned (OpenSpec.ofChange fnUsersUnderCoversSubpathsWrong)

/-- 'zzlaws_internal_api_b1.FnGroupsUnderPrefixesOnlyItsOrg': WHATEVER THE INPUT: true; the input reads as it did. -/
def fnGroupsUnderPrefixesOnlyItsOrgSpec : ChangeSpec := { name := "fnGroupsUnderPrefixesOnlyItsOrg", fn := fun _ => fun
  | [d1, d2, d3, d4, d5] => { results := [.lit (.bool true)], args := [d1, d2, d3, d4, d5] }
  | _ => none }
def fnGroupsUnderPrefixesOnlyItsOrgRow : OpenClaim := { program := "qxb6614440a", sum := "c959d0d1518787bf708f4a363bf1e57be57c8493043bef18b3d49584f93d267b", func := "example.com/entitlement-service/entitlement-service/zzlaws_internal_api_b1.FnGroupsUnderPrefixesOnlyItsOrg", spec := "fnGroupsUnderPrefixesOnlyItsOrg", apart := false }
def FnGroupsUnderPrefixesOnlyItsOrgSaid : Prop := fnGroupsUnderPrefixesOnlyItsOrgRow.holds Try.pinned (OpenSpec.ofChange fnGroupsUnderPrefixesOnlyItsOrgSpec)

/-- ITS FALSE NEIGHBOUR: 'it returns false'. Refute it at one input. -/
def fnGroupsUnderPrefixesOnlyItsOrgWrong : ChangeSpec := { name := "fnGroupsUnderPrefixesOnlyItsOrg", fn := fun _ => fun
  | [d1, d2, d3, d4, d5] => { results := [.lit (.bool false)], args := [d1, d2, d3, d4, d5] }
  | _ => none }
def FnGroupsUnderPrefixesOnlyItsOrgWrongFalsely : Prop := fnGroupsUnderPrefixesOnlyItsOrgRow.holds Try.pinned (OpenSpec.ofChange fnGroupsUnderPrefixesOnlyItsOrgWrong)

/-- 'zzlaws_internal_api_b1.FnGroupsUnderCoversSubpaths': WHATEVER THE INPUT: true; the input reads as it did. -/
def fnGroupsUnderCoversSubpathsSpec : ChangeSpec := { name := "fnGroupsUnderCoversSubpaths", fn := fun _ => fun
  | [d1, d2, d3, d4] => { results := [.lit (.bool true)], args := [d1, d2, d3, d4] }
  | _ => none }
def fnGroupsUnderCoversSubpathsRow : OpenClaim := { program := "qxb6614440a", sum := "c959d0d1518787bf708f4a363bf1e57be57c8493043bef18b3d49584f93d267b", func := "example.com/entitlement-service/entitlement-service/zzlaws_internal_api_b1.FnGroupsUnderCoversSubpaths", spec := "fnGroupsUnderCoversSubpaths", apart := false }
def FnGroupsUnderCoversSubpathsSaid : Prop := fnGroupsUnderCoversSubpathsRow.holds Try.pinned (OpenSpec.ofChange fnGroupsUnderCoversSubpathsSpec)

/-- ITS FALSE NEIGHBOUR: 'it returns false'. Refute it at one input. -/
def fnGroupsUnderCoversSubpathsWrong : ChangeSpec := { name := "fnGroupsUnderCoversSubpaths", fn := fun _ => fun
  | [d1, d2, d3, d4] => { results := [.lit (.bool false)], args := [d1, d2, d3, d4] }
  | _ => none }
def FnGroupsUnderCoversSubpathsWrongFalsely : Prop := fnGroupsUnderCoversSubpathsRow.holds Try.pinned (OpenSpec.ofChange fnGroupsUnderCoversSubpathsWrong)

end Rows
end Go.Proofs.Qxb6614440a
