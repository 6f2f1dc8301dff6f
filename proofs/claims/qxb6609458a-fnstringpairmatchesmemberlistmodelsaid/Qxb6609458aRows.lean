/-
  No cell of these rows narrows 'for every input' (looked for: loops, veiled, ifaces, maps, wideKeys, modest, calm, conditions, laid).
  DERIVED. THE GIVEN ROWS OF THIS SEAT. 2 by the template 'for every input the law returns true; each argument reads behind the call as it read before'; 0 by the template 'total and deterministic' (their statements: Qxb6609458aTotals.lean).
  GIVEN WITH THE SEED: the statements are not yours to turn. If you find one false, say at which input.
  Laid BY PROGRAM, IN A SANDBOX (cutbox-rows.mjs): the forced cells as the released guide's own fill.sh prints them over the translation c145554265b83076… (all of the seat's roots in one cut). By AI agents, Wed Nov 11 2026. No macro, syntax, notation, axiom, sorry.
-/
import Derived.Test.Qxb6609458aChecked
import GoSem.Claim
import GoSem.ClaimJoined
import GoSem.ClaimMapViews
import Derived.JoinedTies
import Derived.KernelRfl
namespace Go.Proofs.Qxb6609458a
/- THE CELL 'sum', in the pinned program and in every row, IS THE sha256 OF THE DUMP (.gsa) THAT Qxb6609458aProg.lean LOADS. Nothing in Lean hashes anything: it is a label: what it is worth is what the hold of that sum in a sandbox is worth. -/
noncomputable def Try.pinned : Pinned := { name := "qxb6609458a", sum := "c145554265b83076cb4318c5b4e829d30c2261030a6ff2e952fb89fe1402353e", checked := Try.checked }
namespace Rows
def none {H : Type} : Left H := { results := [], args := [] }

/-- 'zzlaws_internal_audit_b1.FnStringPairMatchesMemberListModel': WHATEVER THE INPUT: true; the input reads as it did. -/
def fnStringPairMatchesMemberListModelSpec : ChangeSpec := { name := "fnStringPairMatchesMemberListModel", fn := fun _ => fun
  | [d1, d2, d3] => { results := [.lit (.bool true)], args := [d1, d2, d3] }
  | _ => none }
def fnStringPairMatchesMemberListModelRow : OpenClaim := { program := "qxb6609458a", sum := "c145554265b83076cb4318c5b4e829d30c2261030a6ff2e952fb89fe1402353e", func := "example.com/attest/attest/zzlaws_internal_audit_b1.FnStringPairMatchesMemberListModel", spec := "fnStringPairMatchesMemberListModel", apart := false }
def FnStringPairMatchesMemberListModelSaid : Prop := fnStringPairMatchesMemberListModelRow.holds Try.pinned (OpenSpec.ofChange fnStringPairMatchesMemberListModelSpec)

/-- ITS FALSE NEIGHBOUR: 'it returns false'. Refute it at one input. -/
def fnStringPairMatchesMemberListModelWrong : ChangeSpec := { name := "fnStringPairMatchesMemberListModel", fn := fun _ => fun
  | [d1, d2, d3] => { results := [.lit (.bool false)], args := [d1, d2, d3] }
  | _ => none }
def FnStringPairMatchesMemberListModelWrongFalsely : Prop := fnStringPairMatchesMemberListModelRow.holds Try.pinned (OpenSpec.ofChange fnStringPairMatchesMemberListModelWrong)

/-- 'zzlaws_internal_audit_b1.FnStringPairAcceptsExactlyTheTwoStringMembers': WHATEVER THE INPUT: true; the input reads as it did. -/
def fnStringPairAcceptsExactlyTheTwoStringMembersSpec : ChangeSpec := { name := "fnStringPairAcceptsExactlyTheTwoStringMembers", fn := fun _ => fun
  | [d1, d2, d3, d4, d5, d6] => { results := [.lit (.bool true)], args := [d1, d2, d3, d4, d5, d6] }
  | _ => none }
def fnStringPairAcceptsExactlyTheTwoStringMembersRow : OpenClaim := { program := "qxb6609458a", sum := "c145554265b83076cb4318c5b4e829d30c2261030a6ff2e952fb89fe1402353e", func := "example.com/attest/attest/zzlaws_internal_audit_b1.FnStringPairAcceptsExactlyTheTwoStringMembers", spec := "fnStringPairAcceptsExactlyTheTwoStringMembers", apart := false }
def FnStringPairAcceptsExactlyTheTwoStringMembersSaid : Prop := fnStringPairAcceptsExactlyTheTwoStringMembersRow.holds Try.pinned (OpenSpec.ofChange fnStringPairAcceptsExactlyTheTwoStringMembersSpec)

/-- ITS FALSE NEIGHBOUR: 'it returns false'. Refute it at one input. -/
def fnStringPairAcceptsExactlyTheTwoStringMembersWrong : ChangeSpec := { name := "fnStringPairAcceptsExactlyTheTwoStringMembers", fn := fun _ => fun
  | [d1, d2, d3, d4, d5, d6] => { results := [.lit (.bool false)], args := [d1, d2, d3, d4, d5, d6] }
  | _ => none }
def FnStringPairAcceptsExactlyTheTwoStringMembersWrongFalsely : Prop := fnStringPairAcceptsExactlyTheTwoStringMembersRow.holds Try.pinned (OpenSpec.ofChange fnStringPairAcceptsExactlyTheTwoStringMembersWrong)

end Rows
end Go.Proofs.Qxb6609458a
