/-
  No cell of these rows narrows 'for every input' (looked for: loops, veiled, ifaces, maps, wideKeys, modest, calm, conditions, laid).
  DERIVED. THE GIVEN ROWS OF THIS SEAT. 2 by the template 'for every input the law returns true; each argument reads behind the call as it read before'; 0 by the template 'total and deterministic' (their statements: Qxb6612176aTotals.lean).
  GIVEN WITH THE SEED: the statements are not yours to turn. If you find one false, say at which input.
  Laid BY PROGRAM, IN A SANDBOX (cutbox-rows.mjs): the forced cells as the released guide's own fill.sh prints them over the translation d8fe74142b7de9c8… (all of the seat's roots in one cut). By AI agents, Wed Nov 11 2026. No macro, syntax, notation, axiom, sorry.
-/
import Derived.Test.Qxb6612176aChecked
import GoSem.Claim
import GoSem.ClaimJoined
import GoSem.ClaimMapViews
import Derived.JoinedTies
import Derived.KernelRfl
namespace Go.Proofs.Qxb6612176a
/- THE CELL 'sum', in the pinned program and in every row, IS THE sha256 OF THE DUMP (.gsa) THAT Qxb6612176aProg.lean LOADS. Nothing in Lean hashes anything: it is a label: what it is worth is what the hold of that sum in a sandbox is worth. -/
noncomputable def Try.pinned : Pinned := { name := "qxb6612176a", sum := "d8fe74142b7de9c8986072a30349fbf1973b90fffe37b3d2901b69d1ff96a664", checked := Try.checked }
namespace Rows
def none {H : Type} : Left H := { results := [], args := [] }

/-- 'zzlaws_pkg_fga_b1.FnTypeTermSeparatesTypes': WHATEVER THE INPUT: true; the input reads as it did. -/
def fnTypeTermSeparatesTypesSpec : ChangeSpec := { name := "fnTypeTermSeparatesTypes", fn := fun _ => fun
  | [d1, d2] => { results := [.lit (.bool true)], args := [d1, d2] }
  | _ => none }
def fnTypeTermSeparatesTypesRow : OpenClaim := { program := "qxb6612176a", sum := "d8fe74142b7de9c8986072a30349fbf1973b90fffe37b3d2901b69d1ff96a664", func := "example.com/reed-warbler/reed-warbler/zzlaws_pkg_fga_b1.FnTypeTermSeparatesTypes", spec := "fnTypeTermSeparatesTypes", apart := false }
def FnTypeTermSeparatesTypesSaid : Prop := fnTypeTermSeparatesTypesRow.holds Try.pinned (OpenSpec.ofChange fnTypeTermSeparatesTypesSpec)

/-- ITS FALSE NEIGHBOUR: 'it returns false'. Refute it at one input. -/
def fnTypeTermSeparatesTypesWrong : ChangeSpec := { name := "fnTypeTermSeparatesTypes", fn := fun _ => fun
  | [d1, d2] => { results := [.lit (.bool false)], args := [d1, d2] }
  | _ => none }
def FnTypeTermSeparatesTypesWrongFalsely : Prop := fnTypeTermSeparatesTypesRow.holds Try.pinned (OpenSpec.ofChange fnTypeTermSeparatesTypesWrong)

/-- 'zzlaws_pkg_fga_b1.FnAdvanceScriptSumsOffsetAndCountsColumns': WHATEVER THE INPUT: true; the input reads as it did. -/
def fnAdvanceScriptSumsOffsetAndCountsColumnsSpec : ChangeSpec := { name := "fnAdvanceScriptSumsOffsetAndCountsColumns", fn := fun _ => fun
  | [d1, d2, d3, d4, d5, d6] => { results := [.lit (.bool true)], args := [d1, d2, d3, d4, d5, d6] }
  | _ => none }
def fnAdvanceScriptSumsOffsetAndCountsColumnsRow : OpenClaim := { program := "qxb6612176a", sum := "d8fe74142b7de9c8986072a30349fbf1973b90fffe37b3d2901b69d1ff96a664", func := "example.com/reed-warbler/reed-warbler/zzlaws_pkg_fga_b1.FnAdvanceScriptSumsOffsetAndCountsColumns", spec := "fnAdvanceScriptSumsOffsetAndCountsColumns", apart := false }
def FnAdvanceScriptSumsOffsetAndCountsColumnsSaid : Prop := fnAdvanceScriptSumsOffsetAndCountsColumnsRow.holds Try.pinned (OpenSpec.ofChange fnAdvanceScriptSumsOffsetAndCountsColumnsSpec)

/-- ITS FALSE NEIGHBOUR: 'it returns false'. Refute it at one input. -/
def fnAdvanceScriptSumsOffsetAndCountsColumnsWrong : ChangeSpec := { name := "fnAdvanceScriptSumsOffsetAndCountsColumns", fn := fun _ => fun
  | [d1, d2, d3, d4, d5, d6] => { results := [.lit (.bool false)], args := [d1, d2, d3, d4, d5, d6] }
  | _ => none }
def FnAdvanceScriptSumsOffsetAndCountsColumnsWrongFalsely : Prop := fnAdvanceScriptSumsOffsetAndCountsColumnsRow.holds Try.pinned (OpenSpec.ofChange fnAdvanceScriptSumsOffsetAndCountsColumnsWrong)

end Rows
end Go.Proofs.Qxb6612176a
