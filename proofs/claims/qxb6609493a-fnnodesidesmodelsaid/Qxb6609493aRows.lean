/-
  No cell of these rows narrows 'for every input' (looked for: loops, veiled, ifaces, maps, wideKeys, modest, calm, conditions, laid).
  DERIVED. THE GIVEN ROWS OF THIS SEAT. 4 by the template 'for every input the law returns true; each argument reads behind the call as it read before'; 0 by the template 'total and deterministic' (their statements: Qxb6609493aTotals.lean).
  GIVEN WITH THE SEED: the statements are not yours to turn. If you find one false, say at which input.
  Laid BY PROGRAM, IN A SANDBOX (cutbox-rows.mjs): the forced cells as the released guide's own fill.sh prints them over the translation f1b490f3cfd8086c… (all of the seat's roots in one cut). By AI agents, Wed Nov 11 2026. No macro, syntax, notation, axiom, sorry.
-/
import Derived.Test.Qxb6609493aChecked
import GoSem.Claim
import GoSem.ClaimJoined
import GoSem.ClaimMapViews
import Derived.JoinedTies
import Derived.KernelRfl
namespace Go.Proofs.Qxb6609493a
/- THE CELL 'sum', in the pinned program and in every row, IS THE sha256 OF THE DUMP (.gsa) THAT Qxb6609493aProg.lean LOADS. Nothing in Lean hashes anything: it is a label: what it is worth is what the hold of that sum in a sandbox is worth. -/
noncomputable def Try.pinned : Pinned := { name := "qxb6609493a", sum := "f1b490f3cfd8086c8b87b75b5cac9da947b16d68820dc39cc8ea7c6ca0736f86", checked := Try.checked }
namespace Rows
def none {H : Type} : Left H := { results := [], args := [] }

/-- 'zzlaws_internal_overlay_b1.FnTrafficCountOrderAndStartFree': WHATEVER THE INPUT: true; the input reads as it did. -/
def fnTrafficCountOrderAndStartFreeSpec : ChangeSpec := { name := "fnTrafficCountOrderAndStartFree", fn := fun _ => fun
  | [d1, d2, d3] => { results := [.lit (.bool true)], args := [d1, d2, d3] }
  | _ => none }
def fnTrafficCountOrderAndStartFreeRow : OpenClaim := { program := "qxb6609493a", sum := "f1b490f3cfd8086c8b87b75b5cac9da947b16d68820dc39cc8ea7c6ca0736f86", func := "example.com/weftline/weftline/zzlaws_internal_overlay_b1.FnTrafficCountOrderAndStartFree", spec := "fnTrafficCountOrderAndStartFree", plainKeys := false, apart := false }
def FnTrafficCountOrderAndStartFreeSaid : Prop := fnTrafficCountOrderAndStartFreeRow.holds Try.pinned (OpenSpec.ofChange fnTrafficCountOrderAndStartFreeSpec)

/-- ITS FALSE NEIGHBOUR: 'it returns false'. Refute it at one input. -/
def fnTrafficCountOrderAndStartFreeWrong : ChangeSpec := { name := "fnTrafficCountOrderAndStartFree", fn := fun _ => fun
  | [d1, d2, d3] => { results := [.lit (.bool false)], args := [d1, d2, d3] }
  | _ => none }
def FnTrafficCountOrderAndStartFreeWrongFalsely : Prop := fnTrafficCountOrderAndStartFreeRow.holds Try.pinned (OpenSpec.ofChange fnTrafficCountOrderAndStartFreeWrong)

/-- 'zzlaws_internal_overlay_b1.FnNearestAdmitsModel': WHATEVER THE INPUT: true; the input reads as it did. -/
def fnNearestAdmitsModelSpec : ChangeSpec := { name := "fnNearestAdmitsModel", fn := fun _ => fun
  | [d1, d2] => { results := [.lit (.bool true)], args := [d1, d2] }
  | _ => none }
def fnNearestAdmitsModelRow : OpenClaim := { program := "qxb6609493a", sum := "f1b490f3cfd8086c8b87b75b5cac9da947b16d68820dc39cc8ea7c6ca0736f86", func := "example.com/weftline/weftline/zzlaws_internal_overlay_b1.FnNearestAdmitsModel", spec := "fnNearestAdmitsModel", inPlace := ["internal/bytealg.Compare"], plainKeys := false, apart := false }
def FnNearestAdmitsModelSaid : Prop := fnNearestAdmitsModelRow.holds Try.pinned (OpenSpec.ofChange fnNearestAdmitsModelSpec)

/-- ITS FALSE NEIGHBOUR: 'it returns false'. Refute it at one input. -/
def fnNearestAdmitsModelWrong : ChangeSpec := { name := "fnNearestAdmitsModel", fn := fun _ => fun
  | [d1, d2] => { results := [.lit (.bool false)], args := [d1, d2] }
  | _ => none }
def FnNearestAdmitsModelWrongFalsely : Prop := fnNearestAdmitsModelRow.holds Try.pinned (OpenSpec.ofChange fnNearestAdmitsModelWrong)

/-- 'zzlaws_internal_overlay_b1.FnNearestAdmitsAgreesWithOffer': WHATEVER THE INPUT: true; the input reads as it did. -/
def fnNearestAdmitsAgreesWithOfferSpec : ChangeSpec := { name := "fnNearestAdmitsAgreesWithOffer", fn := fun _ => fun
  | [d1, d2] => { results := [.lit (.bool true)], args := [d1, d2] }
  | _ => none }
def fnNearestAdmitsAgreesWithOfferRow : OpenClaim := { program := "qxb6609493a", sum := "f1b490f3cfd8086c8b87b75b5cac9da947b16d68820dc39cc8ea7c6ca0736f86", func := "example.com/weftline/weftline/zzlaws_internal_overlay_b1.FnNearestAdmitsAgreesWithOffer", spec := "fnNearestAdmitsAgreesWithOffer", inPlace := ["internal/bytealg.Compare"], plainKeys := false, apart := false }
def FnNearestAdmitsAgreesWithOfferSaid : Prop := fnNearestAdmitsAgreesWithOfferRow.holds Try.pinned (OpenSpec.ofChange fnNearestAdmitsAgreesWithOfferSpec)

/-- ITS FALSE NEIGHBOUR: 'it returns false'. Refute it at one input. -/
def fnNearestAdmitsAgreesWithOfferWrong : ChangeSpec := { name := "fnNearestAdmitsAgreesWithOffer", fn := fun _ => fun
  | [d1, d2] => { results := [.lit (.bool false)], args := [d1, d2] }
  | _ => none }
def FnNearestAdmitsAgreesWithOfferWrongFalsely : Prop := fnNearestAdmitsAgreesWithOfferRow.holds Try.pinned (OpenSpec.ofChange fnNearestAdmitsAgreesWithOfferWrong)

/-- 'zzlaws_internal_overlay_b1.FnNodeSidesModel': WHATEVER THE INPUT: true; the input reads as it did. -/
def fnNodeSidesModelSpec : ChangeSpec := { name := "fnNodeSidesModel", fn := fun _ => fun
  | [d1, d2, d3, d4, d5] => { results := [.lit (.bool true)], args := [d1, d2, d3, d4, d5] }
  | _ => none }
def fnNodeSidesModelRow : OpenClaim := { program := "qxb6609493a", sum := "f1b490f3cfd8086c8b87b75b5cac9da947b16d68820dc39cc8ea7c6ca0736f86", func := "example.com/weftline/weftline/zzlaws_internal_overlay_b1.FnNodeSidesModel", spec := "fnNodeSidesModel", inPlace := ["math/bits.Sub64", "internal/bytealg.Compare"], named := ["encoding/binary.BigEndian"], plainKeys := false, apart := false }
def FnNodeSidesModelSaid : Prop := fnNodeSidesModelRow.holds Try.pinned (OpenSpec.ofChange fnNodeSidesModelSpec)

/-- ITS FALSE NEIGHBOUR: 'it returns false'. Refute it at one input. -/
def fnNodeSidesModelWrong : ChangeSpec := { name := "fnNodeSidesModel", fn := fun _ => fun
  | [d1, d2, d3, d4, d5] => { results := [.lit (.bool false)], args := [d1, d2, d3, d4, d5] }
  | _ => none }
def FnNodeSidesModelWrongFalsely : Prop := fnNodeSidesModelRow.holds Try.pinned (OpenSpec.ofChange fnNodeSidesModelWrong)

end Rows
end Go.Proofs.Qxb6609493a
