import Derived.Test.Qxb6612204aRows
import Derived.Test.Qxb6612204aHeld
import Derived.ProofKit
import Derived.ShutString
import Derived.OpenShut
namespace Go.Proofs.Qxb6612204a
open Go.ChangeShapes Go.WideShapes Go.ChangeAt Go.RowKit
open Go.ChangeMaps (open_string shut_string)

theorem own : ownKnob Try.prog.godebug = none := by kernel_rfl
theorem laidOut : laidOutB Try.prog = true := by kernel_rfl
theorem cells5 : Try.prog.cellsOf 5 = 1 := by kernel_rfl
theorem cells22 : Try.prog.cellsOf 22 = 1024 := by kernel_rfl
theorem cells23 : Try.prog.cellsOf 23 = 1 := by kernel_rfl
theorem cells24 : Try.prog.cellsOf 24 = 2 := by kernel_rfl

theorem lst_of {cs : List Value} (hl : cs.length = 1024) (h : ∀ i, i < 1024 → ∃ n, cs[i]? = some (.int .u8 n)) : ∃ r : Nat → Int, cs = lst r := by
  refine ⟨fun i => match cs[i]? with | some (.int _ n) => n | _ => 0, List.ext_getElem? fun i => ?_⟩
  by_cases hi : i < 1024
  · obtain ⟨n, hn⟩ := h i hi
    rw [lst_get _ i hi, hn]
  · rw [List.getElem?_eq_none (by omega), List.getElem?_eq_none (by rw [lst_length]; omega)]

/-- An array of 1024 bytes by value. -/
theorem open22 {H : Type} {enc : TypeId × Value → H} {W : World} {base : Nat} {v : Value} {d : DataW H} {p : List MemPlace} (ho : Value.okWide Try.prog W .any base 22 v) (h : DataW.Trod enc Try.prog W 0 (fun _ => true) true 22 v d p) :
    ∃ r : Nat → Int, v = .agg (lst r).toArray := by
  simp only [Value.okWide, Try.underlying22] at ho
  obtain ⟨cs, rfl, hsz, _⟩ := ho
  rw [cells22] at hsz
  obtain ⟨fuel, hf⟩ := h
  have hf' : DataW.trod enc Try.prog W 0 (fun _ => true) true fuel 22 cs.toList = some (d, p) := hf
  obtain ⟨xs, m, _, _, hlen, hl, hel⟩ := DataW.trod_array Try.underlying22 hf'
  obtain ⟨r, hr⟩ := lst_of (cs := cs.toList) (by simpa using hsz) (fun i hi => by
    have hE := hel i hi
    rw [cells5, Nat.mul_one, List.getElem?_eq_getElem (by omega)] at hE
    obtain ⟨z, e1, _, _⟩ := DataW.trod_int Try.underlying5 hE
    have h0 : ((cs.toList.drop i).take 1)[0]? = some (.int .u8 z) := by rw [e1]; rfl
    exact ⟨z, by simpa using h0⟩)
  exact ⟨r, by rw [← hr]⟩

/-- An array of two numbers by value. -/
theorem open24 {H : Type} {enc : TypeId × Value → H} {W : World} {base : Nat} {v : Value} {d : DataW H} {p : List MemPlace} (ho : Value.okWide Try.prog W .any base 24 v) (h : DataW.Trod enc Try.prog W 0 (fun _ => true) true 24 v d p) :
    ∃ f0 f1 : Int, v = .agg #[.int .u64 f0, .int .u64 f1] ∧ (Lit.int .u64 f0).wf = true ∧ (Lit.int .u64 f1).wf = true := by
  simp only [Value.okWide, Try.underlying24] at ho
  obtain ⟨cs, rfl, hsz, _⟩ := ho
  rw [cells24] at hsz
  obtain ⟨fuel, hf⟩ := h
  have hf' : DataW.trod enc Try.prog W 0 (fun _ => true) true fuel 24 cs.toList = some (d, p) := hf
  obtain ⟨xs, m, _, _, hlen, hl, hel⟩ := DataW.trod_array Try.underlying24 hf'
  have each : ∀ i, i < 2 → ∃ z, cs.toList[i]? = some (.int .u64 z) ∧ (Lit.int .u64 z).wf = true := fun i hi => by
    have hE := hel i hi
    rw [cells23, Nat.mul_one, List.getElem?_eq_getElem (by omega)] at hE
    obtain ⟨z, e1, _, wz⟩ := DataW.trod_int Try.underlying23 hE
    have h0 : ((cs.toList.drop i).take 1)[0]? = some (.int .u64 z) := by rw [e1]; rfl
    exact ⟨z, by simpa using h0, wz⟩
  obtain ⟨f0, e0, w0⟩ := each 0 (by omega)
  obtain ⟨f1, e1, w1⟩ := each 1 (by omega)
  refine ⟨f0, f1, ?_, w0, w1⟩
  congr 1
  obtain ⟨l⟩ := cs
  match l, hsz with
  | [u, v], _ => simp at e0 e1; rw [e0, e1]

/-- A letter for the list of the cells. -/
theorem some_L : ∃ L : (Nat → Int) → List Value, IsL L := ⟨lst, fun _ => rfl⟩
theorem open22L {L : (Nat → Int) → List Value} (HL : IsL L) {H : Type} {enc : TypeId × Value → H} {W : World} {base : Nat} {v : Value} {d : DataW H} {p : List MemPlace} (ho : Value.okWide Try.prog W .any base 22 v) (h : DataW.Trod enc Try.prog W 0 (fun _ => true) true 22 v d p) :
    ∃ r : Nat → Int, v = .agg (L r).toArray := by
  obtain ⟨r, hr⟩ := open22 ho h
  exact ⟨r, by rw [HL r]; exact hr⟩
end Go.Proofs.Qxb6612204a
