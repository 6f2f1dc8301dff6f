import Derived.Test.Qxb6612204aWit
namespace Go.Proofs.Qxb6612204a
open Go.ChangeShapes Go.WideShapes Go.ChangeAt Go.RowKit

theorem lst_of' {cs : List Value} (hl : cs.length = 1024) (h : ∀ i, i < 1024 → ∃ n, cs[i]? = some (.int .u8 n) ∧ 0 ≤ n) : ∃ r : Nat → Int, cs = lst r ∧ ∀ i, i < 1024 → 0 ≤ r i := by
  refine ⟨fun i => match cs[i]? with | some (.int _ n) => n | _ => 0, List.ext_getElem? fun i => ?_, fun i hi => ?_⟩
  · by_cases hi : i < 1024
    · obtain ⟨n, hn, _⟩ := h i hi
      rw [lst_get _ i hi, hn]
    · rw [List.getElem?_eq_none (by omega), List.getElem?_eq_none (by rw [lst_length]; omega)]
  · obtain ⟨n, hn, h0⟩ := h i hi
    dsimp only
    rw [hn]; exact h0

/-- An array of 1024 bytes by value, none below zero. -/
theorem open22W {L : (Nat → Int) → List Value} (HL : IsL L) {H : Type} {enc : TypeId × Value → H} {W : World} {base : Nat} {v : Value} {d : DataW H} {p : List MemPlace} (ho : Value.okWide Try.prog W .any base 22 v) (h : DataW.Trod enc Try.prog W 0 (fun _ => true) true 22 v d p) :
    ∃ r : Nat → Int, v = .agg (L r).toArray ∧ ∀ i, i < 1024 → 0 ≤ r i := by
  simp only [Value.okWide, Try.underlying22] at ho
  obtain ⟨cs, rfl, hsz, _⟩ := ho
  rw [cells22] at hsz
  obtain ⟨fuel, hf⟩ := h
  have hf' : DataW.trod enc Try.prog W 0 (fun _ => true) true fuel 22 cs.toList = some (d, p) := hf
  obtain ⟨xs, m, _, _, hlen, hl, hel⟩ := DataW.trod_array Try.underlying22 hf'
  obtain ⟨r, hr, h0⟩ := lst_of' (cs := cs.toList) (by simpa using hsz) (fun i hi => by
    have hE := hel i hi
    rw [cells5, Nat.mul_one, List.getElem?_eq_getElem (by omega)] at hE
    obtain ⟨z, e1, _, wz⟩ := DataW.trod_int Try.underlying5 hE
    have h0 : ((cs.toList.drop i).take 1)[0]? = some (.int .u8 z) := by rw [e1]; rfl
    exact ⟨z, by simpa using h0, (bounds_u8 wz).1⟩)
  exact ⟨r, by rw [HL r, ← hr], h0⟩
end Go.Proofs.Qxb6612204a
