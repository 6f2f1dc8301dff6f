import Derived.Test.Qxb6609493aRows
import Derived.Test.Qxb6609493aLaw
import Derived.ProofKit
import Derived.ShutString
import Derived.OpenShut
namespace Go.Proofs.Qxb6609493a
open Go.ChangeShapes Go.WideShapes Go.ChangeAt Go.RowKit

set_option maxRecDepth 100000

theorem own : ownKnob Try.prog.godebug = none := by kernel_rfl
theorem laidOut : laidOutB Try.prog = true := by kernel_rfl
theorem cells5 : Try.prog.cellsOf 5 = 1 := by kernel_rfl
theorem cells4 : Try.prog.cellsOf 4 = 1 := by kernel_rfl
theorem cells30 : Try.prog.cellsOf 30 = 20 := by kernel_rfl

theorem bytes_of {cs : List Value} (hl : cs.length = 20) (h : ∀ i, i < 20 → ∃ n, cs[i]? = some (.int .u8 n) ∧ 0 ≤ n ∧ n ≤ 255) : ∃ r : Nat → Int, cs = lst r ∧ Ok r := by
  refine ⟨fun i => match cs[i]? with | some (.int _ n) => n | _ => 0, List.ext_getElem? fun i => ?_, fun i hi => ?_⟩
  · by_cases hi : i < 20
    · obtain ⟨n, hn, _⟩ := h i hi
      rw [lst_get _ i hi, hn]
    · rw [List.getElem?_eq_none (by omega), List.getElem?_eq_none (by rw [lst_length]; omega)]
  · obtain ⟨n, hn, h0⟩ := h i hi
    dsimp only
    rw [hn]; exact h0

section
variable {H : Type} {enc : TypeId × Value → H} {W : World}
/-- Twenty bytes that are trodden. -/
theorem trod20 {fuel : Nat} {cs : List Value} {x : DataW H × List MemPlace} (hf : DataW.trod enc Try.prog W 0 (fun _ => true) true fuel 30 cs = some x) : ∃ r : Nat → Int, cs = lst r ∧ Ok r := by
  obtain ⟨xs, m, _, _, hlen, hl, hel⟩ := DataW.trod_array Try.underlying30 hf
  rw [cells30] at hlen
  exact bytes_of hlen (fun i hi => by
    have hE := hel i hi
    rw [cells5, Nat.mul_one, List.getElem?_eq_getElem (by omega)] at hE
    obtain ⟨z, e1, _, wz⟩ := DataW.trod_int Try.underlying5 hE
    have h0 : ((cs.drop i).take 1)[0]? = some (.int .u8 z) := by rw [e1]; rfl
    exact ⟨z, by simpa using h0, bounds_u8 wz⟩)
/-- An address by value. -/
theorem open30 {L : (Nat → Int) → List Value} (HL : IsL L) {base : Nat} {v : Value} {d : DataW H} {p : List MemPlace} (ho : Value.okWide Try.prog W .any base 30 v) (h : DataW.Trod enc Try.prog W 0 (fun _ => true) true 30 v d p) :
    ∃ r : Nat → Int, v = .agg (L r).toArray ∧ Ok r := by
  simp only [Value.okWide, Try.underlying30] at ho
  obtain ⟨cs, rfl, hsz, _⟩ := ho
  obtain ⟨fuel, hf⟩ := h
  have hf' : DataW.trod enc Try.prog W 0 (fun _ => true) true fuel 30 cs.toList = some (d, p) := hf
  obtain ⟨r, hr, hk⟩ := trod20 hf'
  exact ⟨r, by rw [HL r, ← hr], hk⟩

theorem addr_of {a : Addr} {v : Value} (h : W.cell? a = some v) : a = ⟨a.block, a.off, none⟩ := by
  obtain ⟨b, o, s⟩ := a
  unfold World.cell? at h
  split at h
  · split at h
    · cases h
    · rename_i hs
      cases s with
      | none => rfl
      | some _ => simp at hs
  · cases h

/-- A slice, element by element. -/
theorem slice_elems {t e : TypeId} {m : Nat} (ht : Try.prog.underlying t = some (.slice e)) (hm : Try.prog.cellsOf e = m) (h0 : 0 < m) {base : Nat} {v : Value} {d : DataW H} {p : List MemPlace} (ho : Value.okWide Try.prog W .any base t v) (h : DataW.Trod enc Try.prog W 0 (fun _ => true) true t v d p) :
    ∃ a n c, v = .slice a n c ∧ n ≤ maxLen ∧ (0 < n → ∃ b o, a = some ⟨b, o, none⟩ ∧ ∀ i, i < n → ∃ cs y fuel, cs.length = m ∧ (∀ j, j < m → W.cell? ⟨b, o + i * m + j, none⟩ = cs[j]?) ∧ DataW.trod enc Try.prog W 0 (fun _ => true) true fuel e cs = some y) := by
  obtain ⟨a, n, c, rfl⟩ := okWide_slice ht ho
  obtain ⟨fuel, hf⟩ := h
  rcases DataW.trod_slice ht hf with ⟨hcs, _⟩ | ⟨x, len, cap, elems, rest, k, _, hcs, _, hb, hl, hmx, hlen, hel, _⟩
  · simp [Value.cells] at hcs
    obtain ⟨rfl, rfl, rfl⟩ := hcs
    exact ⟨none, 0, 0, rfl, by omega, fun h => by omega⟩
  · simp [Value.cells] at hcs
    obtain ⟨rfl, rfl, rfl⟩ := hcs
    refine ⟨some x, n, c, rfl, by omega, fun hn => ?_⟩
    have each : ∀ i, i < n → ∃ cs y, cs.length = m ∧ (∀ j, j < m → W.cell? ((x.add (i * m)).add j) = cs[j]?) ∧ DataW.trod enc Try.prog W 0 (fun _ => true) true k e cs = some y := fun i hi => by
      have hE := hel i hi
      rw [hm, List.getElem?_eq_getElem (by omega), Option.bind_eq_some_iff] at hE
      obtain ⟨cs, hc, hy⟩ := hE
      obtain ⟨_, h2, h3⟩ := World.cells?_some hc
      exact ⟨cs, _, h2, h3, hy⟩
    have hx : x = ⟨x.block, x.off, none⟩ := by
      obtain ⟨cs, y, h1, h2, _⟩ := each 0 hn
      have := h2 0 h0
      rw [List.getElem?_eq_getElem (by omega)] at this
      have e0 : (x.add (0 * m)).add 0 = x := by simp [Addr.add]
      rw [e0] at this
      exact addr_of this
    refine ⟨x.block, x.off, by rw [← hx], fun i hi => ?_⟩
    obtain ⟨cs, y, h1, h2, h3⟩ := each i hi
    refine ⟨cs, y, k, h1, fun j hj => ?_, h3⟩
    have := h2 j hj
    rw [hx, Addr.add_mid, Addr.add_mid] at this
    exact this

theorem open40 {base : Nat} {v : Value} {d : DataW H} {p : List MemPlace} (ho : Value.okWide Try.prog W .any base 40 v) (h : DataW.Trod enc Try.prog W 0 (fun _ => true) true 40 v d p) :
    ∃ a n c, v = .slice a n c ∧ n ≤ maxLen ∧ ∃ st : Nat → Int, (∀ i, 0 ≤ st i ∧ st i ≤ 255) ∧ (0 < n → ∃ b o, a = some ⟨b, o, none⟩ ∧ ∀ i, i < n → W.cell? ⟨b, o + i, none⟩ = some (.int .u8 (st i))) := by
  obtain ⟨a, n, c, rfl, hn, he⟩ := slice_elems Try.underlying40 cells5 (by omega) ho h
  refine ⟨a, n, c, rfl, hn, ?_⟩
  by_cases h0 : 0 < n
  · obtain ⟨b, o, rfl, he2⟩ := he h0
    have each : ∀ i, ∃ z : Int, (0 ≤ z ∧ z ≤ 255) ∧ (i < n → W.cell? ⟨b, o + i, none⟩ = some (.int .u8 z)) := fun i => by
      by_cases hi : i < n
      · obtain ⟨cs, y, fuel, h1, h2, h3⟩ := he2 i hi
        obtain ⟨z, rfl, _, wz⟩ := DataW.trod_int Try.underlying5 h3
        have := h2 0 (by omega)
        rw [Nat.mul_one, Nat.add_zero] at this
        exact ⟨z, bounds_u8 wz, fun _ => this⟩
      · exact ⟨0, by omega, fun c => absurd c hi⟩
    obtain ⟨st, hst⟩ := Classical.skolem.1 each
    exact ⟨st, fun i => (hst i).1, fun _ => ⟨b, o, rfl, fun i hi => (hst i).2 hi⟩⟩
  · exact ⟨fun _ => 0, fun _ => ⟨Int.le_refl _, (by decide : (0 : Int) ≤ 255)⟩, fun c => absurd c h0⟩
theorem open39 {base : Nat} {v : Value} {d : DataW H} {p : List MemPlace} (ho : Value.okWide Try.prog W .any base 39 v) (h : DataW.Trod enc Try.prog W 0 (fun _ => true) true 39 v d p) :
    ∃ a n c, v = .slice a n c ∧ n ≤ maxLen ∧ ∃ kn : Nat → Bool, (0 < n → ∃ b o, a = some ⟨b, o, none⟩ ∧ ∀ i, i < n → W.cell? ⟨b, o + i, none⟩ = some (.bool (kn i))) := by
  obtain ⟨a, n, c, rfl, hn, he⟩ := slice_elems Try.underlying39 cells4 (by omega) ho h
  refine ⟨a, n, c, rfl, hn, ?_⟩
  by_cases h0 : 0 < n
  · obtain ⟨b, o, rfl, he2⟩ := he h0
    have each : ∀ i, ∃ z : Bool, (i < n → W.cell? ⟨b, o + i, none⟩ = some (.bool z)) := fun i => by
      by_cases hi : i < n
      · obtain ⟨cs, y, fuel, h1, h2, h3⟩ := he2 i hi
        obtain ⟨z, rfl, _⟩ := DataW.trod_bool Try.underlying4 h3
        have := h2 0 (by omega)
        rw [Nat.mul_one, Nat.add_zero] at this
        exact ⟨z, fun _ => this⟩
      · exact ⟨false, fun c => absurd c hi⟩
    obtain ⟨kn, hkn⟩ := Classical.skolem.1 each
    exact ⟨kn, fun _ => ⟨b, o, rfl, fun i hi => hkn i hi⟩⟩
  · exact ⟨fun _ => false, fun c => absurd c h0⟩
theorem open29 {base : Nat} {v : Value} {d : DataW H} {p : List MemPlace} (ho : Value.okWide Try.prog W .any base 29 v) (h : DataW.Trod enc Try.prog W 0 (fun _ => true) true 29 v d p) :
    ∃ a n c, v = .slice a n c ∧ n ≤ maxLen ∧ ∃ ad : Nat → Nat → Int, (∀ i, Ok (ad i)) ∧ (0 < n → ∃ b o, a = some ⟨b, o, none⟩ ∧ ∀ i, i < n → W.rangeAt b (o + i * 20) (lst (ad i))) := by
  obtain ⟨a, n, c, rfl, hn, he⟩ := slice_elems Try.underlying29 cells30 (by omega) ho h
  refine ⟨a, n, c, rfl, hn, ?_⟩
  by_cases h0 : 0 < n
  · obtain ⟨b, o, rfl, he2⟩ := he h0
    have each : ∀ i, ∃ r : Nat → Int, Ok r ∧ (i < n → W.rangeAt b (o + i * 20) (lst r)) := fun i => by
      by_cases hi : i < n
      · obtain ⟨cs, y, fuel, h1, h2, h3⟩ := he2 i hi
        obtain ⟨r, hr, hk⟩ := trod20 h3
        refine ⟨r, hk, fun _ j u hu => ?_⟩
        rw [← hr] at hu
        have hj := (List.getElem?_eq_some_iff.1 hu).1
        rw [h2 j (by omega), hu]
      · exact ⟨fun _ => 0, ok_zero, fun c => absurd c hi⟩
    obtain ⟨ad, had⟩ := Classical.skolem.1 each
    exact ⟨ad, fun i => (had i).1, fun _ => ⟨b, o, rfl, fun i hi => (had i).2 hi⟩⟩
  · exact ⟨fun _ _ => 0, fun _ => ok_zero, fun c => absurd c h0⟩
end
/-- A letter for the list of the cells. -/
theorem some_L : ∃ L : (Nat → Int) → List Value, IsL L := ⟨lst, fun _ => rfl⟩
end Go.Proofs.Qxb6609493a
