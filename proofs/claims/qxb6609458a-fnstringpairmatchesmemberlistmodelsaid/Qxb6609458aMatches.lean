import Derived.Test.Qxb6609458aRows
import Derived.Test.Qxb6609458aLawC
import Derived.ProofKit
import Derived.ShutString
import Derived.OpenShut
import Derived.Deep.Slices
import Derived.Deep.Strs
namespace Go.Proofs.Qxb6609458a.Matches
open Go.ChangeShapes Go.WideShapes Go.ChangeAt Go.RowKit Go.Deep
open Go.ChangeMaps (open_string shut_string)

theorem own : ownKnob Try.prog.godebug = none := by kernel_rfl
theorem laidOut : laidOutB Try.prog = true := by kernel_rfl
theorem cells23 : Try.prog.cellsOf 23 = 3 := by kernel_rfl
theorem cells9 : Try.prog.cellsOf 9 = 1 := by kernel_rfl
theorem cells4 : Try.prog.cellsOf 4 = 1 := by kernel_rfl

/-- What the walk is told of the slice of members. -/
def IsMems (W : World) (a : Option Addr) (len cap : Nat) : Prop :=
  len ≤ maxLen ∧ ((a = none ∧ len = 0 ∧ cap = 0) ∨ (len = 0 ∧ ∃ ad, a = some ad) ∨
    ∃ b off, ∃ ms : List Mem, a = some ⟨b, off, none⟩ ∧ ms.length = len ∧ 0 < len ∧ b < W.heap.size ∧ At W b off ms ∧ ∀ m ∈ ms, m.key.size ≤ maxLen ∧ m.val.size ≤ maxLen)

theorem open_mems {H : Type} {enc : TypeId × Value → H} {W : World} {spare : Nat → Bool} {held : Bool} {fuel : Nat} {a : Option Addr} {len cap : Nat} {x : DataW H × List MemPlace}
    (h : DataW.trod enc Try.prog W 0 spare held fuel 22 [.slice a len cap] = some x) : IsMems W a len cap := by
  rcases open_slice Try.underlying22 h with ⟨hcs, _⟩ | ⟨ad, l, c, m, n, D, Pl, hcs, _, hl, hm, hmm, _, hx⟩
  · simp at hcs
    obtain ⟨rfl, rfl, rfl⟩ := hcs
    exact ⟨Nat.zero_le _, .inl ⟨rfl, rfl, rfl⟩⟩
  · simp at hcs
    obtain ⟨rfl, rfl, rfl⟩ := hcs
    refine ⟨Nat.le_trans hl hm, .inr ?_⟩
    by_cases h0 : len = 0
    · exact .inl ⟨h0, _, rfl⟩
    right
    have hlm : len ≤ m := by rw [hmm]; split <;> omega
    rw [cells23] at hx
    have each : ∀ i, i < len → ∃ q : Mem, W.cell? (ad.add (i * 3)) = some (.string q.key) ∧ W.cell? (ad.add (i * 3 + 1)) = some (.string q.val) ∧ W.cell? (ad.add (i * 3 + 2)) = some (.bool q.num) ∧ q.key.size ≤ maxLen ∧ q.val.size ≤ maxLen := by
      intro i hi
      obtain ⟨cs', h1, h2⟩ := hx i (by omega)
      obtain ⟨_, hlen, hcell⟩ := World.cells?_some h1
      obtain ⟨y0, y1, y2, k, _, _, g0, g1, g2⟩ := trod_struct3 Try.underlying23 h2
      simp only [cells9, cells4] at g0 g1 g2
      match cs', hlen with
      | [u0, u1, u2], _ =>
        simp at g0 g1 g2
        obtain ⟨s0, e0, _, z0⟩ := DataW.trod_string Try.underlying9 g0
        obtain ⟨s1, e1, _, z1⟩ := DataW.trod_string Try.underlying9 g1
        obtain ⟨s2, e2, _⟩ := DataW.trod_bool Try.underlying4 g2
        simp at e0 e1 e2
        subst e0 e1 e2
        have q0 := hcell 0 (by omega)
        have q1 := hcell 1 (by omega)
        have q2 := hcell 2 (by omega)
        rw [add_add] at q0 q1 q2
        exact ⟨⟨s0, s1, s2⟩, by simpa using q0, by simpa using q1, by simpa using q2, z0, z1⟩
    obtain ⟨q, hq⟩ := @choose_lt Mem ⟨Mem.zero⟩ _ _ each
    obtain ⟨b, off, spot⟩ := ad
    have hspot : spot = none := by simpa [Addr.add] using World.cell?_spot (hq 0 (by omega)).1
    subst hspot
    have hlt : b < W.heap.size := by
      have := (hq 0 (by omega)).1
      simp [Addr.add, World.cell?] at this
      by_cases hb : b < W.heap.size
      · exact hb
      · rw [Array.getElem?_eq_none (by omega)] at this; simp at this
    refine ⟨b, off, (List.range len).map q, rfl, by simp, by omega, hlt, ?_, ?_⟩
    · intro i hi
      have hi' : i < len := by simpa using hi
      have e : ((List.range len).map q).getD i Mem.zero = q i := by simp [List.getD, hi']
      rw [e]
      obtain ⟨e0, e1, e2, _⟩ := hq i hi'
      rw [Go.WideShapes.add_plain] at e0 e1 e2
      exact ⟨e0, by rw [Nat.add_assoc]; exact e1, by rw [Nat.add_assoc]; exact e2⟩
    · intro z hz
      obtain ⟨i, hi, rfl⟩ := List.mem_map.1 hz
      exact (hq i (by simpa using hi)).2.2.2

theorem walk (a : Option Addr) (len cap : Nat) (x y : ByteArray) (W : World) (hm : IsMems W a len cap) (hx : x.size ≤ maxLen) (hy : y.size ≤ maxLen) :
    Calls Try.prog 3 #[.slice a len cap, .string x, .string y] W fun e w' => e = .returned (.bool true) ∧ Below W.heap.size W w' := by
  obtain ⟨hl, hm⟩ := hm
  by_cases hb : x.size ≤ 1048576 ∧ y.size ≤ 1048576 ∧ len ≤ 32768
  · obtain ⟨b0, b1, b2⟩ := hb
    rcases hm with ⟨rfl, rfl, rfl⟩ | ⟨rfl, ad, rfl⟩ | ⟨b, off, ms, rfl, rfl, hpos, hb, hat, hsz⟩
    · exact law_empty none 0 x y W b0 b1 none (fun w1 _ => model_empty none 0 x y w1) (fun w1 _ => of_nil x y w1)
    · exact law_empty (some ad) cap x y W b0 b1 none (fun w1 _ => model_empty (some ad) cap x y w1) (fun w1 _ => of_empty ad cap x y w1 hx hy)
    · exact law_some ms b off cap x y W b0 b1 b2 hpos hb hat hsz
  · exact law_long a len cap x y W hl hx hy (by omega)

set_option maxRecDepth 100000 in
theorem lifted (os : Os) (started : os.Started) (H : Type) (enc : TypeId × Value → H) :
    ReturnsInHanded {} Try.checked os 3 .any (Rows.fnStringPairMatchesMemberListModelSpec.pre6 enc Try.prog Try.f3 Rows.fnStringPairMatchesMemberListModelRow.domain false) (Rows.fnStringPairMatchesMemberListModelSpec.post enc Try.prog Try.f3 false true false false) := by
  refine returnsInHanded_of_change (C := Try.checked) own started (by kernel_rfl) Try.func3
    (ChangeSpec.witness6 (enc := enc) (C := Try.checked) false ⟨#[], #[.slice none 0 0, .string ByteArray.empty, .string ByteArray.empty], []⟩ 8 (by kernel_rfl) (by kernel_rfl) (by kernel_rfl) (by kernel_rfl)) ?_
  intro W base args ds gs before hval0 hW hcnd _
  have hval : ∀ (j : Nat) t v, Try.f3.params[j]? = some t → args[j]? = some v → Value.okWide Try.prog W .any base t v := hval0
  have hW' := hW
  obtain ⟨p, q, hA0, hV, rfl, hfz, hnd⟩ := hW
  have hA : DataW.TrodAll enc Try.prog W 0 (fun _ => true) true Try.f3.params.toList args.toList ds p := hA0
  rw [Try.params3] at hA hval
  obtain ⟨v0, vs0, d0, ds0, p0, q0, hargs, rfl, rfl, h0, r0⟩ := trodAll_cons hA
  obtain ⟨v1, vs1, d1, ds1, p1, q1, rfl, rfl, rfl, h1, r1⟩ := trodAll_cons r0
  obtain ⟨v2, vs2, d2, ds2, p2, q2, rfl, rfl, rfl, h2, r2⟩ := trodAll_cons r1
  obtain ⟨rfl, rfl, rfl⟩ := trodAll_nil r2
  obtain rfl : args = #[v0, v1, v2] := by cases args; simp_all
  obtain ⟨rfl, rfl⟩ := trodVars_none hV
  obtain ⟨a0, len0, cap0, rfl⟩ := okWide_slice Try.underlying22 (hval 0 22 v0 rfl rfl)
  have k0 := h0
  have lt0 : ∀ x ∈ p0, x.block < W.heap.size := by obtain ⟨m, hm⟩ := k0; exact DataW.trod_lt m _ _ _ hm
  have w0 : IsMems W a0 len0 cap0 := by
    obtain ⟨fuel, hf⟩ := h0
    exact open_mems (by simpa [Value.cells] using hf)
  obtain ⟨a1, rfl, rfl, rfl, w1⟩ := open_string Try.underlying9 (hval 1 9 v1 rfl rfl) h1
  obtain ⟨a2, rfl, rfl, rfl, w2⟩ := open_string Try.underlying9 (hval 2 9 v2 rfl rfl) h2
  clear hA0 hval0
  refine (walk a0 len0 cap0 a1 a2 W w0 w1 w2).mono fun e W' ⟨he, bel⟩ => ?_
  subst he
  exact ⟨_, rfl, _, _, _, [], _, [], hW', trodAll_mk1 (shut_bool Try.underlying4 _), (trodAll_cons_mk (Below.trod laidOut (by kernel_rfl) (of_decide_eq_true (by kernel_rfl)) k0 bel lt0) (trodAll_cons_mk (shut_string Try.underlying9 w1) (trodAll_cons_mk (shut_string Try.underlying9 w2) trodAll_mk0))), rfl, bel.frame _, fun h => by cases h⟩

theorem over : Rows.fnStringPairMatchesMemberListModelRow.holds Try.pinned (OpenSpec.ofChange Rows.fnStringPairMatchesMemberListModelSpec) :=
  OpenClaim.holds_of_wide 3 Try.f3 rfl rfl rfl rfl rfl rfl rfl ⟨rfl, rfl, rfl, rfl, rfl⟩ rfl rfl rfl rfl rfl (by kernel_rfl) Try.func3 (by kernel_rfl)
    (of_decide_eq_true (by kernel_rfl)) (by unfold Func.isWrapper; first | (rw [if_pos (by decide +kernel)]; kernel_rfl) | (rw [if_neg (by decide +kernel)]; exact ⟨rfl, rfl⟩))
    (fun os started H enc _ => lifted os started H enc)

end Go.Proofs.Qxb6609458a.Matches

namespace Go.Proofs.Qxb6609458a
/-- ████ THE STATEMENT ████ -/
theorem matches_proved : Rows.FnStringPairMatchesMemberListModelSaid := Matches.over
#print axioms matches_proved
end Go.Proofs.Qxb6609458a
