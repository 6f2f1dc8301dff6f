import Derived.Test.Qxb6609493aSub
namespace Go.Proofs.Qxb6609493a
open Go.RowKit

/-! ### The words' difference is the bytes' difference -/
theorem by_low (x X : Int) (k : Nat) (hk : k < 8) : (X * 18446744073709551616 + x) / 256 ^ k % 256 = (x % 18446744073709551616) / 256 ^ k % 256 := by
  rcases (by omega : k = 0 ∨ k = 1 ∨ k = 2 ∨ k = 3 ∨ k = 4 ∨ k = 5 ∨ k = 6 ∨ k = 7) with h | h | h | h | h | h | h | h <;> subst h <;> simp only [Int.reducePow] <;> omega
theorem by_hi (x : Int) (k : Nat) (hk : k < 4) : x / 256 ^ k % 256 = (x % 4294967296) / 256 ^ k % 256 := by
  rcases (by omega : k = 0 ∨ k = 1 ∨ k = 2 ∨ k = 3) with h | h | h | h <;> subst h <;> simp only [Int.reducePow] <;> omega

theorem V_words (a : Nat → Int) : V a = (Vp a 4 * 18446744073709551616 + Vp (fun i => a (4 + i)) 8) * 18446744073709551616 + Vp (fun i => a (12 + i)) 8 := by
  simp only [V, Vp, Nat.reduceAdd, Nat.add_zero]
  omega
theorem word8 {r : Nat → Int} (h : ∀ i, i < 8 → 0 ≤ r i ∧ r i ≤ 255) : 0 ≤ Vp r 8 ∧ Vp r 8 < 18446744073709551616 := by
  have h0 := h 0 (by omega); have h1 := h 1 (by omega); have h2 := h 2 (by omega); have h3 := h 3 (by omega); have h4 := h 4 (by omega); have h5 := h 5 (by omega); have h6 := h 6 (by omega); have h7 := h 7 (by omega)
  simp only [Vp]
  omega
theorem word4 {r : Nat → Int} (h : ∀ i, i < 4 → 0 ≤ r i ∧ r i ≤ 255) : 0 ≤ Vp r 4 ∧ Vp r 4 < 4294967296 := by
  have h0 := h 0 (by omega); have h1 := h 1 (by omega); have h2 := h 2 (by omega); have h3 := h 3 (by omega)
  simp only [Vp]
  omega

def bw (x y : Int) : Int := if x < y then 1 else 0
theorem bw_bd (x y : Int) : 0 ≤ bw x y ∧ bw x y ≤ 1 := by unfold bw; split <;> omega
theorem bw_div {x y X : Int} (hx : 0 ≤ x ∧ x < 18446744073709551616) (hy : 0 ≤ y ∧ y < 18446744073709551616) : (X * 18446744073709551616 + (x - y)) / 18446744073709551616 = X - bw x y := by
  unfold bw; split <;> omega
theorem bw_div1 {x y X b : Int} (hx : 0 ≤ x ∧ x < 18446744073709551616) (hy : 0 ≤ y ∧ y < 18446744073709551616) (hb : 0 ≤ b ∧ b ≤ 1) : (X * 18446744073709551616 + (x - y - b)) / 18446744073709551616 = X - bw x (y + b) := by
  unfold bw; split <;> omega

theorem sub_words {a b : Nat → Int} (ha : Ok a) (hb : Ok b) (h1 h2 m1 m2 l1 l2 b1 b2 : Int) (eh1 : h1 = Vp a 4) (eh2 : h2 = Vp b 4) (em1 : m1 = Vp (fun i => a (4 + i)) 8) (em2 : m2 = Vp (fun i => b (4 + i)) 8) (el1 : l1 = Vp (fun i => a (12 + i)) 8) (el2 : l2 = Vp (fun i => b (12 + i)) 8)
    (e1 : b1 = bw l1 l2) (e2 : b2 = bw m1 (m2 + b1)) : ∀ i, i < 20 → wb ((h1 - h2 - b2) % 4294967296) ((m1 - m2 - b1) % 18446744073709551616) ((l1 - l2) % 18446744073709551616) i = subF a b i := by
  have hV1 := V_words a
  have hV2 := V_words b
  have bm1 := word8 (r := fun i => a (4 + i)) fun i hi => ha (4 + i) (by omega)
  have bm2 := word8 (r := fun i => b (4 + i)) fun i hi => hb (4 + i) (by omega)
  have bl1 := word8 (r := fun i => a (12 + i)) fun i hi => ha (12 + i) (by omega)
  have bl2 := word8 (r := fun i => b (12 + i)) fun i hi => hb (12 + i) (by omega)
  rw [← em1] at bm1 hV1
  rw [← em2] at bm2 hV2
  rw [← el1] at bl1 hV1
  rw [← el2] at bl2 hV2
  rw [← eh1] at hV1
  rw [← eh2] at hV2
  have bb := bw_bd l1 l2
  rw [← e1] at bb
  have hD : V a - V b = ((h1 - h2) * 18446744073709551616 + (m1 - m2)) * 18446744073709551616 + (l1 - l2) := by rw [hV1, hV2]; omega
  have hE : (V a - V b) / 18446744073709551616 = (h1 - h2) * 18446744073709551616 + (m1 - m2 - b1) := by
    rw [hD, bw_div bl1 bl2, ← e1]; omega
  have hF : (V a - V b) / 18446744073709551616 / 18446744073709551616 = h1 - h2 - b2 := by
    rw [hE, bw_div1 bm1 bm2 bb, ← e2]
  intro i hi
  unfold wb subF
  by_cases c : i < 4
  · rw [if_pos c, show 19 - i = 8 + (8 + (3 - i)) by omega, Int.pow_add, Int.pow_add, ← Int.ediv_ediv_of_nonneg (by decide), ← Int.ediv_ediv_of_nonneg (by decide)]
    rw [show (256 : Int) ^ 8 = 18446744073709551616 by decide, hF]
    exact (by_hi _ _ (by omega)).symm
  · rw [if_neg c]
    by_cases d : i < 12
    · rw [if_pos d, show 19 - i = 8 + (11 - i) by omega, Int.pow_add, ← Int.ediv_ediv_of_nonneg (by decide)]
      rw [show (256 : Int) ^ 8 = 18446744073709551616 by decide, hE, by_low _ _ _ (by omega)]
    · rw [if_neg d, hD, by_low _ _ _ (by omega)]

theorem sub64_int (x y b : Int) (hx : 0 ≤ x) (hy : 0 ≤ y ∧ y < 18446744073709551616) (hb : 0 ≤ b ∧ b ≤ 1) (w : World) : (callFunc 33 #[.int .u64 x, .int .u64 y, .int .u64 b]).run Try.prog w =
    .ok (.value (.tuple #[.int .u64 ((x - y - b) % 18446744073709551616), .int .u64 (bw x (y + b))])) w := by
  obtain ⟨hb0, hb⟩ := hb
  obtain ⟨hy, hy'⟩ := hy
  obtain ⟨x, rfl⟩ := Int.eq_ofNat_of_zero_le hx
  obtain ⟨y, rfl⟩ := Int.eq_ofNat_of_zero_le hy
  obtain ⟨b, rfl⟩ := Int.eq_ofNat_of_zero_le hb0
  have e1 : (((x + 18446744073709551616 - y - b) % 18446744073709551616 : Nat) : Int) = ((x : Int) - y - b) % 18446744073709551616 := by omega
  have e2 : ((if x < y + b then 1 else 0 : Nat) : Int) = bw (x : Int) (y + b) := by unfold bw; split <;> split <;> omega
  rw [← e1, ← e2]
  exact sub64_run x y b (by omega) w

theorem sub32_any (x y b : Int) (w : World) : Calls Try.prog 34 #[.int .u32 x, .int .u32 y, .int .u32 b] w fun e w' => ∃ c, e = .returned (.tuple #[.int .u32 ((x - y - b) % 4294967296), .int .u32 c]) ∧ w' = w := by
  have hs : IntKind.u32.signed = false := rfl
  have e1 : ((x - y) % 4294967296 - b) % 4294967296 = (x - y - b) % 4294967296 := by omega
  rw [← e1]
  clear e1
  go_enter Try.func34, Try.ntmps34
  go_wp2_with fail
  go_ret2
  exact ⟨_, rfl, rfl⟩

theorem sub_any {L : (Nat → Int) → List Value} (HL : IsL L) (a b : Nat → Int) (w : World) (ha : Ok a) (hb : Ok b) :
    Calls Try.prog 29 #[.agg (L a).toArray, .agg (L b).toArray] w fun e w' => e = .returned (.agg (L (subF a b)).toArray) ∧ Below w.heap.size w w' := by
  have bm1 := word8 (r := fun i => a (4 + i)) fun i hi => ha (4 + i) (by omega)
  have bm2 := word8 (r := fun i => b (4 + i)) fun i hi => hb (4 + i) (by omega)
  have bl1 := word8 (r := fun i => a (12 + i)) fun i hi => ha (12 + i) (by omega)
  have bl2 := word8 (r := fun i => b (12 + i)) fun i hi => hb (12 + i) (by omega)
  have bh1 := word4 (r := a) fun i hi => ha i (by omega)
  have bh2 := word4 (r := b) fun i hi => hb i (by omega)
  have hs := sub_words ha hb _ _ _ _ _ _ _ _ rfl rfl rfl rfl rfl rfl rfl rfl
  have Ca := fun w => words_any HL a w ha
  have Cb := fun w => words_any HL b w hb
  generalize Vp a 4 = h1 at *
  generalize Vp b 4 = h2 at *
  generalize Vp (fun i => a (4 + i)) 8 = m1 at *
  generalize Vp (fun i => b (4 + i)) 8 = m2 at *
  generalize Vp (fun i => a (12 + i)) 8 = l1 at *
  generalize Vp (fun i => b (12 + i)) 8 = l2 at *
  have b1 := bw_bd l1 l2
  have b2 := bw_bd m1 (m2 + bw l1 l2)
  refine sub_core HL a b (subF a b) h1 m1 l1 h2 m2 l2 ((l1 - l2) % 18446744073709551616) (bw l1 l2) ((m1 - m2 - bw l1 l2) % 18446744073709551616) (bw m1 (m2 + bw l1 l2)) ((h1 - h2 - bw m1 (m2 + bw l1 l2)) % 4294967296) w Ca Cb ?_ ?_ ?_ ?_ ?_
  · intro w
    have := sub64_int l1 l2 0 bl1.1 bl2 (by omega) w
    rwa [Int.sub_zero, Int.add_zero] at this
  · exact fun w => sub64_int m1 m2 (bw l1 l2) bm1.1 bm2 b1 w
  · simp only [IntKind.wrap, IntKind.signed, IntKind.bits]; simp; omega
  · exact fun w => sub32_any h1 h2 _ w
  · intro w
    have := address_any HL ((h1 - h2 - bw m1 (m2 + bw l1 l2)) % 4294967296) ((m1 - m2 - bw l1 l2) % 18446744073709551616) ((l1 - l2) % 18446744073709551616) w (by omega) (by omega) (by omega)
    rwa [L_congr HL hs] at this
end Go.Proofs.Qxb6609493a
