import Derived.Test.Qxb6609493aHeld
namespace Go.Proofs.Qxb6609493a

/-- Bytes. -/
def Ok (r : Nat → Int) : Prop := ∀ i, i < 20 → 0 ≤ r i ∧ r i ≤ 255

/-- The number that the first k bytes spell, the number that the last k bytes spell. -/
def Vp (r : Nat → Int) : Nat → Int
  | 0 => 0
  | k + 1 => Vp r k * 256 + r k
def Tn (r : Nat → Int) : Nat → Int
  | 0 => 0
  | k + 1 => r (19 - k) * 256 ^ k + Tn r k
def V (r : Nat → Int) : Int := Vp r 20

theorem pw (k : Nat) : (0 : Int) < 256 ^ k := Int.pow_pos (by omega)

theorem Tn_bd {r : Nat → Int} (h : Ok r) : ∀ k, k ≤ 20 → 0 ≤ Tn r k ∧ Tn r k < 256 ^ k
  | 0, _ => ⟨Int.le_refl _, by simp [Tn]⟩
  | k + 1, hk => by
    obtain ⟨h0, h1⟩ := Tn_bd h k (by omega)
    obtain ⟨g0, g1⟩ := h (19 - k) (by omega)
    have hp := pw k
    have e1 : (0 : Int) ≤ r (19 - k) * 256 ^ k := Int.mul_nonneg g0 (Int.le_of_lt hp)
    have e2 : r (19 - k) * 256 ^ k ≤ 255 * 256 ^ k := Int.mul_le_mul_of_nonneg_right g1 (Int.le_of_lt hp)
    have e3 : (256 : Int) ^ (k + 1) = 256 ^ k * 256 := Int.pow_succ ..
    simp only [Tn]
    rw [e3]
    generalize (256 : Int) ^ k = M at *
    omega

theorem V_split (r : Nat → Int) : ∀ k, k ≤ 20 → V r = Vp r (20 - k) * 256 ^ k + Tn r k
  | 0, _ => by simp [V, Tn]
  | k + 1, hk => by
    have ih := V_split r k (by omega)
    have e : 20 - k = (20 - (k + 1)) + 1 := by omega
    have e2 : 19 - k = 20 - (k + 1) := by omega
    rw [ih, e, Vp, Tn, e2, Int.pow_succ, Int.add_mul, Int.mul_assoc, Int.mul_comm 256 (256 ^ k), Int.add_assoc]

theorem V_eq {r s : Nat → Int} (h : ∀ i, i < 20 → r i = s i) : V r = V s := by
  have : ∀ k, k ≤ 20 → Vp r k = Vp s k := by
    intro k
    induction k with
    | zero => intro _; rfl
    | succ k ih => intro hk; rw [Vp, Vp, ih (by omega), h k (by omega)]
  exact this 20 (by omega)
theorem Vp_eq {r s : Nat → Int} : ∀ k, (∀ i, i < k → r i = s i) → Vp r k = Vp s k
  | 0, _ => rfl
  | k + 1, h => by rw [Vp, Vp, Vp_eq k fun i hi => h i (by omega), h k (by omega)]

/-- At the first byte at which they differ. -/
theorem V_lt {r s : Nat → Int} (hr : Ok r) (hs : Ok s) (i : Nat) (hi : i < 20) (he : ∀ j, j < i → r j = s j) (hl : r i < s i) : V r < V s := by
  have h1 := V_split r (19 - i) (by omega)
  have h2 := V_split s (19 - i) (by omega)
  have e : 20 - (19 - i) = i + 1 := by omega
  obtain ⟨a0, a1⟩ := Tn_bd hr (19 - i) (by omega)
  obtain ⟨b0, b1⟩ := Tn_bd hs (19 - i) (by omega)
  rw [e, Vp] at h1 h2
  rw [Vp_eq i he] at h1
  have hp := pw (19 - i)
  rw [h1, h2]
  have : (Vp s i * 256 + r i + 1) * 256 ^ (19 - i) ≤ (Vp s i * 256 + s i) * 256 ^ (19 - i) := Int.mul_le_mul_of_nonneg_right (by omega) (Int.le_of_lt hp)
  rw [Int.add_mul (Vp s i * 256 + r i) 1, Int.one_mul] at this
  generalize (256 : Int) ^ (19 - i) = M at *
  generalize (Vp s i * 256 + r i) * M = X at *
  generalize (Vp s i * 256 + s i) * M = Y at *
  omega
theorem V_inj {r s : Nat → Int} (hr : Ok r) (hs : Ok s) (h : V r = V s) : ∀ i, i < 20 → r i = s i := by
  intro i
  induction i using Nat.strongRecOn with
  | ind i ih =>
    intro hi
    have he : ∀ j, j < i → r j = s j := fun j hj => ih j hj (by omega)
    by_cases e : r i = s i
    · exact e
    · exfalso
      by_cases l : r i < s i
      · have := V_lt hr hs i hi he l; omega
      · have := V_lt hs hr i hi (fun j hj => (he j hj).symm) (by omega); omega

/-- The bytes of a - b, modulo 2^160. -/
def subF (a b : Nat → Int) : Nat → Int := fun i => (V a - V b) / 256 ^ (19 - i) % 256
theorem ok_sub (a b : Nat → Int) : Ok (subF a b) := fun i _ => by unfold subF; omega

theorem div_small {M x : Int} (h0 : -M < x) (h1 : x < M) : x / M = if x < 0 then -1 else 0 := by
  split
  · have hM : 0 < M := by omega
    have : x / M = (x + M * 1 - M * 1) / M := by congr 1; omega
    rw [this, Int.sub_eq_add_neg, show -(M * 1) = M * (-1) by omega, Int.add_mul_ediv_left _ _ (by omega)]
    rw [Int.ediv_eq_zero_of_lt (by omega) (by omega)]; rfl
  · exact Int.ediv_eq_zero_of_lt (by omega) h1

/-- The borrow that has come up behind the last k bytes. -/
def bor (a b : Nat → Int) (k : Nat) : Int := if Tn a k < Tn b k then 1 else 0
theorem bor_zero (a b : Nat → Int) : bor a b 0 = 0 := by simp [bor, Tn]
theorem bor_bd (a b : Nat → Int) (k : Nat) : 0 ≤ bor a b k ∧ bor a b k ≤ 1 := by unfold bor; split <;> omega

theorem sub_byte {a b : Nat → Int} (ha : Ok a) (hb : Ok b) (k : Nat) (hk : k < 20) : subF a b (19 - k) = (a (19 - k) - b (19 - k) - bor a b k) % 256 := by
  have h1 := V_split a k (by omega)
  have h2 := V_split b k (by omega)
  obtain ⟨a0, a1⟩ := Tn_bd ha k (by omega)
  obtain ⟨b0, b1⟩ := Tn_bd hb k (by omega)
  have hp := pw k
  have e : 20 - k = (19 - k) + 1 := by omega
  have e2 : 19 - (19 - k) = k := by omega
  have hd : (V a - V b) / 256 ^ k = (Vp a (20 - k) - Vp b (20 - k)) + (Tn a k - Tn b k) / 256 ^ k := by
    rw [h1, h2]
    have : Vp a (20 - k) * 256 ^ k + Tn a k - (Vp b (20 - k) * 256 ^ k + Tn b k) = (Tn a k - Tn b k) + 256 ^ k * (Vp a (20 - k) - Vp b (20 - k)) := by
      rw [Int.mul_sub, Int.mul_comm (256 ^ k) (Vp a _), Int.mul_comm (256 ^ k) (Vp b _)]; omega
    rw [this, Int.add_mul_ediv_left _ _ (by omega)]; omega
  unfold subF
  rw [e2, hd, div_small (by omega) (by omega), e, Vp, Vp]
  unfold bor
  by_cases hl : Tn a k < Tn b k
  · rw [if_pos (by omega), if_pos hl]; omega
  · rw [if_neg (by omega), if_neg hl]; omega

theorem bor_succ {a b : Nat → Int} (ha : Ok a) (hb : Ok b) (k : Nat) (hk : k < 20) : bor a b (k + 1) = if a (19 - k) - b (19 - k) - bor a b k < 0 then 1 else 0 := by
  obtain ⟨a0, a1⟩ := Tn_bd ha k (by omega)
  obtain ⟨b0, b1⟩ := Tn_bd hb k (by omega)
  have hp := pw k
  have hx : a (19 - k) * 256 ^ k - b (19 - k) * 256 ^ k = (a (19 - k) - b (19 - k)) * 256 ^ k := (Int.sub_mul ..).symm
  unfold bor
  rw [Tn, Tn]
  generalize hc : a (19 - k) - b (19 - k) = c at *
  have hm1 : 1 ≤ c → (256 : Int) ^ k ≤ c * 256 ^ k := fun h => by
    have := Int.mul_le_mul_of_nonneg_right h (Int.le_of_lt hp); rwa [Int.one_mul] at this
  have hm2 : c ≤ -1 → c * 256 ^ k ≤ -(256 ^ k) := fun h => by
    have := Int.mul_le_mul_of_nonneg_right h (Int.le_of_lt hp); rwa [Int.neg_mul, Int.one_mul] at this
  have hm0 : c = 0 → c * 256 ^ k = 0 := fun h => by rw [h, Int.zero_mul]
  generalize (256 : Int) ^ k = M at *
  generalize c * M = X at *
  generalize a (19 - k) * M = A at *
  generalize b (19 - k) * M = B at *
  have : c ≤ -1 ∨ c = 0 ∨ 1 ≤ c := by omega
  by_cases hl : Tn a k < Tn b k
  · simp only [if_pos hl]
    rcases this with h | h | h
    · have := hm2 h; rw [if_pos (by omega), if_pos (by omega)]
    · have := hm0 h; rw [if_pos (by omega), if_pos (by omega)]
    · have := hm1 h; rw [if_neg (by omega), if_neg (by omega)]
  · simp only [if_neg hl]
    rcases this with h | h | h
    · have := hm2 h; rw [if_pos (by omega), if_pos (by omega)]
    · have := hm0 h; rw [if_neg (by omega), if_neg (by omega)]
    · have := hm1 h; rw [if_neg (by omega), if_neg (by omega)]
end Go.Proofs.Qxb6609493a
