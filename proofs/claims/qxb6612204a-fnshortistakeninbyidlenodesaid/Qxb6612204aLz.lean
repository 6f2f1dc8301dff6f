import Derived.Test.Qxb6612204aHash
namespace Go.Proofs.Qxb6612204a
open Go.RowKit

/-- The test of bit m, where no higher bit is set. -/
theorem bit_test (n m : Nat) (hm : m < 64) (h : n < 2 ^ (m + 1)) : (bits BinOp.and IntKind.u64 ((n : Int) / 2 ^ m) 1 != 0) = decide (2 ^ m ≤ n) := by
  have h2 : (2 : Nat) ^ (m + 1) = 2 ^ m + 2 ^ m := by rw [Nat.pow_succ]; omega
  have hp : (0 : Nat) < 2 ^ m := Nat.pow_pos (by omega)
  have e : ((n : Int) / 2 ^ m) = ((n / 2 ^ m : Nat) : Int) := by simp
  have hle : n ≤ 18446744073709551615 := by
    have : (2 : Nat) ^ (m + 1) ≤ 2 ^ 64 := Nat.pow_le_pow_right (by omega) (by omega)
    omega
  have hd : n / 2 ^ m ≤ n := Nat.div_le_self _ _
  rw [e, and_one_u64 _ (Int.natCast_nonneg _) (Int.ofNat_le.2 (Nat.le_trans hd hle))]
  by_cases hc : 2 ^ m ≤ n
  · have e1 : n / 2 ^ m = 1 := by
      apply Nat.div_eq_of_lt_le <;> omega
    rw [e1]; simp [hc]
  · have e1 : n / 2 ^ m = 0 := Nat.div_eq_of_lt (by omega)
    rw [e1]; simp [hc]

theorem bitLen_of (n m : Nat) (hm : m < 64) (h0 : 2 ^ m ≤ n) (h : n < 2 ^ (m + 1)) : Lib.bitLen n = m + 1 := by
  have h2 : (2 : Nat) ^ (m + 1) = 2 ^ m + 2 ^ m := by rw [Nat.pow_succ]; omega
  have h64 : n < 2 ^ 64 := Nat.lt_of_lt_of_le h (Nat.pow_le_pow_right (by omega) (by omega))
  rw [Lib.bitLen_shift m n h0 h64]
  have e1 : n / 2 ^ m = 1 := by
    apply Nat.div_eq_of_lt_le <;> omega
  rw [e1]
  rfl

theorem lz_nat (n : Nat) (w : World) (hx1 : n ≤ 18446744073709551615) :
    Calls Try.prog 45 #[.int .u64 n] w fun e w' => e = .returned (.int .i64 (64 - (Lib.bitLen n : Int))) ∧ w' = w := by
  go_enter Try.func45, Try.ntmps45
  go_wp2
  go_loop [3, 4] (fun c i => ∃ k : Nat, k ≤ 64 ∧ i = .int .i64 ((k : Int) - 1) ∧ c = .int .i64 (64 - (k : Int)) ∧ Hid (n < 2 ^ k)) (fun _ i => (intOf i + 1).toNat)
  case atStart => exact ⟨64, Nat.le_refl _, rfl, rfl, show n < 2 ^ 64 by omega⟩
  case round =>
    obtain ⟨k, hk, rfl, rfl, H⟩ := hrel
    cases k with
    | zero =>
      have hn : n = 0 := by have := H.out; omega
      subst hn
      rw [show (((0 : Nat) : Int) - 1) = (-1 : Int) by omega]
      go_wp2
      go_ret
      exact ⟨rfl, rfl⟩
    | succ m =>
      rw [show (((m + 1 : Nat) : Int) - 1) = (m : Int) by omega]
      have ht := bit_test n m (by omega) H.out
      by_cases hc : 2 ^ m ≤ n
      · have hb := bitLen_of n m (by omega) hc H.out
        have HB : Hid (Lib.bitLen n = m + 1) := hb
        rw [decide_eq_true hc] at ht
        clear hb hc
        go_wp2
        go_ret
        exact ⟨by rw [HB.out]; simp, rfl⟩
      · rw [decide_eq_false hc] at ht
        have HC : Hid (n < 2 ^ m) := Nat.lt_of_not_le hc
        clear hc
        go_wp2
        go_round
        case rel => exact ⟨m, by omega, by go_num, by go_num, HC⟩
        case measure => simp [intOf]
theorem lz_any (x : Int) (w : World) (hx : Is64 x) :
    Calls Try.prog 45 #[.int .u64 x] w fun e w' => e = .returned (.int .i64 (64 - (Lib.bitLen x.toNat : Int))) ∧ w' = w := by
  obtain ⟨h0, h1⟩ := hx
  obtain ⟨n, rfl⟩ := Int.eq_ofNat_of_zero_le h0
  rw [Int.toNat_natCast]
  exact lz_nat n w (by omega)
end Go.Proofs.Qxb6612204a
