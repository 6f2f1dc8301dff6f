import Derived.Test.Qxb6612204aState3
import Derived.Deep.QuietTactic
import Derived.BigQuiet
namespace Go.Proofs.Qxb6612204a
open Go.RowKit

/-- Register by register the greater. -/
def maxF (r s : Nat → Int) : Nat → Int := fun j => if r j < s j then s j else r j
/-- The first k registers have been gone over. -/
def maxTo (r s : Nat → Int) (k : Nat) : Nat → Int := fun j => if j < k ∧ r j < s j then s j else r j
theorem maxTo_zero (r s : Nat → Int) : maxTo r s 0 = r := by funext j; simp [maxTo]
theorem maxTo_all (r s : Nat → Int) (j : Nat) (hj : j < 1024) : maxTo r s 1024 j = maxF r s j := by simp [maxTo, maxF, hj]
theorem maxTo_at (r s : Nat → Int) (k : Nat) : maxTo r s k k = r k := by simp [maxTo]
theorem maxTo_yes (r s : Nat → Int) (k : Nat) (h : r k < s k) : maxTo r s (k + 1) = fun j => if j = k then s k else maxTo r s k j := by
  funext j
  unfold maxTo
  by_cases e : j = k
  · subst e; simp [h]
  · have : (j < k + 1 ∧ r j < s j) ↔ (j < k ∧ r j < s j) := by constructor <;> rintro ⟨a, b⟩ <;> exact ⟨by omega, b⟩
    simp [e, this]
theorem maxTo_no (r s : Nat → Int) (k : Nat) (h : ¬ r k < s k) : maxTo r s (k + 1) = maxTo r s k := by
  funext j
  unfold maxTo
  by_cases e : j = k
  · subst e; simp [h]
  · have : (j < k + 1 ∧ r j < s j) ↔ (j < k ∧ r j < s j) := by constructor <;> rintro ⟨a, b⟩ <;> exact ⟨by omega, b⟩
    simp [this]
theorem Regs.congr {w : World} {b o : Nat} {r s : Nat → Int} (h : Regs w b o r) (e : ∀ i, i < 1024 → r i = s i) : Regs w b o s := fun i hi => by rw [← e i hi]; exact h i hi

set_option maxRecDepth 100000 in
theorem merge_any {L : (Nat → Int) → List Value} (HL : IsL L) (b o b' o' : Nat) (r s : Nat → Int) (w : World) (hr : Hid (Regs w b o r)) (hs : Hid (Regs w b' o' s)) :
    Calls Try.prog 37 #[.pointer (some ⟨b, o, none⟩), .pointer (some ⟨b', o', none⟩)] w fun e w' => e = .returned (.tuple #[]) ∧ Regs w' b o (maxF r s) ∧ Only b o 1024 w w' := by
  go_enter Try.func37, Try.ntmps37
  go_wp2_with (first | ((with_reducible refine D_load 9 HL b' o' s ?_ ?_ ?_); rfl; exact hs.out))
  go_loopw [10] (fun i wr => ∃ k : Nat, k ≤ 1024 ∧ i = .int .i64 k ∧ Hid (Regs wr b o (maxTo r s k)) ∧ Hid (Only b o 1024 w wr)) (fun i _ => 1024 - (intOf i).toNat)
  case atStart => exact ⟨0, by omega, rfl, by show Regs _ _ _ _; rw [maxTo_zero]; exact hr.out, Only.refl _ _ _ _⟩
  case round =>
    obtain ⟨k, hk, rfl, HR, HO⟩ := hrel
    by_cases hlt : k < 1024
    · have hix := L_index HL s k hlt
      obtain ⟨hc0, hf0⟩ := HR.out k hlt
      rw [maxTo_at] at hc0
      have HY : Hid (r k < s k → maxTo r s (k + 1) = fun j => if j = k then s k else maxTo r s k j) := maxTo_yes r s k
      have HN : Hid (¬ r k < s k → maxTo r s (k + 1) = maxTo r s k) := maxTo_no r s k
      obtain ⟨rk, hrk⟩ : ∃ x, x = r k := ⟨_, rfl⟩
      obtain ⟨sk, hsk⟩ : ∃ x, x = s k := ⟨_, rfl⟩
      rw [← hrk] at hc0
      rw [← hsk] at hix
      have HK : Hid (rk = r k ∧ sk = s k) := ⟨hrk, hsk⟩
      clear hrk hsk
      by_cases hc : rk < sk
      · go_wp2
        go_roundw
        case rel =>
          refine ⟨k + 1, by omega, by go_num, ?_, HO.out.trans (Only.setCell _ _ (by omega) (by omega))⟩
          show Regs _ _ _ _
          rw [HY.out (by rw [← HK.out.1, ← HK.out.2]; exact hc), ← HK.out.2]
          exact regs_add HR.out k sk hlt
        case measure => simp [intOf]; omega
      · go_wp2
        go_roundw
        case rel =>
          refine ⟨k + 1, by omega, by go_num, ?_, HO.out⟩
          show Regs _ _ _ _
          rw [HN.out (by rw [← HK.out.1, ← HK.out.2]; omega)]
          exact HR.out
        case measure => simp [intOf]; omega
    · have hkn : k = 1024 := by omega
      subst hkn
      go_wp2
      go_end0
      exact ⟨rfl, HR.out.congr (maxTo_all r s), HO.out⟩
end Go.Proofs.Qxb6612204a
