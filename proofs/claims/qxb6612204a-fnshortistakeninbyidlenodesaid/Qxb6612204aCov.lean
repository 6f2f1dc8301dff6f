import Derived.Test.Qxb6612204aTombIs
import Derived.Test.Qxb6612204aRk
namespace Go.Proofs.Qxb6612204a
open Go.RowKit

/-- Whether r is nowhere below s. -/
def covF (r s : Nat → Int) : Bool := (List.range 1024).all fun i => decide (¬ r i < s i)
theorem covF_no {r s : Nat → Int} {k : Nat} (hk : k < 1024) (h : r k < s k) : covF r s = false := by
  rw [Bool.eq_false_iff]
  intro hc
  have := List.all_eq_true.1 hc k (by simpa using hk)
  simp at this
  omega
theorem covF_yes {r s : Nat → Int} (h : ∀ k, k < 1024 → s k ≤ r k) : covF r s = true :=
  List.all_eq_true.2 fun k hk => by have := h k (by simpa using hk); simp; omega

set_option maxHeartbeats 1000000 in
set_option maxRecDepth 100000 in
/-- zzCovers. -/
theorem zzCovers_any (b o b' o' : Nat) (r s : Nat → Int) (w : World) (hr : Hid (Regs w b o r)) (hs : Hid (Regs w b' o' s)) :
    Calls Try.prog 12 #[.pointer (some ⟨b, o, none⟩), .pointer (some ⟨b', o', none⟩)] w fun e w' => e = .returned (.bool (covF r s)) ∧ Below w.heap.size w w' := by
  go_enter Try.func12, Try.ntmps12
  go_wp2_with fail
  go_loopw [5] (fun i wr => ∃ k : Nat, k ≤ 1024 ∧ i = .int .i64 k ∧ Hid (∀ j, j < k → s j ≤ r j) ∧ Hid (Below w.heap.size w wr)) (fun i _ => 1024 - (intOf i).toNat)
  case atStart => exact ⟨0, by omega, rfl, fun j hj => (by omega), Below.refl _ _⟩
  case round =>
    obtain ⟨k, hk, rfl, HJ, HB⟩ := hrel
    by_cases hlt : k < 1024
    · obtain ⟨hc0, _⟩ := (hr.out.below HB.out) k hlt
      obtain ⟨hc1, _⟩ := (hs.out.below HB.out) k hlt
      have HY : Hid (r k < s k → covF r s = false) := covF_no hlt
      obtain ⟨rk, hrk⟩ : ∃ x, x = r k := ⟨_, rfl⟩
      obtain ⟨sk, hsk⟩ : ∃ x, x = s k := ⟨_, rfl⟩
      rw [← hrk] at hc0
      rw [← hsk] at hc1
      have HK : Hid (rk = r k ∧ sk = s k) := ⟨hrk, hsk⟩
      clear hrk hsk
      by_cases hc : rk < sk
      · go_wp2_with fail
        go_quiet (fail)
        go_wp2_with fail
        go_ret
        refine ⟨?_, HB.out.trans (below_drewN _ _ _)⟩
        rw [HY.out (by rw [← HK.out.1, ← HK.out.2]; exact hc)]
        rfl
      · go_wp2_with fail
        go_quiet (fail)
        go_wp2_with fail
        go_roundw
        case rel =>
          refine ⟨k + 1, by omega, by go_num, fun j hj => ?_, HB.out.trans (below_drewN _ _ _)⟩
          by_cases e : j = k
          · subst e; rw [← HK.out.1, ← HK.out.2]; omega
          · exact HJ.out j (by omega)
        case measure => simp [intOf]; omega
    · have hkn : k = 1024 := by omega
      subst hkn
      go_wp2_with fail
      go_ret
      refine ⟨?_, HB.out⟩
      rw [covF_yes HJ.out]
      rfl

set_option maxHeartbeats 1000000 in
set_option maxRecDepth 100000 in
/-- Sketch.Covers. -/
theorem covers_any {L : (Nat → Int) → List Value} (HL : IsL L) (b o b' o' : Nat) (r s : Nat → Int) (w : World) (hr : Hid (Regs w b o r)) (hs : Hid (Regs w b' o' s)) :
    Calls Try.prog 47 #[.pointer (some ⟨b, o, none⟩), .pointer (some ⟨b', o', none⟩)] w fun e w' => e = .returned (.bool (covF r s)) ∧ w' = w := by
  go_enter Try.func47, Try.ntmps47
  go_wp2_with (first | ((with_reducible refine D_load 10 HL b' o' s ?_ ?_ ?_); rfl; exact hs.out))
  go_loopw [11] (fun i wr => ∃ k : Nat, k ≤ 1024 ∧ i = .int .i64 k ∧ Hid (∀ j, j < k → s j ≤ r j) ∧ wr = w) (fun i _ => 1024 - (intOf i).toNat)
  case atStart => exact ⟨0, by omega, rfl, fun j hj => (by omega), rfl⟩
  case round =>
    obtain ⟨k, hk, rfl, HJ, rfl⟩ := hrel
    by_cases hlt : k < 1024
    · have hix := L_index HL s k hlt
      obtain ⟨hc0, _⟩ := hr.out k hlt
      have HY : Hid (r k < s k → covF r s = false) := covF_no hlt
      obtain ⟨rk, hrk⟩ : ∃ x, x = r k := ⟨_, rfl⟩
      obtain ⟨sk, hsk⟩ : ∃ x, x = s k := ⟨_, rfl⟩
      rw [← hrk] at hc0
      rw [← hsk] at hix
      have HK : Hid (rk = r k ∧ sk = s k) := ⟨hrk, hsk⟩
      clear hrk hsk
      by_cases hc : rk < sk
      · go_wp2_with fail
        go_ret
        refine ⟨?_, rfl⟩
        rw [HY.out (by rw [← HK.out.1, ← HK.out.2]; exact hc)]
        rfl
      · go_wp2_with fail
        go_roundw
        case rel =>
          refine ⟨k + 1, by omega, by go_num, fun j hj => ?_, trivial⟩
          by_cases e : j = k
          · subst e; rw [← HK.out.1, ← HK.out.2]; omega
          · exact HJ.out j (by omega)
        case measure => simp [intOf]; omega
    · have hkn : k = 1024 := by omega
      subst hkn
      go_wp2_with fail
      go_ret
      refine ⟨?_, rfl⟩
      rw [covF_yes HJ.out]
      rfl
end Go.Proofs.Qxb6612204a
