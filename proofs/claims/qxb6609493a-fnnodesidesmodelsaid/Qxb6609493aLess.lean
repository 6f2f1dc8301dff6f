import Derived.Test.Qxb6609493aSub2
namespace Go.Proofs.Qxb6609493a
open Go.RowKit

theorem L_at {L : (Nat → Int) → List Value} (HL : IsL L) {w : World} {b : Nat} {r : Nat → Int} (h : Mem w b 0 (L r)) (i : Nat) (hi : i < 20) : w.cell? ⟨b, i, none⟩ = some (.int .u8 (r i)) := by
  have := (L_cell HL h i hi).1
  rwa [Nat.zero_add] at this
theorem L_fr {L : (Nat → Int) → List Value} (HL : IsL L) {w : World} {b : Nat} {r : Nat → Int} (h : Mem w b 0 (L r)) (i : Nat) (hi : i < 20) : w.frozen? ⟨b, i, none⟩ = false := by
  have := (L_cell HL h i hi).2
  rwa [Nat.zero_add] at this

set_option maxHeartbeats 1000000 in
/-- ovB1Less. -/
theorem less_any {L : (Nat → Int) → List Value} (HL : IsL L) (a b : Nat → Int) (w : World) (ha : Hid (Ok a)) (hb : Hid (Ok b)) :
    Calls Try.prog 13 #[.agg (L a).toArray, .agg (L b).toArray] w fun e w' => e = .returned (.bool (decide (V a < V b))) ∧ Below w.heap.size w w' := by
  go_enter Try.func13, Try.ntmps13
  go_wp2_with (first | ((with_reducible refine D_box 30 2 (L a) ?_ ?_); (rfl); (intro p2 w2 g2 l2 m2 B2)) | ((with_reducible refine D_box 30 3 (L b) ?_ ?_); (rfl); (intro p3 w3 g3 l3 m3 B3)))
  have m2 := m2.below B3 l2
  have l2 := Nat.lt_of_lt_of_le l2 B3.size
  have BW : Hid (Below w.heap.size w w3) := bl B2 B3
  have M2 : Hid (Mem w3 p2 0 (L a)) := m2
  have M3 : Hid (Mem w3 p3 0 (L b)) := m3
  clear B2 B3 g2 g3 m2 m3
  go_loopw [5] (fun i wr => ∃ k : Nat, k ≤ 20 ∧ i = .int .i64 k ∧ Hid (∀ j, j < k → a j = b j) ∧ Hid (Below w3.heap.size w3 wr)) (fun i _ => 20 - (intOf i).toNat)
  case atStart => exact ⟨0, by omega, rfl, fun j hj => (by omega), Below.refl _ _⟩
  case round =>
    obtain ⟨k, hk, rfl, HJ, HB⟩ := hrel
    by_cases hlt : k < 20
    · have hc0 := L_at HL (M2.out.below HB.out l2) k hlt
      have hc1 := L_at HL (M3.out.below HB.out l3) k hlt
      have HA := ha.out k hlt
      have HY : Hid (a k < b k → V a < V b) := V_lt ha.out hb.out k hlt HJ.out
      have HN : Hid (b k < a k → V b < V a) := V_lt hb.out ha.out k hlt (fun j hj => (HJ.out j hj).symm)
      obtain ⟨x, hx⟩ : ∃ x, x = a k := ⟨_, rfl⟩
      obtain ⟨y, hy⟩ : ∃ x, x = b k := ⟨_, rfl⟩
      rw [← hx] at hc0
      rw [← hy] at hc1
      have HK : Hid (x = a k ∧ y = b k) := ⟨hx, hy⟩
      clear hx hy HA
      rcases (by omega : x < y ∨ x = y ∨ y < x) with hc | hc | hc
      · have h1 : ¬ x = y := by omega
        go_wp2_with fail
        go_quiet (fail)
        go_wp2_with fail
        go_quiet (fail)
        go_wp2_with fail
        go_ret
        refine ⟨?_, bl (bl BW.out HB.out) ((below_drewN _ _ _).trans (below_drewN _ _ _))⟩
        have := HY.out (by rw [← HK.out.1, ← HK.out.2]; exact hc)
        simp [this]
      · subst hc
        go_wp2_with fail
        go_quiet (fail)
        go_wp2_with fail
        go_roundw
        case rel =>
          refine ⟨k + 1, by omega, by go_num, fun j hj => ?_, HB.out.trans (below_drewN _ _ _)⟩
          by_cases e : j = k
          · subst e; rw [← HK.out.1, ← HK.out.2]
          · exact HJ.out j (by omega)
        case measure => simp [intOf]; omega
      · have h1 : ¬ x = y := by omega
        have h2 : ¬ x < y := by omega
        go_wp2_with fail
        go_quiet (fail)
        go_wp2_with fail
        go_quiet (fail)
        go_wp2_with fail
        go_ret
        refine ⟨?_, bl (bl BW.out HB.out) ((below_drewN _ _ _).trans (below_drewN _ _ _))⟩
        have := HN.out (by rw [← HK.out.1, ← HK.out.2]; exact hc)
        have : ¬ V a < V b := by omega
        simp [this]; omega
    · have hkn : k = 20 := by omega
      subst hkn
      go_wp2_with fail
      go_ret
      refine ⟨?_, bl BW.out HB.out⟩
      have := V_eq HJ.out
      have : ¬ V a < V b := by omega
      simp [this]
end Go.Proofs.Qxb6609493a
