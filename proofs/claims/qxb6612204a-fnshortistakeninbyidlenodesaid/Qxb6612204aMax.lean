import Derived.Test.Qxb6612204aRecv
namespace Go.Proofs.Qxb6612204a
open Go.RowKit

theorem Only.drewN {b o n : Nat} {w w' : World} (h : Only b o n w w') (m : Nat) : Only b o n w (w'.drewN m) :=
  ⟨h.os, h.tape, h.output, h.size, h.block, h.cell, h.frozen⟩
theorem Regs.drewN {w : World} {b o : Nat} {r : Nat → Int} (h : Regs w b o r) (m : Nat) : Regs (w.drewN m) b o r := h

set_option maxHeartbeats 1000000 in
set_option maxRecDepth 100000 in
theorem zzMax_any {L : (Nat → Int) → List Value} (HL : IsL L) (r s : Nat → Int) (w : World) :
    Calls Try.prog 28 #[.agg (L r).toArray, .agg (L s).toArray] w fun e w' => e = .returned (.agg (L (maxF r s)).toArray) ∧ Below w.heap.size w w' := by
  obtain ⟨W3, hW3⟩ : ∃ W3, W3 = ((w.alloc (.cells (L r).toArray 22)).alloc (.cells (L s).toArray 22)).alloc (.cells (L (fun _ => 0)).toArray 22) := ⟨_, rfl⟩
  have HW : Hid (W3 = ((w.alloc (.cells (L r).toArray 22)).alloc (.cells (L s).toArray 22)).alloc (.cells (L (fun _ => 0)).toArray 22)) := hW3
  have H1 : Hid (Regs W3 w.heap.size 0 r) := by
    show Regs _ _ _ _
    rw [hW3]; exact (L_new HL w r 22 rfl).below (((Below.refl _ _).alloc (Nat.le_refl _) _).alloc (by simp) _)
  have H2 : Hid (Regs W3 (w.heap.size + 1) 0 s) := by
    show Regs _ _ _ _
    rw [hW3]; exact (L_new HL _ s 22 (by simp)).below ((Below.refl _ _).alloc (Nat.le_refl _) _)
  have H3 : Hid (Regs W3 (w.heap.size + 1 + 1) 0 (fun _ => 0)) := by
    show Regs _ _ _ _
    rw [hW3]; exact L_new HL _ _ 22 (by simp)
  have HB : Hid (Below w.heap.size w W3) := by
    show Below _ _ _
    rw [hW3]; exact (((Below.refl _ _).alloc (Nat.le_refl _) _).alloc (by simp) _).alloc (by simp; omega) _
  clear hW3
  go_enter Try.func28, Try.ntmps28
  go_wp2_with (first | ((with_reducible refine D_alloc 4 HL ?_)))
  rw [← HW.out]
  go_loopw [5] (fun i wr => ∃ k : Nat, k ≤ 1024 ∧ i = .int .i64 k ∧ Hid (Regs wr w.heap.size 0 (maxTo r s k)) ∧ Hid (Only w.heap.size 0 1024 W3 wr)) (fun i _ => 1024 - (intOf i).toNat)
  case atStart => exact ⟨0, by omega, rfl, by show Regs _ _ _ _; rw [maxTo_zero]; exact H1.out, Only.refl _ _ _ _⟩
  case round =>
    obtain ⟨k, hk, rfl, HR, HO⟩ := hrel
    by_cases hlt : k < 1024
    · obtain ⟨hc0, hf0⟩ := HR.out k hlt
      obtain ⟨hc1, _⟩ := (H2.out.only H2.out.lt HO.out (by omega)) k hlt
      rw [maxTo_at] at hc0
      rw [Nat.zero_add] at hc0 hf0 hc1
      have HY : Hid (r k < s k → maxTo r s (k + 1) = fun j => if j = k then s k else maxTo r s k j) := maxTo_yes r s k
      have HN : Hid (¬ r k < s k → maxTo r s (k + 1) = maxTo r s k) := maxTo_no r s k
      obtain ⟨rk, hrk⟩ : ∃ x, x = r k := ⟨_, rfl⟩
      obtain ⟨sk, hsk⟩ : ∃ x, x = s k := ⟨_, rfl⟩
      rw [← hrk] at hc0
      rw [← hsk] at hc1
      have HK : Hid (rk = r k ∧ sk = s k) := ⟨hrk, hsk⟩
      clear hrk hsk
      by_cases hc : rk < sk
      · go_wp2_with fail
        go_quiet (fail)
        go_wp2_with fail
        go_roundw
        case rel =>
          refine ⟨k + 1, by omega, by go_num, ?_, (HO.out.drewN _).trans (Only.setCell _ _ (by omega) (by omega))⟩
          show Regs _ _ _ _
          rw [HY.out (by rw [← HK.out.1, ← HK.out.2]; exact hc), ← HK.out.2]
          have := regs_add (HR.out.drewN nq) k sk hlt
          rw [Nat.zero_add] at this
          exact this
        case measure => simp [intOf]; omega
      · go_wp2_with fail
        go_quiet (fail)
        go_wp2_with fail
        go_roundw
        case rel =>
          refine ⟨k + 1, by omega, by go_num, ?_, HO.out.drewN _⟩
          show Regs _ _ _ _
          rw [HN.out (by rw [← HK.out.1, ← HK.out.2]; omega)]
          exact HR.out.drewN _
        case measure => simp [intOf]; omega
    · have hkn : k = 1024 := by omega
      subst hkn
      have HM : Hid (Regs wr w.heap.size 0 (maxF r s)) := HR.out.congr (maxTo_all r s)
      have HZ : Hid (Regs wr (w.heap.size + 1 + 1) 0 (fun _ => 0)) := H3.out.only H3.out.lt HO.out (by omega)
      go_wp2_with (first | ((with_reducible refine D_load 22 HL w.heap.size 0 (maxF r s) ?_ ?_ ?_); rfl; exact HM.out; refine D_store 4 22 HL (w.heap.size + 1 + 1) 0 (maxF r s) (fun _ => 0) ?_ ?_ ?_ ?_; rfl; rfl; exact HZ.out; intro w2 hr2 ho2))
      refine bodyPost_ret (L_results HL Try.results28 _ _ (w.heap.size + 1 + 1) 0 (maxF r s) rfl hr2) rfl ⟨rfl, ?_⟩
      exact (HB.out.trans (HO.out.below (Nat.le_refl _) HB.out.size)).trans (ho2.below (by omega) (Nat.le_trans HB.out.size HO.out.size))
end Go.Proofs.Qxb6612204a
