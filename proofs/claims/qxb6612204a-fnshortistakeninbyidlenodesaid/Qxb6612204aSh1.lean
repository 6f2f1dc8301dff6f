import Derived.Test.Qxb6612204aCov
namespace Go.Proofs.Qxb6612204a
open Go.RowKit

set_option maxHeartbeats 1000000 in
/-- ZZnewTombstone. -/
theorem newTomb_any {L : (Nat → Int) → List Value} (HL : IsL L) (t : Tb) (w : World) :
    Calls Try.prog 9 #[.agg (L t.tg).toArray, .agg (L t.rc).toArray, .agg #[.int .u64 t.f0, .int .u64 t.f1], .int .i64 t.n, .int .u64 t.e] w
      fun x w' => ∃ B, x = .returned (.pointer (some ⟨B, 0, none⟩)) ∧ w.heap.size ≤ B ∧ TombAt w' B 0 t ∧ Below w.heap.size w w' := by
  have HB2 : Hid (∀ o2 o3, Regs (((w.alloc (.cells (L t.tg).toArray 22)).alloc o2).alloc o3) w.heap.size 0 t.tg) := fun o2 o3 => (L_new HL w t.tg 22 rfl).below (((Below.refl _ _).alloc (Nat.le_refl _) _).alloc (by simp) _)
  have HB3 : Hid (∀ o1 o3, Regs (((w.alloc o1).alloc (.cells (L t.rc).toArray 22)).alloc o3) (w.heap.size + 1) 0 t.rc) := fun o1 o3 => (L_new HL (w.alloc o1) t.rc 22 (by simp)).below ((Below.refl _ _).alloc (Nat.le_refl _) _)
  go_enter Try.func9, Try.ntmps9
  go_wp2_with (first | ((with_reducible refine D_load 11 HL w.heap.size 0 t.tg ?_ ?_ ?_); rfl; exact HB2.out _ _; refine D_build1 12 (.agg (L t.tg).toArray) ?_ (.agg (L t.tg).toArray) (L_build57 HL t.tg _) ?_; rfl; refine D_load 13 HL (w.heap.size + 1) 0 t.rc ?_ ?_ ?_; rfl; exact HB3.out _ _; refine D_build1 14 (.agg (L t.rc).toArray) ?_ (.agg (L t.rc).toArray) (L_build57 HL t.rc _) ?_; rfl) | ((with_reducible refine D_build4 19 (.agg (L t.tg).toArray) (.agg (L t.rc).toArray) (.agg #[.int .u64 t.f0, .int .u64 t.f1, .int .i64 t.n]) (.int .u64 t.e) ?_ ?_ ?_ ?_ (.agg (tombL L t)) ?_ ?_); rfl; rfl; rfl; rfl; exact L_build61 HL t _))
  go_ret
  refine ⟨w.heap.size + 1 + 1 + 1, rfl, by omega, TombAt.of_block HL (A := #[]) (ty := 61) ?_ rfl, ((((Below.refl _ _).alloc (Nat.le_refl _) _).alloc (by simp) _).alloc (by simp; omega) _).alloc (by simp; omega) _⟩
  rw [Array.empty_append]
  exact new_blk _ _ (by simp)

set_option maxHeartbeats 1000000 in
set_option maxRecDepth 100000 in
/-- Tombstone.Reached. -/
theorem reached_any {L : (Nat → Int) → List Value} (HL : IsL L) (b o : Nat) (r s : Nat → Int) (w : World) (hs : Hid (Regs w b o s)) (hr : Hid (Regs w b (o + 1024) r)) :
    Calls Try.prog 36 #[.pointer (some ⟨b, o, none⟩)] w fun e w' => e = .returned (.bool (covF r s)) ∧ Below w.heap.size w w' := by
  go_enter Try.func36, Try.ntmps36
  go_wp2_with fail
  refine wp_region_held_drew (S := fun w' => Below w.heap.size w w') (by kernel_rfl) ((Below.refl _ _).drew) (fun hHeld => ?_)
  refine H_move 0 3 (.pointer (some ⟨b, o, none⟩)) rfl (by kernel_rfl) (by kernel_rfl) (by kernel_rfl) (fun _ _ _ h => h) rfl rfl hHeld ?_
  try simp only [Act.put, List.setIfInBounds_toArray, List.set_cons_zero, List.set_cons_succ]
  refine H_take 1 4 (.pointer (some ⟨b, o, none⟩)) rfl rfl (by kernel_rfl) (by kernel_rfl) (by kernel_rfl) (fun _ _ _ h => h) rfl ?_ hHeld ?_
  · intro w' _; go_simp
  try simp only [Act.put, List.setIfInBounds_toArray, List.set_cons_zero, List.set_cons_succ]
  refine H_take 2 5 (.pointer (some ⟨b, o + 1024, none⟩)) rfl rfl (by kernel_rfl) (by kernel_rfl) (by kernel_rfl) (fun _ _ _ h => h) rfl ?_ hHeld ?_
  · intro w' _; go_simp
  try simp only [Act.put, List.setIfInBounds_toArray, List.set_cons_zero, List.set_cons_succ]
  refine H_move 3 6 (.pointer (some ⟨b, o, none⟩)) rfl (by kernel_rfl) (by kernel_rfl) (by kernel_rfl) (fun _ _ _ h => h) rfl rfl hHeld ?_
  try simp only [Act.put, List.setIfInBounds_toArray, List.set_cons_zero, List.set_cons_succ]
  refine H_take 4 7 (.pointer (some ⟨b, o, none⟩)) rfl rfl (by kernel_rfl) (by kernel_rfl) (by kernel_rfl) (fun _ _ _ h => h) rfl ?_ hHeld ?_
  · intro w' _; go_simp
  try simp only [Act.put, List.setIfInBounds_toArray, List.set_cons_zero, List.set_cons_succ]
  refine H_take 5 8 (.pointer (some ⟨b, o, none⟩)) rfl rfl (by kernel_rfl) (by kernel_rfl) (by kernel_rfl) (fun _ _ _ h => h) rfl ?_ hHeld ?_
  · intro w' _; go_simp
  try simp only [Act.put, List.setIfInBounds_toArray, List.set_cons_zero, List.set_cons_succ]
  refine wpAnyH_ready (rs := [6]) (by kernel_rfl) (by simp) ?_
  refine AllReadyH.cons rfl (fun K hK => ?_) AllReadyH.nil
  go_simp
  refine (covers_any HL b (o + 1024) b o r s _ (hr.out.below hHeld) (hs.out.below hHeld)).mono ?_
  rintro x w' ⟨rfl, hw⟩
  rw [hw]
  clear hw w'
  refine hK.out _ _ (hHeld) (fun hHeld => ?_)
  clear hK K
  try simp only [Act.put, List.setIfInBounds_toArray, List.set_cons_zero, List.set_cons_succ]
  refine H_assign 7 2 (.bool (covF r s)) rfl (by kernel_rfl) (by kernel_rfl) (by kernel_rfl) (fun _ _ _ h => h) rfl rfl hHeld ?_
  try simp only [Act.put, List.setIfInBounds_toArray, List.set_cons_zero, List.set_cons_succ]
  refine wpAnyH_done (by kernel_rfl) ?_ _
  have HB : Hid (Below w.heap.size w w.drew) := hHeld
  go_wp2_with fail
  go_ret
  exact ⟨rfl, HB.out⟩

/-- Short, as a plain function. -/
def shortF (t : Tb) : Bool := decide (0 < t.e) && (decide (t.n < 2) && covF t.rc t.tg)

set_option maxHeartbeats 1000000 in
set_option maxRecDepth 100000 in
/-- Tombstone.Short. -/
theorem short_any {L : (Nat → Int) → List Value} (HL : IsL L) (b o : Nat) (t : Tb) (w : World) (ht : Hid (TombAt w b o t)) :
    Calls Try.prog 13 #[.pointer (some ⟨b, o, none⟩)] w fun e w' => e = .returned (.bool (shortF t)) ∧ Below w.heap.size w w' := by
  obtain ⟨tg, rc, f0, f1, n, e⟩ := t
  have he : w.cell? ⟨b, o + 2051, none⟩ = some (.int .u64 e) := ht.out.e
  have hn : w.cell? ⟨b, o + 2050, none⟩ = some (.int .i64 n) := ht.out.n
  have HR := reached_any HL b o rc tg w ht.out.tg ht.out.rc
  unfold shortF
  dsimp only
  generalize covF rc tg = c at HR
  go_enter Try.func13, Try.ntmps13
  by_cases h0 : 0 < e
  · by_cases h1 : n < 2
    · go_wp2_with fail
      refine HR.mono ?_
      rintro x w1 ⟨rfl, hb⟩
      have HB : Hid (Below w.heap.size w w1) := hb
      clear hb
      go_wp2_with fail
      go_ret
      refine ⟨?_, HB.out⟩
      simp [h0, h1]
    · have h1' : 2 ≤ n := by omega
      go_wp2_with fail
      go_ret
      refine ⟨?_, Below.refl _ _⟩
      simp
      intros
      omega
  · have h0' : e ≤ 0 := by omega
    go_wp2_with fail
    go_ret
    refine ⟨?_, Below.refl _ _⟩
    simp
    intros
    omega
end Go.Proofs.Qxb6612204a
