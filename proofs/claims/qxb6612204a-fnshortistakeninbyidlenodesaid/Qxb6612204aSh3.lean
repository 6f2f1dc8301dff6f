import Derived.Test.Qxb6612204aSh2
namespace Go.Proofs.Qxb6612204a
open Go.RowKit

theorem RkAt.only {w w' : World} {b o b2 o2 n2 : Nat} {x y n : Int} (h : RkAt w b o x y n) (k : Only b2 o2 n2 w w') (hd : b ≠ b2 ∨ o + 3 ≤ o2 ∨ o2 + n2 ≤ o) : RkAt w' b o x y n := by
  have hlt : b < w.heap.size := World.block_lt_of_cell? w _ h.x
  refine ⟨cell_only h.x k (by omega), cell_only h.y k (by omega), cell_only h.n k (by omega), fun j => ?_⟩
  by_cases e : b = b2
  · subst e; rw [k.frozen]; exact h.fr j
  · rw [k.frozen_far j hlt e]; exact h.fr j

set_option maxHeartbeats 4000000 in
set_option maxRecDepth 100000 in
/-- mergeRanks into a tombstone of the first epoch without ranks. -/
theorem mergeRanks_any (b o b' o' : Nat) (x y n X Y N e : Int) (w : World) (hne : b ≠ b') (he : 0 < e) (h : Hid (RkAt w b (o + 2048) 0 0 0)) (h3 : Hid (w.cell? ⟨b, o + 2051, none⟩ = some (.int .u64 0)))
    (h' : Hid (RkAt w b' (o' + 2048) x y n)) (h3' : Hid (w.cell? ⟨b', o' + 2051, none⟩ = some (.int .u64 e)))
    (HM : Hid (∀ w1, RkAt w1 b (o + 2048) 0 0 0 → RkAt w1 b' (o' + 2048) x y n → Calls Try.prog 50 #[.pointer (some ⟨b, o + 2048, none⟩), .pointer (some ⟨b', o' + 2048, none⟩)] w1 fun r w' => r = .returned (.tuple #[]) ∧ RkAt w' b (o + 2048) X Y N ∧ Only b (o + 2048) 3 w1 w')) :
    Calls Try.prog 39 #[.pointer (some ⟨b, o, none⟩), .pointer (some ⟨b', o', none⟩)] w fun r w' => r = .returned (.tuple #[]) ∧ RkAt w' b (o + 2048) X Y N ∧ w'.cell? ⟨b, o + 2051, none⟩ = some (.int .u64 e) ∧ Only b (o + 2048) 4 w w' := by
  obtain ⟨c0, c1, c2, cf⟩ := h.out
  have c3 := h3.out
  have d3 := h3'.out
  go_enter Try.func39, Try.ntmps39
  go_wp2_with fail
  go_quiet (fail)
  go_wp2_with fail
  obtain ⟨V, hV⟩ : ∃ V, V = (((((w.drewN nq).setCell ⟨b, o + 2051, none⟩ (.int .u64 e)).setCell ⟨b, o + 2048, none⟩ (.int .u64 0)).setCell ⟨b, o + 2048 + 1, none⟩ (.int .u64 0)).setCell ⟨b, o + 2048 + 2, none⟩ (.int .i64 0)) := ⟨_, rfl⟩
  rw [← hV]
  have k0 : RkAt (w.drewN nq) b (o + 2048) 0 0 0 := h.out.below (below_drewN _ _ _)
  have k1 : Only b (o + 2048) 4 w ((w.drewN nq).setCell ⟨b, o + 2051, none⟩ (.int .u64 e)) := (Only.of_below (b := b) _ _ (below_drewN _ _ _) (World.block_lt_of_cell? w _ c0)).trans (Only.setCell _ _ (by omega) (by omega))
  have k2 : RkAt ((w.drewN nq).setCell ⟨b, o + 2051, none⟩ (.int .u64 e)) b (o + 2048) 0 0 0 := k0.only (Only.setCell (n := 1) _ _ (Nat.le_refl _) (by omega)) (by omega)
  have k3 : ((w.drewN nq).setCell ⟨b, o + 2051, none⟩ (.int .u64 e)).cell? ⟨b, o + 2051, none⟩ = some (.int .u64 e) := World.cell?_setCell_same _ _ _ (show (w.drewN nq).cell? _ = some _ from c3)
  have KV : Hid (RkAt V b (o + 2048) 0 0 0) := by
    show RkAt _ _ _ _ _ _
    rw [hV]; exact ((k2.set_x 0).set_y 0).set_n 0
  have KO : Hid (Only b (o + 2048) 4 w V) := by
    show Only _ _ _ _ _
    rw [hV]; exact ((k1.trans (Only.setCell _ _ (by omega) (by omega))).trans (Only.setCell _ _ (by omega) (by omega))).trans (Only.setCell _ _ (by omega) (by omega))
  have v3 : V.cell? ⟨b, o + 2051, none⟩ = some (.int .u64 e) := by
    rw [hV, World.cell?_setCell_other _ _ _ _ (by intro q; injection q; omega), World.cell?_setCell_other _ _ _ _ (by intro q; injection q; omega), World.cell?_setCell_other _ _ _ _ (by intro q; injection q; omega)]
    exact k3
  have KV' : Hid (RkAt V b' (o' + 2048) x y n) := h'.out.only KO.out (.inl (Ne.symm hne))
  have v3' : V.cell? ⟨b', o' + 2051, none⟩ = some (.int .u64 e) := cell_only d3 KO.out (.inl (Ne.symm hne))
  clear hV k0 k1 k2 k3 c0 c1 c2 c3 cf d3
  go_quiet (fail)
  have HG : Hid (Below V.heap.size V (V.drewN nq).drew) := (below_drewN _ _ _).trans ((Below.refl _ _).drew)
  go_wp2_with fail
  refine wp_region_held_drew (S := fun _ => True) (by kernel_rfl) (trivial) (fun hHeld => ?_)
  refine H_move 0 33 (.pointer (some ⟨b, o, none⟩)) rfl (by kernel_rfl) (by kernel_rfl) (by kernel_rfl) (fun _ _ _ h => h) rfl rfl hHeld ?_
  try simp only [Act.put, List.setIfInBounds_toArray, List.set_cons_zero, List.set_cons_succ]
  refine H_take 1 34 (.pointer (some ⟨b, o, none⟩)) rfl rfl (by kernel_rfl) (by kernel_rfl) (by kernel_rfl) (fun _ _ _ h => h) rfl ?_ hHeld ?_
  · intro w' _; go_simp
  try simp only [Act.put, List.setIfInBounds_toArray, List.set_cons_zero, List.set_cons_succ]
  refine H_take 2 35 (.pointer (some ⟨b, o + 2048, none⟩)) rfl rfl (by kernel_rfl) (by kernel_rfl) (by kernel_rfl) (fun _ _ _ h => h) rfl ?_ hHeld ?_
  · intro w' _; go_simp
  try simp only [Act.put, List.setIfInBounds_toArray, List.set_cons_zero, List.set_cons_succ]
  refine H_move 3 36 (.pointer (some ⟨b', o', none⟩)) rfl (by kernel_rfl) (by kernel_rfl) (by kernel_rfl) (fun _ _ _ h => h) rfl rfl hHeld ?_
  try simp only [Act.put, List.setIfInBounds_toArray, List.set_cons_zero, List.set_cons_succ]
  refine H_take 4 37 (.pointer (some ⟨b', o', none⟩)) rfl rfl (by kernel_rfl) (by kernel_rfl) (by kernel_rfl) (fun _ _ _ h => h) rfl ?_ hHeld ?_
  · intro w' _; go_simp
  try simp only [Act.put, List.setIfInBounds_toArray, List.set_cons_zero, List.set_cons_succ]
  refine H_take 5 38 (.pointer (some ⟨b', o' + 2048, none⟩)) rfl rfl (by kernel_rfl) (by kernel_rfl) (by kernel_rfl) (fun _ _ _ h => h) rfl ?_ hHeld ?_
  · intro w' _; go_simp
  try simp only [Act.put, List.setIfInBounds_toArray, List.set_cons_zero, List.set_cons_succ]
  refine wpAnyH_ready (rs := [6]) (by kernel_rfl) (by simp) ?_
  refine AllReadyH.cons rfl (fun K hK => ?_) AllReadyH.nil
  go_simp
  refine (HM.out _ (KV.out.below HG.out) (KV'.out.below HG.out)).mono ?_
  rintro r W6 ⟨rfl, hr6, ho6⟩
  refine hK.out _ _ (trivial) (fun hHeld => ?_)
  clear hK K
  try simp only [Act.put, List.setIfInBounds_toArray, List.set_cons_zero, List.set_cons_succ]
  refine wpAnyH_done (by kernel_rfl) ?_ _
  have HA : Hid (RkAt W6 b (o + 2048) X Y N) := hr6
  have ho7 : Only b (o + 2048) 3 V W6 := (Only.of_below (b := b) _ _ HG.out (World.block_lt_of_cell? V _ v3)).trans ho6
  have HB : Hid (Only b (o + 2048) 4 w W6) := KO.out.trans (ho7.mono (by omega) (by omega))
  have HC : Hid (W6.cell? ⟨b, o + 2051, none⟩ = some (.int .u64 e)) := cell_only v3 ho7 (by omega)
  clear hr6 ho6 ho7
  go_wp2_with fail
  go_end0
  exact ⟨rfl, HA.out, HC.out, HB.out⟩
end Go.Proofs.Qxb6612204a
