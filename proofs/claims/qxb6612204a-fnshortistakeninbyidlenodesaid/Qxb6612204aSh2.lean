import Derived.Test.Qxb6612204aSh1
namespace Go.Proofs.Qxb6612204a
open Go.RowKit

/-- The rank in an epoch past the first. -/
def rankAtF (r e : Int) : Int := mixF (X r (W (e * 11400714819323198485)))

theorem rankAt_any (r e : Int) (w : World) (he : (e == 0) = false) :
    Calls Try.prog 51 #[.int .u64 r, .int .u64 e] w fun x w' => x = .returned (.int .u64 (rankAtF r e)) ∧ w' = w := by
  have he' : ¬ e = 0 := by simpa using he
  go_enter Try.func51, Try.ntmps51
  go_wp2_with fail
  refine (mix_any (X r (W (e * 11400714819323198485))) w (is64_X _ _)).mono ?_
  rintro x w' ⟨rfl, hw⟩
  rw [hw]
  clear hw w'
  go_wp2_with fail
  go_ret
  exact ⟨rfl, rfl⟩

theorem zzRankAt_any (r e : Int) (w : World) (he : (e == 0) = false) :
    Calls Try.prog 21 #[.int .u64 r, .int .u64 e] w fun x w' => x = .returned (.int .u64 (rankAtF r e)) ∧ w' = w := by
  have he' : ¬ e = 0 := by simpa using he
  go_enter Try.func21, Try.ntmps21
  go_wp2_with fail
  refine (zzMix_any (X r (W (e * 11400714819323198485))) w (is64_X _ _)).mono ?_
  rintro x w' ⟨rfl, hw⟩
  rw [hw]
  clear hw w'
  go_wp2_with fail
  go_ret
  exact ⟨rfl, rfl⟩

set_option maxHeartbeats 1000000 in
set_option maxRecDepth 100000 in
/-- State.ownRank. -/
theorem ownRank_any (B : Nat) (r e : Int) (w : World) (he : (e == 0) = false) (h2 : Hid (w.cell? ⟨B, 2, none⟩ = some (.int .u64 r))) (h5 : Hid (w.cell? ⟨B, 1028 + 2051, none⟩ = some (.int .u64 e))) :
    Calls Try.prog 40 #[.pointer (some ⟨B, 0, none⟩)] w fun x w' => x = .returned (.int .u64 (rankAtF r e)) ∧ Below w.heap.size w w' := by
  go_enter Try.func40, Try.ntmps40
  go_wp2_with fail
  refine wp_region_held_drew (S := fun w' => Below w.heap.size w w') (by kernel_rfl) ((Below.refl _ _).drew) (fun hHeld => ?_)
  refine H_move 0 3 (.pointer (some ⟨B, 0, none⟩)) rfl (by kernel_rfl) (by kernel_rfl) (by kernel_rfl) (fun _ _ _ h => h) rfl rfl hHeld ?_
  try simp only [Act.put, List.setIfInBounds_toArray, List.set_cons_zero, List.set_cons_succ]
  refine H_take 1 4 (.pointer (some ⟨B, 0, none⟩)) rfl rfl (by kernel_rfl) (by kernel_rfl) (by kernel_rfl) (fun _ _ _ h => h) rfl ?_ hHeld ?_
  · intro w' _; go_simp
  try simp only [Act.put, List.setIfInBounds_toArray, List.set_cons_zero, List.set_cons_succ]
  refine H_take 2 5 (.pointer (some ⟨B, 2, none⟩)) rfl rfl (by kernel_rfl) (by kernel_rfl) (by kernel_rfl) (fun _ _ _ h => h) rfl ?_ hHeld ?_
  · intro w' _; go_simp
  try simp only [Act.put, List.setIfInBounds_toArray, List.set_cons_zero, List.set_cons_succ]
  refine H_take 3 6 (.int .u64 r) rfl rfl (by kernel_rfl) (by kernel_rfl) (by kernel_rfl) (fun _ _ _ h => h) rfl ?_ hHeld ?_
  · intro w' k; have hc := (cell_below h2.out k); go_simp
  try simp only [Act.put, List.setIfInBounds_toArray, List.set_cons_zero, List.set_cons_succ]
  refine H_move 4 7 (.pointer (some ⟨B, 0, none⟩)) rfl (by kernel_rfl) (by kernel_rfl) (by kernel_rfl) (fun _ _ _ h => h) rfl rfl hHeld ?_
  try simp only [Act.put, List.setIfInBounds_toArray, List.set_cons_zero, List.set_cons_succ]
  refine H_take 5 8 (.pointer (some ⟨B, 0, none⟩)) rfl rfl (by kernel_rfl) (by kernel_rfl) (by kernel_rfl) (fun _ _ _ h => h) rfl ?_ hHeld ?_
  · intro w' _; go_simp
  try simp only [Act.put, List.setIfInBounds_toArray, List.set_cons_zero, List.set_cons_succ]
  refine H_take 6 9 (.pointer (some ⟨B, 1028, none⟩)) rfl rfl (by kernel_rfl) (by kernel_rfl) (by kernel_rfl) (fun _ _ _ h => h) rfl ?_ hHeld ?_
  · intro w' _; go_simp
  try simp only [Act.put, List.setIfInBounds_toArray, List.set_cons_zero, List.set_cons_succ]
  refine H_take 7 10 (.pointer (some ⟨B, 1028 + 2051, none⟩)) rfl rfl (by kernel_rfl) (by kernel_rfl) (by kernel_rfl) (fun _ _ _ h => h) rfl ?_ hHeld ?_
  · intro w' _; go_simp
  try simp only [Act.put, List.setIfInBounds_toArray, List.set_cons_zero, List.set_cons_succ]
  refine H_take 8 11 (.int .u64 e) rfl rfl (by kernel_rfl) (by kernel_rfl) (by kernel_rfl) (fun _ _ _ h => h) rfl ?_ hHeld ?_
  · intro w' k; have hc := (cell_below h5.out k); go_simp
  try simp only [Act.put, List.setIfInBounds_toArray, List.set_cons_zero, List.set_cons_succ]
  refine wpAnyH_ready (rs := [9]) (by kernel_rfl) (by simp) ?_
  refine AllReadyH.cons rfl (fun K hK => ?_) AllReadyH.nil
  go_simp
  refine (rankAt_any r e _ he).mono ?_
  rintro x w' ⟨rfl, hw⟩
  rw [hw]
  clear hw w'
  refine hK.out _ _ (hHeld) (fun hHeld => ?_)
  clear hK K
  try simp only [Act.put, List.setIfInBounds_toArray, List.set_cons_zero, List.set_cons_succ]
  refine H_assign 10 2 (.int .u64 (rankAtF r e)) rfl (by kernel_rfl) (by kernel_rfl) (by kernel_rfl) (fun _ _ _ h => h) rfl rfl hHeld ?_
  try simp only [Act.put, List.setIfInBounds_toArray, List.set_cons_zero, List.set_cons_succ]
  refine wpAnyH_done (by kernel_rfl) ?_ _
  have HB : Hid (Below w.heap.size w w.drew) := hHeld
  go_wp2_with fail
  go_ret
  exact ⟨rfl, HB.out⟩

set_option maxHeartbeats 2000000 in
set_option maxRecDepth 100000 in
theorem rkMerge0 (b o b' o' : Nat) (x y : Int) (w : World) (h : RkAt w b o 0 0 0) (h' : RkAt w b' o' x y 0) :
    Calls Try.prog 50 #[.pointer (some ⟨b, o, none⟩), .pointer (some ⟨b', o', none⟩)] w fun e w' => e = .returned (.tuple #[]) ∧ RkAt w' b o 0 0 0 ∧ Only b o 3 w w' := by
  have HR : Hid (RkAt w b o 0 0 0) := h
  clear h
  have HR' : Hid (RkAt w b' o' x y 0) := h'
  obtain ⟨hx, hy, hn, _⟩ := h'
  go_enter Try.func50, Try.ntmps50
  go_wp2_with fail
  go_quiet (fail)
  go_wp2_with fail
  refine wp_loop_rounds 1 ?_
  rw [rounds_succ]
  go_wp2_with fail
  go_end0
  exact ⟨rfl, HR.out.below (below_drewN _ _ _), Only.of_below (b := b) o 3 (below_drewN _ _ _) (World.block_lt_of_cell? w _ HR.out.x)⟩

set_option maxHeartbeats 2000000 in
set_option maxRecDepth 100000 in
theorem rkMerge1 (b o b' o' : Nat) (x y : Int) (w : World) (h : RkAt w b o 0 0 0) (h' : RkAt w b' o' x y 1) :
    Calls Try.prog 50 #[.pointer (some ⟨b, o, none⟩), .pointer (some ⟨b', o', none⟩)] w fun e w' => e = .returned (.tuple #[]) ∧ RkAt w' b o x 0 1 ∧ Only b o 3 w w' := by
  have HR : Hid (RkAt w b o 0 0 0) := h
  clear h
  have HR' : Hid (RkAt w b' o' x y 1) := h'
  obtain ⟨hx, hy, hn, _⟩ := h'
  go_enter Try.func50, Try.ntmps50
  go_wp2_with fail
  go_quiet (fail)
  go_wp2_with fail
  refine wp_loop_rounds 2 ?_
  rw [rounds_succ]
  go_wp2_with fail
  refine (rkAdd0 b o x _ (HR.out.below (below_drewN _ _ _))).mono ?_
  rintro e w1 ⟨rfl, hr1, ho1⟩
  have HX : Hid (RkAt w1 b o x 0 1) := hr1
  have HO : Hid (Only b o 3 w w1) := (Only.of_below (b := b) o 3 (below_drewN _ w nq) (World.block_lt_of_cell? w _ HR.out.x)).trans ho1
  clear hr1 ho1
  go_wp2_with fail
  rw [rounds_succ]
  go_wp2_with fail
  go_end0
  exact ⟨rfl, HX.out, HO.out⟩
end Go.Proofs.Qxb6612204a
