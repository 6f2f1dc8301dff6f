import Derived.Test.Qxb6609493aLet
namespace Go.Proofs.Qxb6609493a
open Go.RowKit

theorem zero93 (w : World) : (zeroValue 93).run Try.prog w = .ok (.agg ([.int .u32 0, .int .u64 0, .int .u64 0] : List Value).toArray) w := by kernel_rfl
theorem zero101 (w : World) : (zeroValue 101).run Try.prog w = .ok (.agg ([] : List Value).toArray) w := by kernel_rfl

set_option maxHeartbeats 1000000 in
theorem words_any {L : (Nat → Int) → List Value} (HL : IsL L) (r : Nat → Int) (w : World) (hr : Hid (Ok r)) :
    Calls Try.prog 32 #[.agg (L r).toArray] w fun e w' => e = .returned (.agg ([.int .u32 (Vp r 4), .int .u64 (Vp (fun i => r (4 + i)) 8), .int .u64 (Vp (fun i => r (12 + i)) 8)] : List Value).toArray) ∧ Below w.heap.size w w' := by
  have e4 : Vp (fun i => r (0 + i)) 4 = Vp r 4 := by simp only [Nat.zero_add]
  go_enter Try.func32, Try.ntmps32
  go_wp2_with (first | ((with_reducible refine D_box 51 1 (L r) ?_ ?_); (rfl); (intro p1 w1 g1 l1 m1 B1)) | ((with_reducible refine D_new 93 2 _ zero93 ?_); (intro p2 w2 g2 l2 m2 B2)) | ((with_reducible refine D_new 101 3 _ zero101 ?_); (intro p3 w3 g3 l3 m3 B3)))
  have n12 : p1 ≠ p2 := by omega
  have m1 := (m1.below B2 l1).below B3 (Nat.lt_of_lt_of_le l1 B2.size)
  have l1 := Nat.lt_of_lt_of_le (Nat.lt_of_lt_of_le l1 B2.size) B3.size
  have m2 := m2.below B3 l2
  have lW := Nat.lt_of_lt_of_le l2 B3.size
  have l2 := lW
  have q2 : w.heap.size ≤ p2 := Nat.le_trans B1.size g2
  have hL : ∀ w', Only p2 0 3 w3 w' → ∀ i, i < 20 → w'.cell? ⟨p1, i, none⟩ = some (.int .u8 (r i)) := fun w' hO i hi => by
    have h := (L_cell HL (m1.only l1 hO (.inl n12)) i hi).1
    rwa [Nat.zero_add] at h
  refine wp_region_held_drew (S := fun w' => Only p2 0 3 w3 w') (by kernel_rfl) (Only.of_below _ _ (below_drew _ w3) lW) (fun hHeld => ?_)
  have m2 := m2.below (below_drew _ w3) l2
  refine H_load 101 0 5 ta101 (([] : List Value)) (rfl) (p3) (0) rfl (by kernel_rfl) (by kernel_rfl) (by kernel_rfl) (fun _ _ _ h => h) rfl rfl (fun w' _ i v hv => by simp at hv) hHeld ?_
  try simp only [Act.put, List.setIfInBounds_toArray, List.set_cons_zero, List.set_cons_succ]
  refine H_take 1 6 (.slice (some ⟨p1, 0, none⟩) 4 20) rfl rfl (by kernel_rfl) (by kernel_rfl) (by kernel_rfl) (fun _ _ _ h => h) rfl ?_ hHeld ?_
  · intro _ _; go_simp
  try simp only [Act.put, List.setIfInBounds_toArray, List.set_cons_zero, List.set_cons_succ]
  refine H_load 101 3 8 ta101 (([] : List Value)) (rfl) (p3) (0) rfl (by kernel_rfl) (by kernel_rfl) (by kernel_rfl) (fun _ _ _ h => h) rfl rfl (fun w' _ i v hv => by simp at hv) hHeld ?_
  try simp only [Act.put, List.setIfInBounds_toArray, List.set_cons_zero, List.set_cons_succ]
  refine H_take 4 9 (.slice (some ⟨p1, 4, none⟩) 8 16) rfl rfl (by kernel_rfl) (by kernel_rfl) (by kernel_rfl) (fun _ _ _ h => h) rfl ?_ hHeld ?_
  · intro _ _; go_simp
  try simp only [Act.put, List.setIfInBounds_toArray, List.set_cons_zero, List.set_cons_succ]
  refine H_load 101 6 11 ta101 (([] : List Value)) (rfl) (p3) (0) rfl (by kernel_rfl) (by kernel_rfl) (by kernel_rfl) (fun _ _ _ h => h) rfl rfl (fun w' _ i v hv => by simp at hv) hHeld ?_
  try simp only [Act.put, List.setIfInBounds_toArray, List.set_cons_zero, List.set_cons_succ]
  refine H_take 7 12 (.slice (some ⟨p1, 12, none⟩) 8 8) rfl rfl (by kernel_rfl) (by kernel_rfl) (by kernel_rfl) (fun _ _ _ h => h) rfl ?_ hHeld ?_
  · intro _ _; go_simp
  try simp only [Act.put, List.setIfInBounds_toArray, List.set_cons_zero, List.set_cons_succ]
  refine wpAnyH_ready (rs := [2]) (by kernel_rfl) (by simp) ?_
  refine (AllReadyH.cons rfl (fun K hK => ?_) AllReadyH.nil)
  go_simp
  refine (u32_any p1 0 4 20 (fun i => r (0 + i)) _ (by omega) (fun i hi => hr.out _ (by omega)) (fun i hi => hL _ hHeld (0 + i) (by omega))).mono ?_
  rintro e w1 ⟨rfl, hB1⟩
  refine hK.out _ _ (ob hHeld hB1 lW) (fun hHeld => ?_)
  clear hK K
  try simp only [Act.put, List.setIfInBounds_toArray, List.set_cons_zero, List.set_cons_succ]
  have m2 := m2.below hB1 l2
  have l2 := Nat.lt_of_lt_of_le l2 hB1.size
  refine wpAnyH_ready (rs := [5]) (by kernel_rfl) (by simp) ?_
  refine (AllReadyH.cons rfl (fun K hK => ?_) AllReadyH.nil)
  go_simp
  refine (u64_any p1 4 8 16 (fun i => r (4 + i)) _ (by omega) (fun i hi => hr.out _ (by omega)) (fun i hi => hL _ hHeld (4 + i) (by omega))).mono ?_
  rintro e w2 ⟨rfl, hB2⟩
  refine hK.out _ _ (ob hHeld hB2 lW) (fun hHeld => ?_)
  clear hK K
  try simp only [Act.put, List.setIfInBounds_toArray, List.set_cons_zero, List.set_cons_succ]
  have m2 := m2.below hB2 l2
  have l2 := Nat.lt_of_lt_of_le l2 hB2.size
  refine wpAnyH_ready (rs := [8]) (by kernel_rfl) (by simp) ?_
  refine (AllReadyH.cons rfl (fun K hK => ?_) AllReadyH.nil)
  go_simp
  refine (u64_any p1 12 8 8 (fun i => r (12 + i)) _ (by omega) (fun i hi => hr.out _ (by omega)) (fun i hi => hL _ hHeld (12 + i) (by omega))).mono ?_
  rintro e w3 ⟨rfl, hB3⟩
  refine hK.out _ _ (ob hHeld hB3 lW) (fun hHeld => ?_)
  clear hK K
  try simp only [Act.put, List.setIfInBounds_toArray, List.set_cons_zero, List.set_cons_succ]
  have m2 := m2.below hB3 l2
  have l2 := Nat.lt_of_lt_of_le l2 hB3.size
  refine H_take 9 14 (.agg ([.int .u32 (Vp r 4), .int .u64 (Vp (fun i => r (4 + i)) 8), .int .u64 (Vp (fun i => r (12 + i)) 8)] : List Value).toArray) rfl rfl (by kernel_rfl) (by kernel_rfl) (by kernel_rfl) (fun _ _ _ h => h) rfl ?_ hHeld ?_
  · intro _ _; go_simp
  try simp only [Act.put, List.setIfInBounds_toArray, List.set_cons_zero, List.set_cons_succ]
  refine wpAnyH_ready (rs := [10]) (by kernel_rfl) (by simp) ?_
  refine (AllReadyH.cons rfl (fun K hK => ?_) AllReadyH.nil)
  rw [if_pos (by rfl)]
  simp only [List.getElem_toArray, List.getElem_cons_zero, List.getElem_cons_succ]
  with_reducible refine S_store 93 2 14 ta93 (([.int .u32 (Vp r 4), .int .u64 (Vp (fun i => r (4 + i)) 8), .int .u64 (Vp (fun i => r (12 + i)) 8)] : List Value)) (([.int .u32 0, .int .u64 0, .int .u64 0] : List Value)) (rfl) (rfl) (by simp [Value.oneCell']) (p2) 0 ?_ ?_ m2 ?_
  · rfl
  · rfl
  intro w4 m2' hO4
  refine hK.out _ _ (hHeld.trans hO4) (fun hHeld => ?_)
  clear hK K
  try simp only [Act.put]
  have l2 := Nat.lt_of_lt_of_le l2 hO4.size
  have m2 := m2'
  refine wpAnyH_done (by kernel_rfl) ?_ _
  go_wp2_with fail
  exact bodyPost_ret (R_results ta93 Try.results32 _ _ p2 0 ([.int .u32 (Vp r 4), .int .u64 (Vp (fun i => r (4 + i)) 8), .int .u64 (Vp (fun i => r (12 + i)) 8)] : List Value) rfl rfl m2) rfl ⟨rfl, (bl (bl B1 B2) B3).trans (hHeld.below q2 (by have := B1.size; have := B2.size; have := B3.size; omega))⟩
end Go.Proofs.Qxb6609493a
