import Derived.Test.Qxb6609493aWords
namespace Go.Proofs.Qxb6609493a
open Go.RowKit

/-- The bytes of three words. -/
def wb (h m l : Int) : Nat → Int := fun i => if i < 4 then h / 256 ^ (3 - i) % 256 else if i < 12 then m / 256 ^ (11 - i) % 256 else l / 256 ^ (19 - i) % 256

theorem byteL_get (k : Nat) (v : Int) (i : Nat) (h : i < k) : (byteL k v)[i]? = some (.int .u8 (v / 256 ^ (k - 1 - i) % 256)) := by simp [byteL, h]

/-- A part of an address. -/
def partL (r : Nat → Int) (o n : Nat) : List Value := (List.range n).map fun i => Value.int .u8 (r (o + i))
theorem partL_len (r : Nat → Int) (o n : Nat) : (partL r o n).length = n := by simp [partL]
theorem L_part {L : (Nat → Int) → List Value} (HL : IsL L) {w : World} {b : Nat} {r : Nat → Int} (h : Mem w b 0 (L r)) (o n : Nat) (hn : o + n ≤ 20) : Mem w b o (partL r o n) := by
  intro i v hv
  have hi := (List.getElem?_eq_some_iff.1 hv).1
  rw [partL_len] at hi
  have hc := L_cell HL h (o + i) (by omega)
  simp only [Nat.zero_add] at hc
  have : (partL r o n)[i]? = some (.int .u8 (r (o + i))) := by simp [partL, hi]
  rw [this] at hv
  rw [← hv]
  exact hc

theorem wb_mem {L : (Nat → Int) → List Value} (HL : IsL L) {w : World} {b : Nat} {h m l : Int} (h0 : Mem w b 0 (byteL 4 h)) (h1 : Mem w b 4 (byteL 8 m)) (h2 : Mem w b 12 (byteL 8 l)) : Mem w b 0 (L (wb h m l)) := by
  refine L_mk HL fun i hi => ?_
  unfold wb
  by_cases a : i < 4
  · rw [if_pos a]; exact h0 i _ (byteL_get 4 h i a)
  · rw [if_neg a]
    by_cases c : i < 12
    · rw [if_pos c]
      have := h1 (i - 4) _ (byteL_get 8 m (i - 4) (by omega))
      rw [show 4 + (i - 4) = 0 + i by omega, show 8 - 1 - (i - 4) = 11 - i by omega] at this
      exact this
    · rw [if_neg c]
      have := h2 (i - 12) _ (byteL_get 8 l (i - 12) (by omega))
      rw [show 12 + (i - 12) = 0 + i by omega, show 8 - 1 - (i - 12) = 19 - i by omega] at this
      exact this

set_option maxHeartbeats 1000000 in
theorem address_any {L : (Nat → Int) → List Value} (HL : IsL L) (h m l : Int) (w : World) (bh : 0 ≤ h ∧ h < 4294967296) (bm : 0 ≤ m ∧ m < 18446744073709551616) (bl' : 0 ≤ l ∧ l < 18446744073709551616) :
    Calls Try.prog 35 #[.agg ([.int .u32 h, .int .u64 m, .int .u64 l] : List Value).toArray] w fun e w' => e = .returned (.agg (L (wb h m l)).toArray) ∧ Below w.heap.size w w' := by
  have b_l := bl'
  go_enter Try.func35, Try.ntmps35
  go_wp2_with (first | ((with_reducible refine D_box 93 1 ([.int .u32 h, .int .u64 m, .int .u64 l] : List Value) ?_ ?_); (rfl); (intro p1 w1 g1 l1 m1 B1)) | ((with_reducible refine D_new 51 2 _ (L_zero HL).2 ?_); (intro p2 w2 g2 l2 m2 B2)) | ((with_reducible refine D_new 101 3 _ zero101 ?_); (intro p3 w3 g3 l3 m3 B3)) | ((with_reducible refine D_new 51 4 _ (L_zero HL).2 ?_); (intro p4 w4 g4 l4 m4 B4)))
  have B234 : Below w1.heap.size w1 w4 := bl (bl B2 B3) B4
  have B34 : Below w2.heap.size w2 w4 := bl B3 B4
  have n14 : p1 ≠ p4 := by have := B2.size; have := B3.size; omega
  have n24 : p2 ≠ p4 := by have := B3.size; omega
  have q2 : w.heap.size ≤ p2 := by have := B1.size; omega
  have q4 : w.heap.size ≤ p4 := by have := B1.size; have := B2.size; have := B3.size; omega
  have m1 := m1.below B234 l1
  have m2 := m2.below B34 l2
  have l1 := Nat.lt_of_lt_of_le l1 B234.size
  have l2 := Nat.lt_of_lt_of_le l2 B34.size
  have c0 := (m1 0 _ rfl).1
  have c1 := (m1 1 _ rfl).1
  have c2 := (m1 2 _ rfl).1
  have z3 := L_part HL m4 0 4 (by omega)
  have z4 := L_part HL m4 4 8 (by omega)
  have z5 := L_part HL m4 12 8 (by omega)
  have z3l := partL_len (fun _ => 0) 0 4
  have z4l := partL_len (fun _ => 0) 4 8
  have z5l := partL_len (fun _ => 0) 12 8
  have BW : Below w.heap.size w w4 := bl (bl B1 B2) (bl B3 B4)
  clear B1 B2 B3 B4 B234 B34 g1 g2 g3 g4 m4
  refine wp_region_held_drew (S := fun w' => Only p4 0 4 w4 w') (by kernel_rfl) (Only.of_below _ _ (below_drew _ w4) l4) (fun hHeld => ?_)
  refine H_load 101 0 6 ta101 (([] : List Value)) (rfl) (p3) (0) rfl (by kernel_rfl) (by kernel_rfl) (by kernel_rfl) (fun _ _ _ h => h) rfl rfl (fun w' _ i v hv => by simp at hv) hHeld ?_
  try simp only [Act.put, List.setIfInBounds_toArray, List.set_cons_zero, List.set_cons_succ]
  refine H_take 1 7 (.slice (some ⟨p4, 0, none⟩) 4 20) rfl rfl (by kernel_rfl) (by kernel_rfl) (by kernel_rfl) (fun _ _ _ h => h) rfl ?_ hHeld ?_
  · intro _ _; go_simp
  try simp only [Act.put, List.setIfInBounds_toArray, List.set_cons_zero, List.set_cons_succ]
  refine H_take 2 8 (.pointer (some ⟨p1, 0, none⟩)) rfl rfl (by kernel_rfl) (by kernel_rfl) (by kernel_rfl) (fun _ _ _ h => h) rfl ?_ hHeld ?_
  · intro _ _; go_simp
  try simp only [Act.put, List.setIfInBounds_toArray, List.set_cons_zero, List.set_cons_succ]
  refine H_take 3 9 (.int .u32 h) rfl rfl (by kernel_rfl) (by kernel_rfl) (by kernel_rfl) (fun _ _ _ h => h) rfl ?_ hHeld ?_
  · intro w' h; have hc := (h.cell_far (j := 0) l1 n14).trans c0; go_simp
  try simp only [Act.put, List.setIfInBounds_toArray, List.set_cons_zero, List.set_cons_succ]
  refine wpAnyH_ready (rs := [4]) (by kernel_rfl) (by simp) ?_
  refine (AllReadyH.cons rfl (fun K hK => ?_) AllReadyH.nil)
  go_simp
  refine (p32_any p4 0 4 20 h _ _ (by omega) bh.1 bh.2 z3l (z3.below (below_drew _ w4) l4)).mono ?_
  rintro e x3 ⟨rfl, y3, hB1⟩
  refine hK.out _ _ (hHeld.trans hB1) (fun hHeld => ?_)
  clear hK K
  try simp only [Act.put, List.setIfInBounds_toArray, List.set_cons_zero, List.set_cons_succ]
  refine wpAnyH_done (by kernel_rfl) ?_ _
  have c0 := (hHeld.cell_far (j := 0) l1 n14).trans c0
  have c1 := (hHeld.cell_far (j := 1) l1 n14).trans c1
  have c2 := (hHeld.cell_far (j := 2) l1 n14).trans c2
  have z4 := z4.only l4 hHeld (.inr (by simp [partL_len]))
  have z5 := z5.only l4 hHeld (.inr (by simp [partL_len]))
  have m2 := m2.only l2 hHeld (.inl n24)
  have l1 := Nat.lt_of_lt_of_le l1 hHeld.size
  have l2 := Nat.lt_of_lt_of_le l2 hHeld.size
  have l4 := Nat.lt_of_lt_of_le l4 hHeld.size
  have BW := BW.trans (hHeld.below q4 BW.size)
  clear hHeld
  go_wp2_with fail
  refine wp_region_held_drew (S := fun w' => Only p4 4 8 x3 w') (by kernel_rfl) (Only.of_below _ _ (below_drew _ x3) l4) (fun hHeld => ?_)
  refine H_load 101 0 11 ta101 (([] : List Value)) (rfl) (p3) (0) rfl (by kernel_rfl) (by kernel_rfl) (by kernel_rfl) (fun _ _ _ h => h) rfl rfl (fun w' _ i v hv => by simp at hv) hHeld ?_
  try simp only [Act.put, List.setIfInBounds_toArray, List.set_cons_zero, List.set_cons_succ]
  refine H_take 1 12 (.slice (some ⟨p4, 4, none⟩) 8 16) rfl rfl (by kernel_rfl) (by kernel_rfl) (by kernel_rfl) (fun _ _ _ h => h) rfl ?_ hHeld ?_
  · intro _ _; go_simp
  try simp only [Act.put, List.setIfInBounds_toArray, List.set_cons_zero, List.set_cons_succ]
  refine H_take 2 13 (.pointer (some ⟨p1, 1, none⟩)) rfl rfl (by kernel_rfl) (by kernel_rfl) (by kernel_rfl) (fun _ _ _ h => h) rfl ?_ hHeld ?_
  · intro _ _; go_simp
  try simp only [Act.put, List.setIfInBounds_toArray, List.set_cons_zero, List.set_cons_succ]
  refine H_take 3 14 (.int .u64 m) rfl rfl (by kernel_rfl) (by kernel_rfl) (by kernel_rfl) (fun _ _ _ h => h) rfl ?_ hHeld ?_
  · intro w' h; have hc := (h.cell_far (j := 1) l1 n14).trans c1; go_simp
  try simp only [Act.put, List.setIfInBounds_toArray, List.set_cons_zero, List.set_cons_succ]
  refine wpAnyH_ready (rs := [4]) (by kernel_rfl) (by simp) ?_
  refine (AllReadyH.cons rfl (fun K hK => ?_) AllReadyH.nil)
  go_simp
  refine (p64_any p4 4 8 16 m _ _ (by omega) bm.1 bm.2 z4l (z4.below (below_drew _ x3) l4)).mono ?_
  rintro e x4 ⟨rfl, y4, hB1⟩
  refine hK.out _ _ (hHeld.trans hB1) (fun hHeld => ?_)
  clear hK K
  try simp only [Act.put, List.setIfInBounds_toArray, List.set_cons_zero, List.set_cons_succ]
  refine wpAnyH_done (by kernel_rfl) ?_ _
  have c0 := (hHeld.cell_far (j := 0) l1 n14).trans c0
  have c1 := (hHeld.cell_far (j := 1) l1 n14).trans c1
  have c2 := (hHeld.cell_far (j := 2) l1 n14).trans c2
  have y3 := y3.only l4 hHeld (.inr (by simp [byteL_len]))
  have z5 := z5.only l4 hHeld (.inr (by simp [partL_len]))
  have m2 := m2.only l2 hHeld (.inl n24)
  have l1 := Nat.lt_of_lt_of_le l1 hHeld.size
  have l2 := Nat.lt_of_lt_of_le l2 hHeld.size
  have l4 := Nat.lt_of_lt_of_le l4 hHeld.size
  have BW := BW.trans (hHeld.below q4 BW.size)
  clear hHeld
  go_wp2_with fail
  refine wp_region_held_drew (S := fun w' => Only p4 12 8 x4 w') (by kernel_rfl) (Only.of_below _ _ (below_drew _ x4) l4) (fun hHeld => ?_)
  refine H_load 101 0 16 ta101 (([] : List Value)) (rfl) (p3) (0) rfl (by kernel_rfl) (by kernel_rfl) (by kernel_rfl) (fun _ _ _ h => h) rfl rfl (fun w' _ i v hv => by simp at hv) hHeld ?_
  try simp only [Act.put, List.setIfInBounds_toArray, List.set_cons_zero, List.set_cons_succ]
  refine H_take 1 17 (.slice (some ⟨p4, 12, none⟩) 8 8) rfl rfl (by kernel_rfl) (by kernel_rfl) (by kernel_rfl) (fun _ _ _ h => h) rfl ?_ hHeld ?_
  · intro _ _; go_simp
  try simp only [Act.put, List.setIfInBounds_toArray, List.set_cons_zero, List.set_cons_succ]
  refine H_take 2 18 (.pointer (some ⟨p1, 2, none⟩)) rfl rfl (by kernel_rfl) (by kernel_rfl) (by kernel_rfl) (fun _ _ _ h => h) rfl ?_ hHeld ?_
  · intro _ _; go_simp
  try simp only [Act.put, List.setIfInBounds_toArray, List.set_cons_zero, List.set_cons_succ]
  refine H_take 3 19 (.int .u64 l) rfl rfl (by kernel_rfl) (by kernel_rfl) (by kernel_rfl) (fun _ _ _ h => h) rfl ?_ hHeld ?_
  · intro w' h; have hc := (h.cell_far (j := 2) l1 n14).trans c2; go_simp
  try simp only [Act.put, List.setIfInBounds_toArray, List.set_cons_zero, List.set_cons_succ]
  refine wpAnyH_ready (rs := [4]) (by kernel_rfl) (by simp) ?_
  refine (AllReadyH.cons rfl (fun K hK => ?_) AllReadyH.nil)
  go_simp
  refine (p64_any p4 12 8 8 l _ _ (by omega) b_l.1 b_l.2 z5l (z5.below (below_drew _ x4) l4)).mono ?_
  rintro e x5 ⟨rfl, y5, hB1⟩
  refine hK.out _ _ (hHeld.trans hB1) (fun hHeld => ?_)
  clear hK K
  try simp only [Act.put, List.setIfInBounds_toArray, List.set_cons_zero, List.set_cons_succ]
  refine wpAnyH_done (by kernel_rfl) ?_ _
  have c0 := (hHeld.cell_far (j := 0) l1 n14).trans c0
  have c1 := (hHeld.cell_far (j := 1) l1 n14).trans c1
  have c2 := (hHeld.cell_far (j := 2) l1 n14).trans c2
  have y3 := y3.only l4 hHeld (.inr (by simp [byteL_len]))
  have y4 := y4.only l4 hHeld (.inr (by simp [byteL_len]))
  have m2 := m2.only l2 hHeld (.inl n24)
  have l1 := Nat.lt_of_lt_of_le l1 hHeld.size
  have l2 := Nat.lt_of_lt_of_le l2 hHeld.size
  have l4 := Nat.lt_of_lt_of_le l4 hHeld.size
  have BW := BW.trans (hHeld.below q4 BW.size)
  clear hHeld
  have y := wb_mem HL y3 y4 y5
  clear y3 y4 y5 z3 z4 z5
  go_wp2_with (first | ((with_reducible refine D_load 51 21 ta51 (L (wb h m l)) (L_len HL _) p4 0 ?_ ?_ ?_); (rfl); (exact y)) | ((with_reducible refine D_store 51 2 21 ta51 (L (wb h m l)) (L fun _ => 0) (L_len HL _) (L_len HL _) (L_one HL _) p2 0 ?_ ?_ ?_ ?_); (rfl); (rfl); (exact m2); (intro w9 m9 o9)))
  exact bodyPost_ret (R_results ta51 Try.results35 _ _ p2 0 (L (wb h m l)) (L_len HL _) rfl m9) rfl ⟨rfl, BW.trans (o9.below q2 BW.size)⟩
end Go.Proofs.Qxb6609493a
