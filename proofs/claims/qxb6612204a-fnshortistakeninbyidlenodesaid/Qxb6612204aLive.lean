import Derived.Test.Qxb6612204aHeld
namespace Go.Proofs.Qxb6612204a
open Go.RowKit

/-- The five boxes. -/
structure Five (w W : World) (r0 r1 r2 r3 : Nat → Int) (f0 f1 : Int) : Prop where
  r0 : Regs W w.heap.size 0 r0
  r1 : Regs W (w.heap.size + 1) 0 r1
  r2 : Regs W (w.heap.size + 1 + 1) 0 r2
  c0 : W.cell? ⟨w.heap.size + 1 + 1 + 1, 0, none⟩ = some (.int .u64 f0)
  c1 : W.cell? ⟨w.heap.size + 1 + 1 + 1, 1, none⟩ = some (.int .u64 f1)
  r3 : Regs W (w.heap.size + 1 + 1 + 1 + 1) 0 r3
  bel : Below w.heap.size w W

theorem cell_below {w w' : World} {b j : Nat} {v : Value} (h : w.cell? ⟨b, j, none⟩ = some v) (k : Below w.heap.size w w') : w'.cell? ⟨b, j, none⟩ = some v := by
  rw [k.cell (World.block_lt_of_cell? w _ h)]; exact h

theorem Five.below {w W W' : World} {r0 r1 r2 r3 : Nat → Int} {f0 f1 : Int} (h : Five w W r0 r1 r2 r3 f0 f1) (k : Below W.heap.size W W') : Five w W' r0 r1 r2 r3 f0 f1 :=
  ⟨h.r0.below k, h.r1.below k, h.r2.below k, cell_below h.c0 k, cell_below h.c1 k, h.r3.below k, h.bel.trans (k.mono h.bel.size)⟩

theorem Five.mk' {L : (Nat → Int) → List Value} (HL : IsL L) (w : World) (r0 r1 r2 r3 : Nat → Int) (f0 f1 : Int) :
    Five w (((((w.alloc (.cells (L r0).toArray 22)).alloc (.cells (L r1).toArray 22)).alloc (.cells (L r2).toArray 22)).alloc (.cells #[.int .u64 f0, .int .u64 f1] 24)).alloc (.cells (L r3).toArray 22)) r0 r1 r2 r3 f0 f1 := by
  have b3 : (((((w.alloc (.cells (L r0).toArray 22)).alloc (.cells (L r1).toArray 22)).alloc (.cells (L r2).toArray 22)).alloc (.cells #[.int .u64 f0, .int .u64 f1] 24)).alloc (.cells (L r3).toArray 22)).heap[w.heap.size + 1 + 1 + 1]? = some (.cells #[.int .u64 f0, .int .u64 f1] 24) := by
    rw [Below.heap_alloc _ _ _ (by simp)]
    exact new_blk _ _ (by simp)
  refine ⟨?_, ?_, ?_, cell_of_row _ _ 0 _ _ _ b3, cell_of_row _ _ 1 _ _ _ b3, ?_, ?_⟩
  · exact (L_new HL w r0 22 rfl).below (((((Below.refl _ _).alloc (Nat.le_refl _) _).alloc (by simp) _).alloc (by simp) _).alloc (by simp) _)
  · exact (L_new HL _ r1 22 (by simp)).below ((((Below.refl _ _).alloc (Nat.le_refl _) _).alloc (by simp) _).alloc (by simp) _)
  · exact (L_new HL _ r2 22 (by simp)).below (((Below.refl _ _).alloc (Nat.le_refl _) _).alloc (by simp) _)
  · exact L_new HL _ _ 22 (by simp)
  · exact (((((Below.refl _ _).alloc (Nat.le_refl _) _).alloc (by simp) _).alloc (by simp; omega) _).alloc (by simp; omega) _).alloc (by simp; omega) _

set_option maxHeartbeats 1000000 in
set_option maxRecDepth 100000 in
/-- zzBytes: a truth value, whichever. -/
theorem bytes32_any {L : (Nat → Int) → List Value} (HL : IsL L) (node set : ByteArray) (hd : Int) (r0 r1 r2 r3 : Nat → Int) (f0 f1 n e : Int) (w : World) :
    Calls Try.prog 32 #[.string node, .string set, .int .i64 hd, .agg (L r0).toArray, .agg (L r1).toArray, .agg (L r2).toArray, .agg #[.int .u64 f0, .int .u64 f1], .int .i64 n, .int .u64 e, .agg (L r3).toArray] w (Truth w True) := by
  have HF : Hid (Five w (((((w.alloc (.cells (L r0).toArray 22)).alloc (.cells (L r1).toArray 22)).alloc (.cells (L r2).toArray 22)).alloc (.cells #[.int .u64 f0, .int .u64 f1] 24)).alloc (.cells (L r3).toArray 22)) r0 r1 r2 r3 f0 f1) := Five.mk' HL w r0 r1 r2 r3 f0 f1
  go_enter Try.func32, Try.ntmps32
  go_wp2_with fail
  all_goals (go_ret; exact ⟨_, rfl, HF.out.bel, fun _ => trivial⟩)

set_option maxHeartbeats 4000000 in
set_option maxRecDepth 100000 in
theorem live_any {L : (Nat → Int) → List Value} (HL : IsL L) (node set : ByteArray) (hd : Int) (r0 r1 r2 r3 : Nat → Int) (f0 f1 n e : Int) (w : World) :
    Calls Try.prog 6 #[.string node, .string set, .int .i64 hd, .agg (L r0).toArray, .agg (L r1).toArray, .agg (L r2).toArray, .agg #[.int .u64 f0, .int .u64 f1], .int .i64 n, .int .u64 e, .agg (L r3).toArray] w
      fun x w' => x = .returned (.bool true) ∧ Below w.heap.size w w' := by
  obtain ⟨W, hW⟩ : ∃ W, W = (((((w.alloc (.cells (L r0).toArray 22)).alloc (.cells (L r1).toArray 22)).alloc (.cells (L r2).toArray 22)).alloc (.cells #[.int .u64 f0, .int .u64 f1] 24)).alloc (.cells (L r3).toArray 22)) := ⟨_, rfl⟩
  have HF : Hid (Five w W r0 r1 r2 r3 f0 f1) := by rw [hW]; exact Five.mk' HL w r0 r1 r2 r3 f0 f1
  have HW : Hid (W = (((((w.alloc (.cells (L r0).toArray 22)).alloc (.cells (L r1).toArray 22)).alloc (.cells (L r2).toArray 22)).alloc (.cells #[.int .u64 f0, .int .u64 f1] 24)).alloc (.cells (L r3).toArray 22))) := hW
  clear hW
  have q1 := L_equal HL
  have q47 := neq47
  go_enter Try.func6, Try.ntmps6
  go_upto_region 1 with fail
  rw [← HW.out]
  clear HW
  obtain ⟨c0, c1⟩ := And.intro HF.out.c0 HF.out.c1
  go_wp2_with (first | ((with_reducible refine D_load 29 HL (w.heap.size) 0 r0 ?_ ?_ ?_); rfl; exact HF.out.r0) | ((with_reducible refine D_load 30 HL (w.heap.size + 1) 0 r1 ?_ ?_ ?_); rfl; exact HF.out.r1) | ((with_reducible refine D_load 31 HL (w.heap.size + 1 + 1) 0 r2 ?_ ?_ ?_); rfl; exact HF.out.r2) | ((with_reducible refine D_load 35 HL (w.heap.size + 1 + 1 + 1 + 1) 0 r3 ?_ ?_ ?_); rfl; exact HF.out.r3))
  refine (bytes32_any HL node set hd r0 r1 r2 r3 f0 f1 n e W).mono ?_
  rintro x W1 ⟨t, rfl, hb, -⟩
  have HF1 : Hid (Five w W1 r0 r1 r2 r3 f0 f1) := HF.out.below hb
  clear hb HF c0 c1
  obtain ⟨c0, c1⟩ := And.intro HF1.out.c0 HF1.out.c1
  cases t
  · go_wp2_with fail
    go_ret
    exact ⟨rfl, HF1.out.bel⟩
  by_cases hn : (65536 : Int) < node.size
  · go_wp2_with fail
    all_goals (go_ret; exact ⟨rfl, HF1.out.bel⟩)
  by_cases hs : (65536 : Int) < set.size
  · go_wp2_with fail
    all_goals (go_ret; exact ⟨rfl, HF1.out.bel⟩)
  go_wp2_with (first | ((with_reducible refine D_load 48 HL (w.heap.size) 0 r0 ?_ ?_ ?_); rfl; exact HF1.out.r0) | ((with_reducible refine D_load 49 HL (w.heap.size + 1) 0 r1 ?_ ?_ ?_); rfl; exact HF1.out.r1) | ((with_reducible refine D_load 50 HL (w.heap.size + 1 + 1) 0 r2 ?_ ?_ ?_); rfl; exact HF1.out.r2))
  have hn' : node.size ≤ 65536 := by omega
  have hs' : set.size ≤ 65536 := by omega
  refine (reach_any HL node hd r0 r1 r2 f0 f1 n e W1 (Nat.le_trans hn' (by decide))).mono ?_
  rintro x W2 ⟨t, rfl, hb, ht⟩
  have HF2 : Hid (Five w W2 r0 r1 r2 r3 f0 f1) := HF1.out.below hb
  clear hb HF1 c0 c1 hn hs
  cases t
  · go_wp2_with fail
    go_ret
    exact ⟨rfl, HF2.out.bel⟩
  have HT : Hid (0 ≤ hd ∧ hd ≤ 2 ∧ (hd ≠ 1 → eqF r0 (fun _ => 0) = true)) := ht rfl
  clear ht
  go_wp2_with fail
  refine wp_region_held_drew (S := fun w' => Below W2.heap.size W2 w') (by kernel_rfl) ((Below.refl _ _).drew) (fun hHeld => ?_)
  refine H_move 0 56 (.string node) rfl (by kernel_rfl) (by kernel_rfl) (by kernel_rfl) (fun _ _ _ h => h) rfl rfl hHeld ?_
  try simp only [Act.put, List.setIfInBounds_toArray, List.set_cons_zero, List.set_cons_succ]
  refine H_move 1 57 (.string set) rfl (by kernel_rfl) (by kernel_rfl) (by kernel_rfl) (fun _ _ _ h => h) rfl rfl hHeld ?_
  try simp only [Act.put, List.setIfInBounds_toArray, List.set_cons_zero, List.set_cons_succ]
  refine H_move 2 58 (.string node) rfl (by kernel_rfl) (by kernel_rfl) (by kernel_rfl) (fun _ _ _ h => h) rfl rfl hHeld ?_
  try simp only [Act.put, List.setIfInBounds_toArray, List.set_cons_zero, List.set_cons_succ]
  refine H_move 3 59 (.string set) rfl (by kernel_rfl) (by kernel_rfl) (by kernel_rfl) (fun _ _ _ h => h) rfl rfl hHeld ?_
  try simp only [Act.put, List.setIfInBounds_toArray, List.set_cons_zero, List.set_cons_succ]
  refine H_move 5 61 (.int .i64 hd) rfl (by kernel_rfl) (by kernel_rfl) (by kernel_rfl) (fun _ _ _ h => h) rfl rfl hHeld ?_
  try simp only [Act.put, List.setIfInBounds_toArray, List.set_cons_zero, List.set_cons_succ]
  refine H_load 6 62 HL (w.heap.size) 0 r0 rfl (by kernel_rfl) (by kernel_rfl) (by kernel_rfl) (fun _ _ _ h => h) rfl rfl (fun w' k => (HF2.out.below k).r0) hHeld ?_
  try simp only [Act.put, List.setIfInBounds_toArray, List.set_cons_zero, List.set_cons_succ]
  refine H_load 7 63 HL (w.heap.size + 1) 0 r1 rfl (by kernel_rfl) (by kernel_rfl) (by kernel_rfl) (fun _ _ _ h => h) rfl rfl (fun w' k => (HF2.out.below k).r1) hHeld ?_
  try simp only [Act.put, List.setIfInBounds_toArray, List.set_cons_zero, List.set_cons_succ]
  refine H_load 8 64 HL (w.heap.size + 1 + 1) 0 r2 rfl (by kernel_rfl) (by kernel_rfl) (by kernel_rfl) (fun _ _ _ h => h) rfl rfl (fun w' k => (HF2.out.below k).r2) hHeld ?_
  try simp only [Act.put, List.setIfInBounds_toArray, List.set_cons_zero, List.set_cons_succ]
  refine H_load2 9 65 (w.heap.size + 1 + 1 + 1) 0 (.int .u64 f0) (.int .u64 f1) rfl (by kernel_rfl) (by kernel_rfl) (by kernel_rfl) (fun _ _ _ h => h) rfl rfl (fun w' k => ⟨(HF2.out.below k).c0, (HF2.out.below k).c1⟩) hHeld ?_
  try simp only [Act.put, List.setIfInBounds_toArray, List.set_cons_zero, List.set_cons_succ]
  refine H_move 10 66 (.int .i64 n) rfl (by kernel_rfl) (by kernel_rfl) (by kernel_rfl) (fun _ _ _ h => h) rfl rfl hHeld ?_
  try simp only [Act.put, List.setIfInBounds_toArray, List.set_cons_zero, List.set_cons_succ]
  refine H_move 11 67 (.int .u64 e) rfl (by kernel_rfl) (by kernel_rfl) (by kernel_rfl) (fun _ _ _ h => h) rfl rfl hHeld ?_
  try simp only [Act.put, List.setIfInBounds_toArray, List.set_cons_zero, List.set_cons_succ]
  refine wpAnyH_ready (rs := [4]) (by kernel_rfl) (by simp) ?_
  refine AllReadyH.cons rfl (fun K hK => ?_) AllReadyH.nil
  go_simp
  refine (zzRank_any node set _ (Nat.le_trans hn' (by decide)) (Nat.le_trans hs' (by decide))).mono ?_
  rintro x w' ⟨rfl, rfl⟩
  refine hK.out _ _ ((Below.refl _ _).drew) (fun hHeld => ?_)
  clear hK K
  try simp only [Act.put, List.setIfInBounds_toArray, List.set_cons_zero, List.set_cons_succ]
  refine wpAnyH_ready (rs := [12]) (by kernel_rfl) (by simp) ?_
  refine AllReadyH.cons rfl (fun K hK => ?_) AllReadyH.nil
  go_simp
  refine (newState_any HL ⟨node, set, rankF node.data.toList set.data.toList, hd, r0, ⟨r1, r2, f0, f1, n, e⟩⟩ _).mono ?_
  rintro x W3 ⟨B, rfl, hB, hSt, hb3⟩
  refine hK.out _ _ (((Below.refl _ _).drew).trans hb3) (fun hHeld => ?_)
  clear hK K
  try simp only [Act.put, List.setIfInBounds_toArray, List.set_cons_zero, List.set_cons_succ]
  refine H_assign 13 21 (.pointer (some ⟨B, 0, none⟩)) rfl (by kernel_rfl) (by kernel_rfl) (by kernel_rfl) (fun _ _ _ h => h) rfl rfl hHeld ?_
  try simp only [Act.put, List.setIfInBounds_toArray, List.set_cons_zero, List.set_cons_succ]
  refine wpAnyH_done (by kernel_rfl) ?_ _
  have HF3 : Hid (Five w W3 r0 r1 r2 r3 f0 f1) := HF2.out.below hHeld
  have HS3 : Hid (StateAt W3 B ⟨node, set, rankF node.data.toList set.data.toList, hd, r0, ⟨r1, r2, f0, f1, n, e⟩⟩) := hSt
  have HN3 : Hid (B ≠ w.heap.size ∧ B ≠ w.heap.size + 1 + 1 + 1 + 1) := by
    have h1 := HF2.out.r0.lt
    have h2 := HF2.out.r3.lt
    have h3 : W2.heap.size ≤ B := hB
    exact ⟨by omega, by omega⟩
  have HBW : Hid (w.heap.size ≤ B) := Nat.le_trans HF2.out.bel.size hB
  clear hHeld hSt hB hb3 HF2
  go_wp2_with fail
  refine (record_any B W3).mono ?_
  rintro x w' ⟨rfl, hw⟩
  rw [hw]
  clear hw w'
  go_wp2_with fail
  refine wp_region_held_drew (S := fun w' => Below W3.heap.size W3 w') (by kernel_rfl) ((Below.refl _ _).drew) (fun hHeld => ?_)
  refine H_move 0 71 (.pointer (some ⟨B, 4, none⟩)) rfl (by kernel_rfl) (by kernel_rfl) (by kernel_rfl) (fun _ _ _ h => h) rfl rfl hHeld ?_
  try simp only [Act.put, List.setIfInBounds_toArray, List.set_cons_zero, List.set_cons_succ]
  refine H_take 1 72 (.bool false) rfl rfl (by kernel_rfl) (by kernel_rfl) (by kernel_rfl) (fun _ _ _ h => h) rfl ?_ hHeld ?_
  · intro w' _; go_simp
  try simp only [Act.put, List.setIfInBounds_toArray, List.set_cons_zero, List.set_cons_succ]
  refine H_move 2 73 (.bool false) rfl (by kernel_rfl) (by kernel_rfl) (by kernel_rfl) (fun _ _ _ h => h) rfl rfl hHeld ?_
  try simp only [Act.put, List.setIfInBounds_toArray, List.set_cons_zero, List.set_cons_succ]
  refine H_move 3 74 (.pointer (some ⟨B, 4, none⟩)) rfl (by kernel_rfl) (by kernel_rfl) (by kernel_rfl) (fun _ _ _ h => h) rfl rfl hHeld ?_
  try simp only [Act.put, List.setIfInBounds_toArray, List.set_cons_zero, List.set_cons_succ]
  refine H_load 5 76 HL (w.heap.size) 0 r0 rfl (by kernel_rfl) (by kernel_rfl) (by kernel_rfl) (fun _ _ _ h => h) rfl rfl (fun w' k => (HF3.out.below k).r0) hHeld ?_
  try simp only [Act.put, List.setIfInBounds_toArray, List.set_cons_zero, List.set_cons_succ]
  refine wpAnyH_ready (rs := [4]) (by kernel_rfl) (by simp) ?_
  refine AllReadyH.cons rfl (fun K hK => ?_) AllReadyH.nil
  go_simp
  refine (sketchReg_any HL B 4 r0 _ (HS3.out.below ((Below.refl _ _).drew)).rg).mono ?_
  rintro x W4 ⟨rfl, hb4⟩
  refine hK.out _ _ (((Below.refl _ _).drew).trans hb4) (fun hHeld => ?_)
  clear hK K
  try simp only [Act.put, List.setIfInBounds_toArray, List.set_cons_zero, List.set_cons_succ]
  refine H_take 6 77 (.bool false) rfl rfl (by kernel_rfl) (by kernel_rfl) (by kernel_rfl) (fun _ _ _ h => h) rfl ?_ hHeld ?_
  · intro w' _; have := eqF_refl r0; go_simp
  try simp only [Act.put, List.setIfInBounds_toArray, List.set_cons_zero, List.set_cons_succ]
  refine H_take 7 78 (.bool false) rfl rfl (by kernel_rfl) (by kernel_rfl) (by kernel_rfl) (fun _ _ _ h => h) rfl ?_ hHeld ?_
  · intro w' _; go_simp
  try simp only [Act.put, List.setIfInBounds_toArray, List.set_cons_zero, List.set_cons_succ]
  refine wpAnyH_done (by kernel_rfl) ?_ _
  have HF4 : Hid (Five w W4 r0 r1 r2 r3 f0 f1) := HF3.out.below hHeld
  have HS4 : Hid (StateAt W4 B ⟨node, set, rankF node.data.toList set.data.toList, hd, r0, ⟨r1, r2, f0, f1, n, e⟩⟩) := HS3.out.below hHeld
  clear hHeld hb4 HF3 HS3
  go_wp2_with (first | ((with_reducible refine D_load 80 HL (w.heap.size + 1 + 1 + 1 + 1) 0 r3 ?_ ?_ ?_); rfl; exact HF4.out.r3))
  refine (newSketch_any HL r3 W4).mono ?_
  rintro x W5 ⟨C, rfl, hC, hr5, hb5⟩
  have HF5 : Hid (Five w W5 r0 r1 r2 r3 f0 f1) := HF4.out.below hb5
  have HS5 : Hid (StateAt W5 B ⟨node, set, rankF node.data.toList set.data.toList, hd, r0, ⟨r1, r2, f0, f1, n, e⟩⟩) := HS4.out.below hb5
  have HC5 : Hid (Regs W5 C 0 r3) := hr5
  have HN5 : Hid (B ≠ C) := by
    have h1 := HS4.out.rg.lt
    exact Nat.ne_of_lt (Nat.lt_of_lt_of_le h1 hC)
  clear hb5 hr5 hC HF4 HS4
  by_cases h2 : hd = 2
  · subst h2
    go_wp2_with fail
    refine (recv_no B _ W5 HS5.out.holds).mono ?_
    rintro x w' ⟨rfl, hw⟩
    rw [hw]
    clear hw w'
    go_wp2_with fail
    refine (record_any B W5).mono ?_
    rintro x w' ⟨rfl, hw⟩
    rw [hw]
    clear hw w'
    go_wp2_with fail
    refine wp_region_held_drew (S := fun w' => Below W5.heap.size W5 w') (by kernel_rfl) ((Below.refl _ _).drew) (fun hHeld => ?_)
    refine H_move 0 90 (.bool false) rfl (by kernel_rfl) (by kernel_rfl) (by kernel_rfl) (fun _ _ _ h => h) rfl rfl hHeld ?_
    try simp only [Act.put, List.setIfInBounds_toArray, List.set_cons_zero, List.set_cons_succ]
    refine H_take 1 91 (.bool true) rfl rfl (by kernel_rfl) (by kernel_rfl) (by kernel_rfl) (fun _ _ _ h => h) rfl ?_ hHeld ?_
    · intro w' _; go_simp
    try simp only [Act.put, List.setIfInBounds_toArray, List.set_cons_zero, List.set_cons_succ]
    refine H_move 2 92 (.bool true) rfl (by kernel_rfl) (by kernel_rfl) (by kernel_rfl) (fun _ _ _ h => h) rfl rfl hHeld ?_
    try simp only [Act.put, List.setIfInBounds_toArray, List.set_cons_zero, List.set_cons_succ]
    refine H_move 3 93 (.pointer (some ⟨B, 4, none⟩)) rfl (by kernel_rfl) (by kernel_rfl) (by kernel_rfl) (fun _ _ _ h => h) rfl rfl hHeld ?_
    try simp only [Act.put, List.setIfInBounds_toArray, List.set_cons_zero, List.set_cons_succ]
    refine H_load 5 95 HL (w.heap.size) 0 r0 rfl (by kernel_rfl) (by kernel_rfl) (by kernel_rfl) (fun _ _ _ h => h) rfl rfl (fun w' k => (HF5.out.below k).r0) hHeld ?_
    try simp only [Act.put, List.setIfInBounds_toArray, List.set_cons_zero, List.set_cons_succ]
    refine wpAnyH_ready (rs := [4]) (by kernel_rfl) (by simp) ?_
    refine AllReadyH.cons rfl (fun K hK => ?_) AllReadyH.nil
    go_simp
    refine (sketchReg_any HL B 4 r0 _ (HS5.out.below ((Below.refl _ _).drew)).rg).mono ?_
    rintro x W4 ⟨rfl, hb4⟩
    refine hK.out _ _ (((Below.refl _ _).drew).trans hb4) (fun hHeld => ?_)
    clear hK K
    try simp only [Act.put, List.setIfInBounds_toArray, List.set_cons_zero, List.set_cons_succ]
    refine H_take 6 96 (.bool true) rfl rfl (by kernel_rfl) (by kernel_rfl) (by kernel_rfl) (fun _ _ _ h => h) rfl ?_ hHeld ?_
    · intro w' _; have := eqF_refl r0; go_simp
    try simp only [Act.put, List.setIfInBounds_toArray, List.set_cons_zero, List.set_cons_succ]
    refine H_take 7 97 (.bool true) rfl rfl (by kernel_rfl) (by kernel_rfl) (by kernel_rfl) (fun _ _ _ h => h) rfl ?_ hHeld ?_
    · intro w' _; go_simp
    try simp only [Act.put, List.setIfInBounds_toArray, List.set_cons_zero, List.set_cons_succ]
    refine H_assign 8 20 (.bool true) rfl (by kernel_rfl) (by kernel_rfl) (by kernel_rfl) (fun _ _ _ h => h) rfl rfl hHeld ?_
    try simp only [Act.put, List.setIfInBounds_toArray, List.set_cons_zero, List.set_cons_succ]
    refine wpAnyH_done (by kernel_rfl) ?_ _
    have HE : Hid (Below w.heap.size w W4) := HF5.out.bel.trans (hHeld.mono HF5.out.bel.size)
    go_wp2_with fail
    go_ret
    exact ⟨rfl, HE.out⟩
  · have h2' : (hd == 2) = false := by simpa using h2
    go_wp2_with fail
    refine (recv_yes HL B C ⟨node, set, rankF node.data.toList set.data.toList, hd, r0, ⟨r1, r2, f0, f1, n, e⟩⟩ r3 W5 HN5.out HS5 HC5 h2' (Nat.le_trans hn' (by decide))).mono ?_
    rintro x W6 ⟨rfl, hs6, ho6⟩
    have HS6 : Hid (StateAt W6 B (takeIn ⟨node, set, rankF node.data.toList set.data.toList, hd, r0, ⟨r1, r2, f0, f1, n, e⟩⟩ r3)) := hs6
    have HR0 : Hid (Regs W6 (w.heap.size) 0 r0) := HF5.out.r0.only HF5.out.r0.lt ho6 (.inl (Ne.symm HN3.out.1))
    have HR3 : Hid (Regs W6 (w.heap.size + 1 + 1 + 1 + 1) 0 r3) := HF5.out.r3.only HF5.out.r3.lt ho6 (.inl (Ne.symm HN3.out.2))
    have HE6 : Hid (Below w.heap.size w W6) := HF5.out.bel.trans (ho6.below HBW.out HF5.out.bel.size)
    clear hs6 ho6 HF5 HS5 HC5
    go_wp2_with fail
    refine (record_any B W6).mono ?_
    rintro x w' ⟨rfl, hw⟩
    rw [hw]
    clear hw w'
    go_wp2_with (first | ((with_reducible refine D_load 98 HL (w.heap.size) 0 r0 ?_ ?_ ?_); rfl; exact HR0.out) | ((with_reducible refine D_load 99 HL (w.heap.size + 1 + 1 + 1 + 1) 0 r3 ?_ ?_ ?_); rfl; exact HR3.out))
    refine (zzMax_any HL r0 r3 W6).mono ?_
    rintro x W7 ⟨rfl, hb7⟩
    have HS7 : Hid (StateAt W7 B (takeIn ⟨node, set, rankF node.data.toList set.data.toList, hd, r0, ⟨r1, r2, f0, f1, n, e⟩⟩ r3)) := HS6.out.below hb7
    have HE7 : Hid (Below w.heap.size w W7) := HE6.out.trans (hb7.mono HE6.out.size)
    clear hb7 HR0 HR3 HS6 HE6
    obtain ⟨M, hM⟩ : ∃ M, M = maxF r0 r3 := ⟨_, rfl⟩
    rw [← hM]
    have HM : Hid (M = maxF r0 r3) := hM
    clear hM
    go_wp2_with (first | ((with_reducible refine D_alloc 25 HL ?_)) | ((with_reducible refine D_store 25 100 HL W7.heap.size 0 M (fun _ => 0) ?_ ?_ ?_ ?_); rfl; rfl; exact L_new HL W7 _ 22 rfl; intro W8 hr8 ho8))
    have hb8 : Below W7.heap.size W7 W8 := ((Below.refl _ _).alloc (Nat.le_refl _) _).trans (ho8.below (Nat.le_refl _) (by simp))
    have HS8 : Hid (StateAt W8 B (takeIn ⟨node, set, rankF node.data.toList set.data.toList, hd, r0, ⟨r1, r2, f0, f1, n, e⟩⟩ r3)) := HS7.out.below hb8
    have HE8 : Hid (Below w.heap.size w W8) := HE7.out.trans (hb8.mono HE7.out.size)
    have HN8 : Hid (B ≠ W7.heap.size ∧ w.heap.size ≤ W7.heap.size) := ⟨Nat.ne_of_lt HS7.out.rg.lt, HE7.out.size⟩
    refine (zzAdd_any W7.heap.size 0 node M W8 (Nat.le_trans hn' (by decide)) hr8).mono ?_
    rintro x W9 ⟨rfl, hr9, ho9⟩
    have HS9 : Hid (StateAt W9 B (takeIn ⟨node, set, rankF node.data.toList set.data.toList, hd, r0, ⟨r1, r2, f0, f1, n, e⟩⟩ r3)) := HS8.out.other ho9 HN8.out.1
    have HE9 : Hid (Below w.heap.size w W9) := HE8.out.trans (ho9.below HN8.out.2 HE8.out.size)
    obtain ⟨Z, hZ⟩ : ∃ Z, Z = addF M node.data.toList := ⟨_, rfl⟩
    rw [← hZ] at hr9
    have HR9 : Hid (Regs W9 W7.heap.size 0 Z) := hr9
    have HG9 : Hid (Regs W9 B 4 Z) := by
      have := HS9.out.rg
      rw [hZ, HM.out]
      exact this
    clear hr9 ho9 hr8 ho8 hb8 HS8 HE8 HS7 HE7 hZ HM
    go_wp2_with fail
    refine wp_region_held_drew (S := fun w' => Below W9.heap.size W9 w') (by kernel_rfl) ((Below.refl _ _).drew) (fun hHeld => ?_)
    refine H_move 0 103 (.bool true) rfl (by kernel_rfl) (by kernel_rfl) (by kernel_rfl) (fun _ _ _ h => h) rfl rfl hHeld ?_
    try simp only [Act.put, List.setIfInBounds_toArray, List.set_cons_zero, List.set_cons_succ]
    refine H_move 1 104 (.bool true) rfl (by kernel_rfl) (by kernel_rfl) (by kernel_rfl) (fun _ _ _ h => h) rfl rfl hHeld ?_
    try simp only [Act.put, List.setIfInBounds_toArray, List.set_cons_zero, List.set_cons_succ]
    refine H_move 2 105 (.pointer (some ⟨B, 4, none⟩)) rfl (by kernel_rfl) (by kernel_rfl) (by kernel_rfl) (fun _ _ _ h => h) rfl rfl hHeld ?_
    try simp only [Act.put, List.setIfInBounds_toArray, List.set_cons_zero, List.set_cons_succ]
    refine H_load 4 107 HL (W7.heap.size) 0 Z rfl (by kernel_rfl) (by kernel_rfl) (by kernel_rfl) (fun _ _ _ h => h) rfl rfl (fun w' k => HR9.out.below k) hHeld ?_
    try simp only [Act.put, List.setIfInBounds_toArray, List.set_cons_zero, List.set_cons_succ]
    refine wpAnyH_ready (rs := [3]) (by kernel_rfl) (by simp) ?_
    refine AllReadyH.cons rfl (fun K hK => ?_) AllReadyH.nil
    go_simp
    refine (sketchReg_any HL B 4 Z _ (HG9.out.below ((Below.refl _ _).drew))).mono ?_
    rintro x W4 ⟨rfl, hb4⟩
    refine hK.out _ _ (((Below.refl _ _).drew).trans hb4) (fun hHeld => ?_)
    clear hK K
    try simp only [Act.put, List.setIfInBounds_toArray, List.set_cons_zero, List.set_cons_succ]
    refine H_take 5 108 (.bool true) rfl rfl (by kernel_rfl) (by kernel_rfl) (by kernel_rfl) (fun _ _ _ h => h) rfl ?_ hHeld ?_
    · intro w' _; have := eqF_refl Z; go_simp
    try simp only [Act.put, List.setIfInBounds_toArray, List.set_cons_zero, List.set_cons_succ]
    refine H_take 6 109 (.bool true) rfl rfl (by kernel_rfl) (by kernel_rfl) (by kernel_rfl) (fun _ _ _ h => h) rfl ?_ hHeld ?_
    · intro w' _; go_simp
    try simp only [Act.put, List.setIfInBounds_toArray, List.set_cons_zero, List.set_cons_succ]
    refine H_assign 7 20 (.bool true) rfl (by kernel_rfl) (by kernel_rfl) (by kernel_rfl) (fun _ _ _ h => h) rfl rfl hHeld ?_
    try simp only [Act.put, List.setIfInBounds_toArray, List.set_cons_zero, List.set_cons_succ]
    refine wpAnyH_done (by kernel_rfl) ?_ _
    have HE : Hid (Below w.heap.size w W4) := HE9.out.trans (hHeld.mono HE9.out.size)
    go_wp2_with fail
    go_ret
    exact ⟨rfl, HE.out⟩
end Go.Proofs.Qxb6612204a
