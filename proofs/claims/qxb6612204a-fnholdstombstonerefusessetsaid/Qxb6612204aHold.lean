import Derived.Test.Qxb6612204aTombIs
namespace Go.Proofs.Qxb6612204a
open Go.RowKit

set_option maxHeartbeats 1000000 in
set_option maxRecDepth 100000 in
theorem bytes23_any {L : (Nat → Int) → List Value} (HL : IsL L) (node set : ByteArray) (hd : Int) (r0 r1 r2 r3 : Nat → Int) (f0 f1 n e : Int) (w : World) :
    Calls Try.prog 23 #[.string node, .string set, .int .i64 hd, .agg (L r0).toArray, .agg (L r1).toArray, .agg (L r2).toArray, .agg #[.int .u64 f0, .int .u64 f1], .int .i64 n, .int .u64 e, .agg (L r3).toArray] w (Truth w True) := by
  have HF : Hid (Five w (((((w.alloc (.cells (L r0).toArray 22)).alloc (.cells (L r1).toArray 22)).alloc (.cells (L r2).toArray 22)).alloc (.cells #[.int .u64 f0, .int .u64 f1] 24)).alloc (.cells (L r3).toArray 22)) r0 r1 r2 r3 f0 f1) := Five.mk' HL w r0 r1 r2 r3 f0 f1
  go_enter Try.func23, Try.ntmps23
  go_wp2_with fail
  all_goals (go_ret; exact ⟨_, rfl, HF.out.bel, fun _ => trivial⟩)

theorem holdsTomb_yes (B : Nat) (w : World) (hc : w.cell? ⟨B, 3, none⟩ = some (.int .i64 2)) :
    Calls Try.prog 17 #[.pointer (some ⟨B, 0, none⟩)] w fun e w' => e = .returned (.bool true) ∧ w' = w := holdsTomb_any B 2 w hc
theorem holdsTomb_no (B : Nat) (h : Int) (w : World) (hc : w.cell? ⟨B, 3, none⟩ = some (.int .i64 h)) (hh : (h == 2) = false) :
    Calls Try.prog 17 #[.pointer (some ⟨B, 0, none⟩)] w fun e w' => e = .returned (.bool false) ∧ w' = w := by
  have := holdsTomb_any B h w hc
  rw [hh] at this
  exact this

set_option maxHeartbeats 8000000 in
set_option maxRecDepth 100000 in
theorem hold_any {L : (Nat → Int) → List Value} (HL : IsL L) (node set : ByteArray) (hd : Int) (r0 r1 r2 r3 : Nat → Int) (f0 f1 n e : Int) (w : World) :
    Calls Try.prog 4 #[.string node, .string set, .int .i64 hd, .agg (L r0).toArray, .agg (L r1).toArray, .agg (L r2).toArray, .agg #[.int .u64 f0, .int .u64 f1], .int .i64 n, .int .u64 e, .agg (L r3).toArray] w
      fun x w' => x = .returned (.bool true) ∧ Below w.heap.size w w' := by
  obtain ⟨W, hW⟩ : ∃ W, W = (((((w.alloc (.cells (L r0).toArray 22)).alloc (.cells (L r1).toArray 22)).alloc (.cells (L r2).toArray 22)).alloc (.cells #[.int .u64 f0, .int .u64 f1] 24)).alloc (.cells (L r3).toArray 22)) := ⟨_, rfl⟩
  have HF : Hid (Five w W r0 r1 r2 r3 f0 f1) := by rw [hW]; exact Five.mk' HL w r0 r1 r2 r3 f0 f1
  have HW : Hid (W = (((((w.alloc (.cells (L r0).toArray 22)).alloc (.cells (L r1).toArray 22)).alloc (.cells (L r2).toArray 22)).alloc (.cells #[.int .u64 f0, .int .u64 f1] 24)).alloc (.cells (L r3).toArray 22))) := hW
  clear hW
  have q1 := L_equal HL
  go_enter Try.func4, Try.ntmps4
  go_upto_region 1 with fail
  rw [← HW.out]
  clear HW
  obtain ⟨c0, c1⟩ := And.intro HF.out.c0 HF.out.c1
  go_wp2_with (first | ((with_reducible refine D_load 31 HL (w.heap.size) 0 r0 ?_ ?_ ?_); rfl; exact HF.out.r0) | ((with_reducible refine D_load 32 HL (w.heap.size + 1) 0 r1 ?_ ?_ ?_); rfl; exact HF.out.r1) | ((with_reducible refine D_load 33 HL (w.heap.size + 1 + 1) 0 r2 ?_ ?_ ?_); rfl; exact HF.out.r2) | ((with_reducible refine D_load 37 HL (w.heap.size + 1 + 1 + 1 + 1) 0 r3 ?_ ?_ ?_); rfl; exact HF.out.r3))
  refine (bytes23_any HL node set hd r0 r1 r2 r3 f0 f1 n e W).mono ?_
  rintro x W1 ⟨t, rfl, hb, -⟩
  have HF1 : Hid (Five w W1 r0 r1 r2 r3 f0 f1) := HF.out.below hb
  clear hb HF c0 c1
  obtain ⟨c0, c1⟩ := And.intro HF1.out.c0 HF1.out.c1
  cases t
  · go_wp2_with fail
    go_ret
    exact ⟨rfl, HF1.out.bel⟩
  by_cases hn : (65536 : Int) < node.size
  · go_wp2_with fail
    all_goals (go_ret; exact ⟨rfl, HF1.out.bel⟩)
  by_cases hs : (65536 : Int) < set.size
  · go_wp2_with fail
    all_goals (go_ret; exact ⟨rfl, HF1.out.bel⟩)
  go_wp2_with (first | ((with_reducible refine D_load 50 HL (w.heap.size) 0 r0 ?_ ?_ ?_); rfl; exact HF1.out.r0) | ((with_reducible refine D_load 51 HL (w.heap.size + 1) 0 r1 ?_ ?_ ?_); rfl; exact HF1.out.r1) | ((with_reducible refine D_load 52 HL (w.heap.size + 1 + 1) 0 r2 ?_ ?_ ?_); rfl; exact HF1.out.r2))
  have hn' : node.size ≤ 65536 := by omega
  have hs' : set.size ≤ 65536 := by omega
  refine (reach_any HL node hd r0 r1 r2 f0 f1 n e W1 (Nat.le_trans hn' (by decide))).mono ?_
  rintro x W2 ⟨t, rfl, hb, ht⟩
  have HF2' : Hid (Five w W2 r0 r1 r2 r3 f0 f1) := HF1.out.below hb
  clear hb HF1 c0 c1 hn hs
  cases t
  · go_wp2_with fail
    go_ret
    exact ⟨rfl, HF2'.out.bel⟩
  have HT : Hid (0 ≤ hd ∧ hd ≤ 2 ∧ (hd ≠ 1 → eqF r0 (fun _ => 0) = true)) := ht rfl
  clear ht
  obtain ⟨V, hV⟩ : ∃ V, V = W2.alloc (.cells (L (fun _ => 0)).toArray 22) := ⟨_, rfl⟩
  have HZ : Hid (Regs V W2.heap.size 0 (fun _ => 0)) := by
    show Regs _ _ _ _
    rw [hV]; exact L_new HL W2 _ 22 rfl
  have HF2 : Hid (Five w V r0 r1 r2 r3 f0 f1) := by
    show Five _ _ _ _ _ _ _ _
    rw [hV]; exact HF2'.out.below ((Below.refl _ _).alloc (Nat.le_refl _) _)
  have HV : Hid (V = W2.alloc (.cells (L (fun _ => 0)).toArray 22)) := hV
  clear hV HF2'
  go_wp2_with (first | ((with_reducible refine D_alloc 21 HL ?_)))
  rw [← HV.out]
  clear HV
  refine wp_region_held_drew (S := fun w' => Below V.heap.size V w') (by kernel_rfl) ((Below.refl _ _).drew) (fun hHeld => ?_)
  refine H_move 0 58 (.string node) rfl (by kernel_rfl) (by kernel_rfl) (by kernel_rfl) (fun _ _ _ h => h) rfl rfl hHeld ?_
  try simp only [Act.put, List.setIfInBounds_toArray, List.set_cons_zero, List.set_cons_succ]
  refine H_move 1 59 (.string set) rfl (by kernel_rfl) (by kernel_rfl) (by kernel_rfl) (fun _ _ _ h => h) rfl rfl hHeld ?_
  try simp only [Act.put, List.setIfInBounds_toArray, List.set_cons_zero, List.set_cons_succ]
  refine H_move 2 60 (.string node) rfl (by kernel_rfl) (by kernel_rfl) (by kernel_rfl) (fun _ _ _ h => h) rfl rfl hHeld ?_
  try simp only [Act.put, List.setIfInBounds_toArray, List.set_cons_zero, List.set_cons_succ]
  refine H_move 3 61 (.string set) rfl (by kernel_rfl) (by kernel_rfl) (by kernel_rfl) (fun _ _ _ h => h) rfl rfl hHeld ?_
  try simp only [Act.put, List.setIfInBounds_toArray, List.set_cons_zero, List.set_cons_succ]
  refine H_move 5 63 (.int .i64 hd) rfl (by kernel_rfl) (by kernel_rfl) (by kernel_rfl) (fun _ _ _ h => h) rfl rfl hHeld ?_
  try simp only [Act.put, List.setIfInBounds_toArray, List.set_cons_zero, List.set_cons_succ]
  refine H_load 6 64 HL (w.heap.size) 0 r0 rfl (by kernel_rfl) (by kernel_rfl) (by kernel_rfl) (fun _ _ _ h => h) rfl rfl (fun w' k => (HF2.out.below k).r0) hHeld ?_
  try simp only [Act.put, List.setIfInBounds_toArray, List.set_cons_zero, List.set_cons_succ]
  refine H_load 7 65 HL (w.heap.size + 1) 0 r1 rfl (by kernel_rfl) (by kernel_rfl) (by kernel_rfl) (fun _ _ _ h => h) rfl rfl (fun w' k => (HF2.out.below k).r1) hHeld ?_
  try simp only [Act.put, List.setIfInBounds_toArray, List.set_cons_zero, List.set_cons_succ]
  refine H_load 8 66 HL (w.heap.size + 1 + 1) 0 r2 rfl (by kernel_rfl) (by kernel_rfl) (by kernel_rfl) (fun _ _ _ h => h) rfl rfl (fun w' k => (HF2.out.below k).r2) hHeld ?_
  try simp only [Act.put, List.setIfInBounds_toArray, List.set_cons_zero, List.set_cons_succ]
  refine H_load2 9 67 (w.heap.size + 1 + 1 + 1) 0 (.int .u64 f0) (.int .u64 f1) rfl (by kernel_rfl) (by kernel_rfl) (by kernel_rfl) (fun _ _ _ h => h) rfl rfl (fun w' k => ⟨(HF2.out.below k).c0, (HF2.out.below k).c1⟩) hHeld ?_
  try simp only [Act.put, List.setIfInBounds_toArray, List.set_cons_zero, List.set_cons_succ]
  refine H_move 10 68 (.int .i64 n) rfl (by kernel_rfl) (by kernel_rfl) (by kernel_rfl) (fun _ _ _ h => h) rfl rfl hHeld ?_
  try simp only [Act.put, List.setIfInBounds_toArray, List.set_cons_zero, List.set_cons_succ]
  refine H_move 11 69 (.int .u64 e) rfl (by kernel_rfl) (by kernel_rfl) (by kernel_rfl) (fun _ _ _ h => h) rfl rfl hHeld ?_
  try simp only [Act.put, List.setIfInBounds_toArray, List.set_cons_zero, List.set_cons_succ]
  refine wpAnyH_ready (rs := [4]) (by kernel_rfl) (by simp) ?_
  refine AllReadyH.cons rfl (fun K hK => ?_) AllReadyH.nil
  go_simp
  refine (zzRank_any node set _ (Nat.le_trans hn' (by decide)) (Nat.le_trans hs' (by decide))).mono ?_
  rintro x w' ⟨rfl, rfl⟩
  refine hK.out _ _ ((Below.refl _ _).drew) (fun hHeld => ?_)
  clear hK K
  try simp only [Act.put, List.setIfInBounds_toArray, List.set_cons_zero, List.set_cons_succ]
  refine wpAnyH_ready (rs := [12]) (by kernel_rfl) (by simp) ?_
  refine AllReadyH.cons rfl (fun K hK => ?_) AllReadyH.nil
  go_simp
  refine (newState_any HL ⟨node, set, rankF node.data.toList set.data.toList, hd, r0, ⟨r1, r2, f0, f1, n, e⟩⟩ _).mono ?_
  rintro x W3 ⟨B, rfl, hB, hSt, hb3⟩
  refine hK.out _ _ (((Below.refl _ _).drew).trans hb3) (fun hHeld => ?_)
  clear hK K
  try simp only [Act.put, List.setIfInBounds_toArray, List.set_cons_zero, List.set_cons_succ]
  refine H_assign 13 22 (.pointer (some ⟨B, 0, none⟩)) rfl (by kernel_rfl) (by kernel_rfl) (by kernel_rfl) (fun _ _ _ h => h) rfl rfl hHeld ?_
  try simp only [Act.put, List.setIfInBounds_toArray, List.set_cons_zero, List.set_cons_succ]
  refine wpAnyH_done (by kernel_rfl) ?_ _
  have HF3 : Hid (Five w W3 r0 r1 r2 r3 f0 f1) := HF2.out.below hHeld
  have HZ3 : Hid (Regs W3 W2.heap.size 0 (fun _ => 0)) := HZ.out.below hHeld
  have HS3 : Hid (StateAt W3 B ⟨node, set, rankF node.data.toList set.data.toList, hd, r0, ⟨r1, r2, f0, f1, n, e⟩⟩) := hSt
  have HN3 : Hid (B ≠ w.heap.size ∧ B ≠ w.heap.size + 1 + 1 + 1 + 1) := by
    have h1 := HF2.out.r0.lt
    have h2 := HF2.out.r3.lt
    have h3 : V.heap.size ≤ B := hB
    exact ⟨by omega, by omega⟩
  have HNB : Hid (B ≠ w.heap.size + 1 ∧ B ≠ w.heap.size + 1 + 1 ∧ B ≠ w.heap.size + 1 + 1 + 1) := by
    have h2 := HF2.out.r3.lt
    have h3 : V.heap.size ≤ B := hB
    exact ⟨by omega, by omega, by omega⟩
  have HBW : Hid (w.heap.size ≤ B) := Nat.le_trans HF2.out.bel.size hB
  clear hHeld hSt hB hb3 HF2 HZ
  go_wp2_with (first | ((with_reducible refine D_load 71 HL (w.heap.size + 1 + 1 + 1 + 1) 0 r3 ?_ ?_ ?_); rfl; exact HF3.out.r3))
  refine (newSketch_any HL r3 W3).mono ?_
  rintro x W5 ⟨C, rfl, hC, hr5, hb5⟩
  have HF5 : Hid (Five w W5 r0 r1 r2 r3 f0 f1) := HF3.out.below hb5
  have HZ5 : Hid (Regs W5 W2.heap.size 0 (fun _ => 0)) := HZ3.out.below hb5
  have HS5 : Hid (StateAt W5 B ⟨node, set, rankF node.data.toList set.data.toList, hd, r0, ⟨r1, r2, f0, f1, n, e⟩⟩) := HS3.out.below hb5
  have HC5 : Hid (Regs W5 C 0 r3) := hr5
  have HN5 : Hid (B ≠ C) := Nat.ne_of_lt (Nat.lt_of_lt_of_le HS3.out.rg.lt hC)
  clear hb5 hr5 hC HF3 HS3 HZ3
  by_cases h2 : hd = 2
  · subst h2
    have HE : Hid (eqF r0 (fun _ => 0) = true) := HT.out.2.2 (by decide)
    go_wp2_with fail
    refine (holdsTomb_yes B W5 HS5.out.holds).mono ?_
    rintro x w' ⟨rfl, hw⟩
    rw [hw]
    clear hw w'
    go_wp2_with fail
    refine (recv_no B _ W5 HS5.out.holds).mono ?_
    rintro x w' ⟨rfl, hw⟩
    rw [hw]
    clear hw w'
    go_wp2_with fail
    refine (holdsTomb_yes B W5 HS5.out.holds).mono ?_
    rintro x w' ⟨rfl, hw⟩
    rw [hw]
    clear hw w'
    go_wp2_with fail
    refine wp_region_held_drew (S := fun w' => Below W5.heap.size W5 w') (by kernel_rfl) ((Below.refl _ _).drew) (fun hHeld => ?_)
    refine H_move 0 80 (.pointer (some ⟨C, 0, none⟩)) rfl (by kernel_rfl) (by kernel_rfl) (by kernel_rfl) (fun _ _ _ h => h) rfl rfl hHeld ?_
    try simp only [Act.put, List.setIfInBounds_toArray, List.set_cons_zero, List.set_cons_succ]
    refine H_load 2 82 HL (w.heap.size + 1 + 1 + 1 + 1) 0 r3 rfl (by kernel_rfl) (by kernel_rfl) (by kernel_rfl) (fun _ _ _ h => h) rfl rfl (fun w' k => HF5.out.r3.below k) hHeld ?_
    try simp only [Act.put, List.setIfInBounds_toArray, List.set_cons_zero, List.set_cons_succ]
    refine wpAnyH_ready (rs := [1]) (by kernel_rfl) (by simp) ?_
    refine AllReadyH.cons rfl (fun K hK => ?_) AllReadyH.nil
    go_simp
    refine (sketchReg_any HL C 0 r3 _ (HC5.out.below hHeld)).mono ?_
    rintro x W6 ⟨rfl, hb6⟩
    refine hK.out _ _ (hHeld.trans (hb6.mono hHeld.size)) (fun hHeld => ?_)
    clear hK K
    try simp only [Act.put, List.setIfInBounds_toArray, List.set_cons_zero, List.set_cons_succ]
    refine H_take 3 83 (.bool false) rfl rfl (by kernel_rfl) (by kernel_rfl) (by kernel_rfl) (fun _ _ _ h => h) rfl ?_ hHeld ?_
    · intro w' _; have := eqF_refl r3; go_simp
    try simp only [Act.put, List.setIfInBounds_toArray, List.set_cons_zero, List.set_cons_succ]
    refine H_move 4 84 (.bool false) rfl (by kernel_rfl) (by kernel_rfl) (by kernel_rfl) (fun _ _ _ h => h) rfl rfl hHeld ?_
    try simp only [Act.put, List.setIfInBounds_toArray, List.set_cons_zero, List.set_cons_succ]
    refine H_move 5 85 (.pointer (some ⟨B, 0, none⟩)) rfl (by kernel_rfl) (by kernel_rfl) (by kernel_rfl) (fun _ _ _ h => h) rfl rfl hHeld ?_
    try simp only [Act.put, List.setIfInBounds_toArray, List.set_cons_zero, List.set_cons_succ]
    refine H_load 7 87 HL (w.heap.size + 1) 0 r1 rfl (by kernel_rfl) (by kernel_rfl) (by kernel_rfl) (fun _ _ _ h => h) rfl rfl (fun w' k => HF5.out.r1.below k) hHeld ?_
    try simp only [Act.put, List.setIfInBounds_toArray, List.set_cons_zero, List.set_cons_succ]
    refine H_load 8 88 HL (w.heap.size + 1 + 1) 0 r2 rfl (by kernel_rfl) (by kernel_rfl) (by kernel_rfl) (fun _ _ _ h => h) rfl rfl (fun w' k => HF5.out.r2.below k) hHeld ?_
    try simp only [Act.put, List.setIfInBounds_toArray, List.set_cons_zero, List.set_cons_succ]
    refine H_load2 9 89 (w.heap.size + 1 + 1 + 1) 0 (.int .u64 f0) (.int .u64 f1) rfl (by kernel_rfl) (by kernel_rfl) (by kernel_rfl) (fun _ _ _ h => h) rfl rfl (fun w' k => ⟨cell_below (And.intro HF5.out.c0 HF5.out.c1).1 k, cell_below (And.intro HF5.out.c0 HF5.out.c1).2 k⟩) hHeld ?_
    try simp only [Act.put, List.setIfInBounds_toArray, List.set_cons_zero, List.set_cons_succ]
    refine H_move 10 90 (.int .i64 n) rfl (by kernel_rfl) (by kernel_rfl) (by kernel_rfl) (fun _ _ _ h => h) rfl rfl hHeld ?_
    try simp only [Act.put, List.setIfInBounds_toArray, List.set_cons_zero, List.set_cons_succ]
    refine H_move 11 91 (.int .u64 e) rfl (by kernel_rfl) (by kernel_rfl) (by kernel_rfl) (fun _ _ _ h => h) rfl rfl hHeld ?_
    try simp only [Act.put, List.setIfInBounds_toArray, List.set_cons_zero, List.set_cons_succ]
    refine wpAnyH_ready (rs := [6]) (by kernel_rfl) (by simp) ?_
    refine AllReadyH.cons rfl (fun K hK => ?_) AllReadyH.nil
    go_simp
    refine (stateTomb_any B _).mono ?_
    rintro x w' ⟨rfl, hw⟩
    rw [hw]
    clear hw w'
    refine hK.out _ _ (hHeld) (fun hHeld => ?_)
    clear hK K
    try simp only [Act.put, List.setIfInBounds_toArray, List.set_cons_zero, List.set_cons_succ]
    refine wpAnyH_ready (rs := [12]) (by kernel_rfl) (by simp) ?_
    refine AllReadyH.cons rfl (fun K hK => ?_) AllReadyH.nil
    go_simp
    refine (tombIs_any HL B 1028 ⟨r1, r2, f0, f1, n, e⟩ _ (HS5.out.tb.below hHeld)).mono ?_
    rintro x W7 ⟨rfl, hb7⟩
    refine hK.out _ _ (hHeld.trans (hb7.mono hHeld.size)) (fun hHeld => ?_)
    clear hK K
    try simp only [Act.put, List.setIfInBounds_toArray, List.set_cons_zero, List.set_cons_succ]
    refine H_take 13 93 (.bool false) rfl rfl (by kernel_rfl) (by kernel_rfl) (by kernel_rfl) (fun _ _ _ h => h) rfl ?_ hHeld ?_
    · intro w' _; go_simp
    try simp only [Act.put, List.setIfInBounds_toArray, List.set_cons_zero, List.set_cons_succ]
    refine H_take 14 94 (.bool false) rfl rfl (by kernel_rfl) (by kernel_rfl) (by kernel_rfl) (fun _ _ _ h => h) rfl ?_ hHeld ?_
    · intro w' _; go_simp
    try simp only [Act.put, List.setIfInBounds_toArray, List.set_cons_zero, List.set_cons_succ]
    refine wpAnyH_done (by kernel_rfl) ?_ _
    have HF7 : Hid (Five w W7 r0 r1 r2 r3 f0 f1) := HF5.out.below hHeld
    have HZ7 : Hid (Regs W7 W2.heap.size 0 (fun _ => 0)) := HZ5.out.below hHeld
    have HS7 : Hid (StateAt W7 B ⟨node, set, rankF node.data.toList set.data.toList, 2, r0, ⟨r1, r2, f0, f1, n, e⟩⟩) := HS5.out.below hHeld
    clear hHeld hb6 hb7 HF5 HZ5 HS5 HC5
    go_wp2_with fail
    refine wp_region_held_drew (S := fun w' => Below W7.heap.size W7 w') (by kernel_rfl) ((Below.refl _ _).drew) (fun hHeld => ?_)
    refine H_move 0 97 (.bool true) rfl (by kernel_rfl) (by kernel_rfl) (by kernel_rfl) (fun _ _ _ h => h) rfl rfl hHeld ?_
    try simp only [Act.put, List.setIfInBounds_toArray, List.set_cons_zero, List.set_cons_succ]
    refine H_move 1 98 (.bool true) rfl (by kernel_rfl) (by kernel_rfl) (by kernel_rfl) (fun _ _ _ h => h) rfl rfl hHeld ?_
    try simp only [Act.put, List.setIfInBounds_toArray, List.set_cons_zero, List.set_cons_succ]
    refine H_move 2 99 (.bool true) rfl (by kernel_rfl) (by kernel_rfl) (by kernel_rfl) (fun _ _ _ h => h) rfl rfl hHeld ?_
    try simp only [Act.put, List.setIfInBounds_toArray, List.set_cons_zero, List.set_cons_succ]
    refine H_take 3 100 (.bool true) rfl rfl (by kernel_rfl) (by kernel_rfl) (by kernel_rfl) (fun _ _ _ h => h) rfl ?_ hHeld ?_
    · intro w' _; go_simp
    try simp only [Act.put, List.setIfInBounds_toArray, List.set_cons_zero, List.set_cons_succ]
    refine H_move 4 101 (.bool true) rfl (by kernel_rfl) (by kernel_rfl) (by kernel_rfl) (fun _ _ _ h => h) rfl rfl hHeld ?_
    try simp only [Act.put, List.setIfInBounds_toArray, List.set_cons_zero, List.set_cons_succ]
    refine H_move 5 102 (.bool false) rfl (by kernel_rfl) (by kernel_rfl) (by kernel_rfl) (fun _ _ _ h => h) rfl rfl hHeld ?_
    try simp only [Act.put, List.setIfInBounds_toArray, List.set_cons_zero, List.set_cons_succ]
    refine H_take 6 103 (.bool true) rfl rfl (by kernel_rfl) (by kernel_rfl) (by kernel_rfl) (fun _ _ _ h => h) rfl ?_ hHeld ?_
    · intro w' _; go_simp
    try simp only [Act.put, List.setIfInBounds_toArray, List.set_cons_zero, List.set_cons_succ]
    refine H_take 7 104 (.bool true) rfl rfl (by kernel_rfl) (by kernel_rfl) (by kernel_rfl) (fun _ _ _ h => h) rfl ?_ hHeld ?_
    · intro w' _; go_simp
    try simp only [Act.put, List.setIfInBounds_toArray, List.set_cons_zero, List.set_cons_succ]
    refine H_move 8 105 (.bool true) rfl (by kernel_rfl) (by kernel_rfl) (by kernel_rfl) (fun _ _ _ h => h) rfl rfl hHeld ?_
    try simp only [Act.put, List.setIfInBounds_toArray, List.set_cons_zero, List.set_cons_succ]
    refine H_move 9 106 (.pointer (some ⟨B, 0, none⟩)) rfl (by kernel_rfl) (by kernel_rfl) (by kernel_rfl) (fun _ _ _ h => h) rfl rfl hHeld ?_
    try simp only [Act.put, List.setIfInBounds_toArray, List.set_cons_zero, List.set_cons_succ]
    refine wpAnyH_ready (rs := [10]) (by kernel_rfl) (by simp) ?_
    refine AllReadyH.cons rfl (fun K hK => ?_) AllReadyH.nil
    go_simp
    refine (stateHolds_any B 2 _ (HS7.out.below hHeld).holds (by decide) (by decide)).mono ?_
    rintro x w' ⟨rfl, hw⟩
    rw [hw]
    clear hw w'
    refine hK.out _ _ (hHeld) (fun hHeld => ?_)
    clear hK K
    try simp only [Act.put, List.setIfInBounds_toArray, List.set_cons_zero, List.set_cons_succ]
    refine H_take 11 108 (.bool true) rfl rfl (by kernel_rfl) (by kernel_rfl) (by kernel_rfl) (fun _ _ _ h => h) rfl ?_ hHeld ?_
    · intro w' _; go_simp
    try simp only [Act.put, List.setIfInBounds_toArray, List.set_cons_zero, List.set_cons_succ]
    refine H_take 12 109 (.bool true) rfl rfl (by kernel_rfl) (by kernel_rfl) (by kernel_rfl) (fun _ _ _ h => h) rfl ?_ hHeld ?_
    · intro w' _; go_simp
    try simp only [Act.put, List.setIfInBounds_toArray, List.set_cons_zero, List.set_cons_succ]
    refine H_move 13 110 (.bool true) rfl (by kernel_rfl) (by kernel_rfl) (by kernel_rfl) (fun _ _ _ h => h) rfl rfl hHeld ?_
    try simp only [Act.put, List.setIfInBounds_toArray, List.set_cons_zero, List.set_cons_succ]
    refine H_move 14 111 (.pointer (some ⟨B, 0, none⟩)) rfl (by kernel_rfl) (by kernel_rfl) (by kernel_rfl) (fun _ _ _ h => h) rfl rfl hHeld ?_
    try simp only [Act.put, List.setIfInBounds_toArray, List.set_cons_zero, List.set_cons_succ]
    refine H_load 16 113 HL (W2.heap.size) 0 (fun _ => 0) rfl (by kernel_rfl) (by kernel_rfl) (by kernel_rfl) (fun _ _ _ h => h) rfl rfl (fun w' k => HZ7.out.below k) hHeld ?_
    try simp only [Act.put, List.setIfInBounds_toArray, List.set_cons_zero, List.set_cons_succ]
    refine wpAnyH_ready (rs := [15]) (by kernel_rfl) (by simp) ?_
    refine AllReadyH.cons rfl (fun K hK => ?_) AllReadyH.nil
    go_simp
    refine (stateRecord_any HL B r0 _ (HS7.out.below hHeld).rg).mono ?_
    rintro x W8 ⟨rfl, hb8⟩
    refine hK.out _ _ (hHeld.trans (hb8.mono hHeld.size)) (fun hHeld => ?_)
    clear hK K
    try simp only [Act.put, List.setIfInBounds_toArray, List.set_cons_zero, List.set_cons_succ]
    refine H_take 17 114 (.bool true) rfl rfl (by kernel_rfl) (by kernel_rfl) (by kernel_rfl) (fun _ _ _ h => h) rfl ?_ hHeld ?_
    · intro w' _; have := HE.out; go_simp
    try simp only [Act.put, List.setIfInBounds_toArray, List.set_cons_zero, List.set_cons_succ]
    refine H_take 18 115 (.bool true) rfl rfl (by kernel_rfl) (by kernel_rfl) (by kernel_rfl) (fun _ _ _ h => h) rfl ?_ hHeld ?_
    · intro w' _; go_simp
    try simp only [Act.put, List.setIfInBounds_toArray, List.set_cons_zero, List.set_cons_succ]
    refine H_assign 19 20 (.bool true) rfl (by kernel_rfl) (by kernel_rfl) (by kernel_rfl) (fun _ _ _ h => h) rfl rfl hHeld ?_
    try simp only [Act.put, List.setIfInBounds_toArray, List.set_cons_zero, List.set_cons_succ]
    refine wpAnyH_done (by kernel_rfl) ?_ _
    have HX : Hid (Below w.heap.size w W8) := HF7.out.bel.trans (hHeld.mono HF7.out.bel.size)
    go_wp2_with fail
    go_ret
    exact ⟨rfl, HX.out⟩
  · have h2' : (hd == 2) = false := by simpa using h2
    go_wp2_with fail
    refine (holdsTomb_no B hd W5 HS5.out.holds h2').mono ?_
    rintro x w' ⟨rfl, hw⟩
    rw [hw]
    clear hw w'
    go_wp2_with fail
    refine (recv_yes HL B C ⟨node, set, rankF node.data.toList set.data.toList, hd, r0, ⟨r1, r2, f0, f1, n, e⟩⟩ r3 W5 HN5.out HS5 HC5 h2' (Nat.le_trans hn' (by decide))).mono ?_
    rintro x W6 ⟨rfl, hs6, ho6⟩
    have HS6 : Hid (StateAt W6 B (takeIn ⟨node, set, rankF node.data.toList set.data.toList, hd, r0, ⟨r1, r2, f0, f1, n, e⟩⟩ r3)) := hs6
    have HR0 : Hid (Regs W6 (w.heap.size) 0 r0) := HF5.out.r0.only HF5.out.r0.lt ho6 (.inl (Ne.symm HN3.out.1))
    have HR1 : Hid (Regs W6 (w.heap.size + 1) 0 r1) := HF5.out.r1.only HF5.out.r1.lt ho6 (.inl (Ne.symm HNB.out.1))
    have HR2 : Hid (Regs W6 (w.heap.size + 1 + 1) 0 r2) := HF5.out.r2.only HF5.out.r2.lt ho6 (.inl (Ne.symm HNB.out.2.1))
    have HR3 : Hid (Regs W6 (w.heap.size + 1 + 1 + 1 + 1) 0 r3) := HF5.out.r3.only HF5.out.r3.lt ho6 (.inl (Ne.symm HN3.out.2))
    have HRC : Hid (W6.cell? ⟨w.heap.size + 1 + 1 + 1, 0, none⟩ = some (.int .u64 f0) ∧ W6.cell? ⟨w.heap.size + 1 + 1 + 1, 1, none⟩ = some (.int .u64 f1)) := ⟨cell_only HF5.out.c0 ho6 (.inl (Ne.symm HNB.out.2.2)), cell_only HF5.out.c1 ho6 (.inl (Ne.symm HNB.out.2.2))⟩
    have HC6 : Hid (Regs W6 C 0 r3) := HC5.out.only HC5.out.lt ho6 (.inl (Ne.symm HN5.out))
    have HE6 : Hid (Below w.heap.size w W6) := HF5.out.bel.trans (ho6.below HBW.out HF5.out.bel.size)
    clear hs6 ho6 HF5 HS5 HC5 HZ5
    go_wp2_with fail
    refine (holdsTomb_no B 1 W6 HS6.out.holds (by decide)).mono ?_
    rintro x w' ⟨rfl, hw⟩
    rw [hw]
    clear hw w'
    go_wp2_with fail
    refine wp_region_held_drew (S := fun w' => Below W6.heap.size W6 w') (by kernel_rfl) ((Below.refl _ _).drew) (fun hHeld => ?_)
    refine H_move 0 80 (.pointer (some ⟨C, 0, none⟩)) rfl (by kernel_rfl) (by kernel_rfl) (by kernel_rfl) (fun _ _ _ h => h) rfl rfl hHeld ?_
    try simp only [Act.put, List.setIfInBounds_toArray, List.set_cons_zero, List.set_cons_succ]
    refine H_load 2 82 HL (w.heap.size + 1 + 1 + 1 + 1) 0 r3 rfl (by kernel_rfl) (by kernel_rfl) (by kernel_rfl) (fun _ _ _ h => h) rfl rfl (fun w' k => HR3.out.below k) hHeld ?_
    try simp only [Act.put, List.setIfInBounds_toArray, List.set_cons_zero, List.set_cons_succ]
    refine wpAnyH_ready (rs := [1]) (by kernel_rfl) (by simp) ?_
    refine AllReadyH.cons rfl (fun K hK => ?_) AllReadyH.nil
    go_simp
    refine (sketchReg_any HL C 0 r3 _ (HC6.out.below hHeld)).mono ?_
    rintro x Wk ⟨rfl, hb6⟩
    refine hK.out _ _ (hHeld.trans (hb6.mono hHeld.size)) (fun hHeld => ?_)
    clear hK K
    try simp only [Act.put, List.setIfInBounds_toArray, List.set_cons_zero, List.set_cons_succ]
    refine H_take 3 83 (.bool false) rfl rfl (by kernel_rfl) (by kernel_rfl) (by kernel_rfl) (fun _ _ _ h => h) rfl ?_ hHeld ?_
    · intro w' _; have := eqF_refl r3; go_simp
    try simp only [Act.put, List.setIfInBounds_toArray, List.set_cons_zero, List.set_cons_succ]
    refine H_move 4 84 (.bool false) rfl (by kernel_rfl) (by kernel_rfl) (by kernel_rfl) (fun _ _ _ h => h) rfl rfl hHeld ?_
    try simp only [Act.put, List.setIfInBounds_toArray, List.set_cons_zero, List.set_cons_succ]
    refine H_move 5 85 (.pointer (some ⟨B, 0, none⟩)) rfl (by kernel_rfl) (by kernel_rfl) (by kernel_rfl) (fun _ _ _ h => h) rfl rfl hHeld ?_
    try simp only [Act.put, List.setIfInBounds_toArray, List.set_cons_zero, List.set_cons_succ]
    refine H_load 7 87 HL (w.heap.size + 1) 0 r1 rfl (by kernel_rfl) (by kernel_rfl) (by kernel_rfl) (fun _ _ _ h => h) rfl rfl (fun w' k => HR1.out.below k) hHeld ?_
    try simp only [Act.put, List.setIfInBounds_toArray, List.set_cons_zero, List.set_cons_succ]
    refine H_load 8 88 HL (w.heap.size + 1 + 1) 0 r2 rfl (by kernel_rfl) (by kernel_rfl) (by kernel_rfl) (fun _ _ _ h => h) rfl rfl (fun w' k => HR2.out.below k) hHeld ?_
    try simp only [Act.put, List.setIfInBounds_toArray, List.set_cons_zero, List.set_cons_succ]
    refine H_load2 9 89 (w.heap.size + 1 + 1 + 1) 0 (.int .u64 f0) (.int .u64 f1) rfl (by kernel_rfl) (by kernel_rfl) (by kernel_rfl) (fun _ _ _ h => h) rfl rfl (fun w' k => ⟨cell_below HRC.out.1 k, cell_below HRC.out.2 k⟩) hHeld ?_
    try simp only [Act.put, List.setIfInBounds_toArray, List.set_cons_zero, List.set_cons_succ]
    refine H_move 10 90 (.int .i64 n) rfl (by kernel_rfl) (by kernel_rfl) (by kernel_rfl) (fun _ _ _ h => h) rfl rfl hHeld ?_
    try simp only [Act.put, List.setIfInBounds_toArray, List.set_cons_zero, List.set_cons_succ]
    refine H_move 11 91 (.int .u64 e) rfl (by kernel_rfl) (by kernel_rfl) (by kernel_rfl) (fun _ _ _ h => h) rfl rfl hHeld ?_
    try simp only [Act.put, List.setIfInBounds_toArray, List.set_cons_zero, List.set_cons_succ]
    refine wpAnyH_ready (rs := [6]) (by kernel_rfl) (by simp) ?_
    refine AllReadyH.cons rfl (fun K hK => ?_) AllReadyH.nil
    go_simp
    refine (stateTomb_any B _).mono ?_
    rintro x w' ⟨rfl, hw⟩
    rw [hw]
    clear hw w'
    refine hK.out _ _ (hHeld) (fun hHeld => ?_)
    clear hK K
    try simp only [Act.put, List.setIfInBounds_toArray, List.set_cons_zero, List.set_cons_succ]
    refine wpAnyH_ready (rs := [12]) (by kernel_rfl) (by simp) ?_
    refine AllReadyH.cons rfl (fun K hK => ?_) AllReadyH.nil
    go_simp
    refine (tombIs_any HL B 1028 ⟨r1, r2, f0, f1, n, e⟩ _ (HS6.out.tb.below hHeld)).mono ?_
    rintro x W7 ⟨rfl, hb7⟩
    refine hK.out _ _ (hHeld.trans (hb7.mono hHeld.size)) (fun hHeld => ?_)
    clear hK K
    try simp only [Act.put, List.setIfInBounds_toArray, List.set_cons_zero, List.set_cons_succ]
    refine H_take 13 93 (.bool false) rfl rfl (by kernel_rfl) (by kernel_rfl) (by kernel_rfl) (fun _ _ _ h => h) rfl ?_ hHeld ?_
    · intro w' _; go_simp
    try simp only [Act.put, List.setIfInBounds_toArray, List.set_cons_zero, List.set_cons_succ]
    refine H_take 14 94 (.bool false) rfl rfl (by kernel_rfl) (by kernel_rfl) (by kernel_rfl) (fun _ _ _ h => h) rfl ?_ hHeld ?_
    · intro w' _; go_simp
    try simp only [Act.put, List.setIfInBounds_toArray, List.set_cons_zero, List.set_cons_succ]
    refine wpAnyH_done (by kernel_rfl) ?_ _
    have HS7 : Hid (StateAt W7 B (takeIn ⟨node, set, rankF node.data.toList set.data.toList, hd, r0, ⟨r1, r2, f0, f1, n, e⟩⟩ r3)) := HS6.out.below hHeld
    have HA0 : Hid (Regs W7 (w.heap.size) 0 r0) := HR0.out.below hHeld
    have HA3 : Hid (Regs W7 (w.heap.size + 1 + 1 + 1 + 1) 0 r3) := HR3.out.below hHeld
    have HE7 : Hid (Below w.heap.size w W7) := HE6.out.trans (hHeld.mono HE6.out.size)
    clear hHeld hb6 hb7 HR0 HR1 HR2 HR3 HRC HC6 HS6 HE6
    go_wp2_with (first | ((with_reducible refine D_load 116 HL (w.heap.size) 0 r0 ?_ ?_ ?_); rfl; exact HA0.out) | ((with_reducible refine D_load 117 HL (w.heap.size + 1 + 1 + 1 + 1) 0 r3 ?_ ?_ ?_); rfl; exact HA3.out))
    refine (zzMax_any HL r0 r3 W7).mono ?_
    rintro x W8 ⟨rfl, hb8⟩
    have HS8 : Hid (StateAt W8 B (takeIn ⟨node, set, rankF node.data.toList set.data.toList, hd, r0, ⟨r1, r2, f0, f1, n, e⟩⟩ r3)) := HS7.out.below hb8
    have HE8 : Hid (Below w.heap.size w W8) := HE7.out.trans (hb8.mono HE7.out.size)
    clear hb8 HA0 HA3 HS7 HE7
    obtain ⟨M, hM⟩ : ∃ M, M = maxF r0 r3 := ⟨_, rfl⟩
    rw [← hM]
    have HM : Hid (M = maxF r0 r3) := hM
    clear hM
    go_wp2_with (first | ((with_reducible refine D_alloc 27 HL ?_)) | ((with_reducible refine D_store 27 118 HL W8.heap.size 0 M (fun _ => 0) ?_ ?_ ?_ ?_); rfl; rfl; exact L_new HL W8 _ 22 rfl; intro W9 hr9 ho9))
    have hb9 : Below W8.heap.size W8 W9 := ((Below.refl _ _).alloc (Nat.le_refl _) _).trans (ho9.below (Nat.le_refl _) (by simp))
    have HS9 : Hid (StateAt W9 B (takeIn ⟨node, set, rankF node.data.toList set.data.toList, hd, r0, ⟨r1, r2, f0, f1, n, e⟩⟩ r3)) := HS8.out.below hb9
    have HE9 : Hid (Below w.heap.size w W9) := HE8.out.trans (hb9.mono HE8.out.size)
    have HN9 : Hid (B ≠ W8.heap.size ∧ w.heap.size ≤ W8.heap.size) := ⟨Nat.ne_of_lt HS8.out.rg.lt, HE8.out.size⟩
    refine (zzAdd_any W8.heap.size 0 node M W9 (Nat.le_trans hn' (by decide)) hr9).mono ?_
    rintro x X ⟨rfl, hrX, hoX⟩
    have HSX : Hid (StateAt X B (takeIn ⟨node, set, rankF node.data.toList set.data.toList, hd, r0, ⟨r1, r2, f0, f1, n, e⟩⟩ r3)) := HS9.out.other hoX HN9.out.1
    have HEX : Hid (Below w.heap.size w X) := HE9.out.trans (hoX.below HN9.out.2 HE9.out.size)
    obtain ⟨Z, hZ⟩ : ∃ Z, Z = addF M node.data.toList := ⟨_, rfl⟩
    rw [← hZ] at hrX
    have HRX : Hid (Regs X W8.heap.size 0 Z) := hrX
    have HGX : Hid (Regs X B 4 Z) := by
      have := HSX.out.rg
      rw [hZ, HM.out]
      exact this
    have HHX : Hid (X.cell? ⟨B, 3, none⟩ = some (.int .i64 1)) := HSX.out.holds
    clear hrX hoX hr9 ho9 hb9 HS9 HE9 HS8 HE8 hZ HM HSX
    go_wp2_with fail
    refine wp_region_held_drew (S := fun w' => Below X.heap.size X w') (by kernel_rfl) ((Below.refl _ _).drew) (fun hHeld => ?_)
    refine H_move 0 121 (.bool false) rfl (by kernel_rfl) (by kernel_rfl) (by kernel_rfl) (fun _ _ _ h => h) rfl rfl hHeld ?_
    try simp only [Act.put, List.setIfInBounds_toArray, List.set_cons_zero, List.set_cons_succ]
    refine H_take 1 122 (.bool true) rfl rfl (by kernel_rfl) (by kernel_rfl) (by kernel_rfl) (fun _ _ _ h => h) rfl ?_ hHeld ?_
    · intro w' _; go_simp
    try simp only [Act.put, List.setIfInBounds_toArray, List.set_cons_zero, List.set_cons_succ]
    refine H_move 2 123 (.bool true) rfl (by kernel_rfl) (by kernel_rfl) (by kernel_rfl) (fun _ _ _ h => h) rfl rfl hHeld ?_
    try simp only [Act.put, List.setIfInBounds_toArray, List.set_cons_zero, List.set_cons_succ]
    refine H_move 3 124 (.bool false) rfl (by kernel_rfl) (by kernel_rfl) (by kernel_rfl) (fun _ _ _ h => h) rfl rfl hHeld ?_
    try simp only [Act.put, List.setIfInBounds_toArray, List.set_cons_zero, List.set_cons_succ]
    refine H_take 4 125 (.bool true) rfl rfl (by kernel_rfl) (by kernel_rfl) (by kernel_rfl) (fun _ _ _ h => h) rfl ?_ hHeld ?_
    · intro w' _; go_simp
    try simp only [Act.put, List.setIfInBounds_toArray, List.set_cons_zero, List.set_cons_succ]
    refine H_take 5 126 (.bool true) rfl rfl (by kernel_rfl) (by kernel_rfl) (by kernel_rfl) (fun _ _ _ h => h) rfl ?_ hHeld ?_
    · intro w' _; go_simp
    try simp only [Act.put, List.setIfInBounds_toArray, List.set_cons_zero, List.set_cons_succ]
    refine H_move 6 127 (.bool true) rfl (by kernel_rfl) (by kernel_rfl) (by kernel_rfl) (fun _ _ _ h => h) rfl rfl hHeld ?_
    try simp only [Act.put, List.setIfInBounds_toArray, List.set_cons_zero, List.set_cons_succ]
    refine H_move 7 128 (.bool true) rfl (by kernel_rfl) (by kernel_rfl) (by kernel_rfl) (fun _ _ _ h => h) rfl rfl hHeld ?_
    try simp only [Act.put, List.setIfInBounds_toArray, List.set_cons_zero, List.set_cons_succ]
    refine H_take 8 129 (.bool true) rfl rfl (by kernel_rfl) (by kernel_rfl) (by kernel_rfl) (fun _ _ _ h => h) rfl ?_ hHeld ?_
    · intro w' _; go_simp
    try simp only [Act.put, List.setIfInBounds_toArray, List.set_cons_zero, List.set_cons_succ]
    refine H_move 9 130 (.bool true) rfl (by kernel_rfl) (by kernel_rfl) (by kernel_rfl) (fun _ _ _ h => h) rfl rfl hHeld ?_
    try simp only [Act.put, List.setIfInBounds_toArray, List.set_cons_zero, List.set_cons_succ]
    refine H_move 10 131 (.pointer (some ⟨B, 0, none⟩)) rfl (by kernel_rfl) (by kernel_rfl) (by kernel_rfl) (fun _ _ _ h => h) rfl rfl hHeld ?_
    try simp only [Act.put, List.setIfInBounds_toArray, List.set_cons_zero, List.set_cons_succ]
    refine wpAnyH_ready (rs := [11]) (by kernel_rfl) (by simp) ?_
    refine AllReadyH.cons rfl (fun K hK => ?_) AllReadyH.nil
    go_simp
    refine (stateHolds_any B 1 _ (cell_below HHX.out hHeld) (by decide) (by decide)).mono ?_
    rintro x w' ⟨rfl, hw⟩
    rw [hw]
    clear hw w'
    refine hK.out _ _ (hHeld) (fun hHeld => ?_)
    clear hK K
    try simp only [Act.put, List.setIfInBounds_toArray, List.set_cons_zero, List.set_cons_succ]
    refine H_take 12 133 (.bool true) rfl rfl (by kernel_rfl) (by kernel_rfl) (by kernel_rfl) (fun _ _ _ h => h) rfl ?_ hHeld ?_
    · intro w' _; go_simp
    try simp only [Act.put, List.setIfInBounds_toArray, List.set_cons_zero, List.set_cons_succ]
    refine H_take 13 134 (.bool true) rfl rfl (by kernel_rfl) (by kernel_rfl) (by kernel_rfl) (fun _ _ _ h => h) rfl ?_ hHeld ?_
    · intro w' _; go_simp
    try simp only [Act.put, List.setIfInBounds_toArray, List.set_cons_zero, List.set_cons_succ]
    refine H_move 14 135 (.bool true) rfl (by kernel_rfl) (by kernel_rfl) (by kernel_rfl) (fun _ _ _ h => h) rfl rfl hHeld ?_
    try simp only [Act.put, List.setIfInBounds_toArray, List.set_cons_zero, List.set_cons_succ]
    refine H_move 15 136 (.pointer (some ⟨B, 0, none⟩)) rfl (by kernel_rfl) (by kernel_rfl) (by kernel_rfl) (fun _ _ _ h => h) rfl rfl hHeld ?_
    try simp only [Act.put, List.setIfInBounds_toArray, List.set_cons_zero, List.set_cons_succ]
    refine H_load 17 138 HL (W8.heap.size) 0 Z rfl (by kernel_rfl) (by kernel_rfl) (by kernel_rfl) (fun _ _ _ h => h) rfl rfl (fun w' k => HRX.out.below k) hHeld ?_
    try simp only [Act.put, List.setIfInBounds_toArray, List.set_cons_zero, List.set_cons_succ]
    refine wpAnyH_ready (rs := [16]) (by kernel_rfl) (by simp) ?_
    refine AllReadyH.cons rfl (fun K hK => ?_) AllReadyH.nil
    go_simp
    refine (stateRecord_any HL B Z _ (HGX.out.below hHeld)).mono ?_
    rintro x Y ⟨rfl, hbY⟩
    refine hK.out _ _ (hHeld.trans (hbY.mono hHeld.size)) (fun hHeld => ?_)
    clear hK K
    try simp only [Act.put, List.setIfInBounds_toArray, List.set_cons_zero, List.set_cons_succ]
    refine H_take 18 139 (.bool true) rfl rfl (by kernel_rfl) (by kernel_rfl) (by kernel_rfl) (fun _ _ _ h => h) rfl ?_ hHeld ?_
    · intro w' _; have := eqF_refl Z; go_simp
    try simp only [Act.put, List.setIfInBounds_toArray, List.set_cons_zero, List.set_cons_succ]
    refine H_take 19 140 (.bool true) rfl rfl (by kernel_rfl) (by kernel_rfl) (by kernel_rfl) (fun _ _ _ h => h) rfl ?_ hHeld ?_
    · intro w' _; go_simp
    try simp only [Act.put, List.setIfInBounds_toArray, List.set_cons_zero, List.set_cons_succ]
    refine H_assign 20 20 (.bool true) rfl (by kernel_rfl) (by kernel_rfl) (by kernel_rfl) (fun _ _ _ h => h) rfl rfl hHeld ?_
    try simp only [Act.put, List.setIfInBounds_toArray, List.set_cons_zero, List.set_cons_succ]
    refine wpAnyH_done (by kernel_rfl) ?_ _
    have HX : Hid (Below w.heap.size w Y) := HEX.out.trans (hHeld.mono HEX.out.size)
    go_wp2_with fail
    go_ret
    exact ⟨rfl, HX.out⟩
end Go.Proofs.Qxb6612204a
