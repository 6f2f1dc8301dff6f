import Derived.Test.Qxb6612204aSh5
namespace Go.Proofs.Qxb6612204a
open Go.RowKit

set_option maxHeartbeats 1000000 in
set_option maxRecDepth 100000 in
theorem bytes8_any {L : (Nat → Int) → List Value} (HL : IsL L) (tg rc : Nat → Int) (f0 f1 n e : Int) (node set : ByteArray) (w : World) :
    Calls Try.prog 8 #[.agg (L tg).toArray, .agg (L rc).toArray, .agg #[.int .u64 f0, .int .u64 f1], .int .i64 n, .int .u64 e, .string node, .string set] w (Truth w True) := by
  have HF : Hid (Three w (((w.alloc (.cells (L tg).toArray 22)).alloc (.cells (L rc).toArray 22)).alloc (.cells #[.int .u64 f0, .int .u64 f1] 24)) tg rc f0 f1) := Three.mk' HL w tg rc f0 f1
  go_enter Try.func8, Try.ntmps8
  go_wp2_with fail
  all_goals (go_ret; exact ⟨_, rfl, HF.out.bel, fun _ => trivial⟩)

set_option maxHeartbeats 8000000 in
set_option maxRecDepth 100000 in
theorem shortLaw_any {L : (Nat → Int) → List Value} (HL : IsL L) (tg rc : Nat → Int) (f0 f1 n e : Int) (node set : ByteArray) (w : World) (Htg : Hid (∀ i, i < 1024 → 0 ≤ tg i)) (Hrc : Hid (∀ i, i < 1024 → 0 ≤ rc i)) (he : 0 ≤ e) :
    Calls Try.prog 3 #[.agg (L tg).toArray, .agg (L rc).toArray, .agg #[.int .u64 f0, .int .u64 f1], .int .i64 n, .int .u64 e, .string node, .string set] w
      fun x w' => x = .returned (.bool true) ∧ Below w.heap.size w w' := by
  obtain ⟨W, hW⟩ : ∃ W, W = (((w.alloc (.cells (L tg).toArray 22)).alloc (.cells (L rc).toArray 22)).alloc (.cells #[.int .u64 f0, .int .u64 f1] 24)) := ⟨_, rfl⟩
  have HF : Hid (Three w W tg rc f0 f1) := by rw [hW]; exact Three.mk' HL w tg rc f0 f1
  have HW : Hid (W = (((w.alloc (.cells (L tg).toArray 22)).alloc (.cells (L rc).toArray 22)).alloc (.cells #[.int .u64 f0, .int .u64 f1] 24))) := hW
  clear hW
  have q1 := L_equal HL
  go_enter Try.func3, Try.ntmps3
  go_upto_region 1 with fail
  rw [← HW.out]
  clear HW
  obtain ⟨c0, c1⟩ := And.intro HF.out.c0 HF.out.c1
  go_wp2_with (first | ((with_reducible refine D_load 26 HL (w.heap.size) 0 tg ?_ ?_ ?_); rfl; exact HF.out.r1) | ((with_reducible refine D_load 27 HL (w.heap.size + 1) 0 rc ?_ ?_ ?_); rfl; exact HF.out.r2))
  refine (bytes8_any HL tg rc f0 f1 n e node set W).mono ?_
  rintro x W1 ⟨t, rfl, hb, -⟩
  have HF1 : Hid (Three w W1 tg rc f0 f1) := HF.out.below hb
  clear hb HF c0 c1
  cases t
  · go_wp2_with fail
    go_ret
    exact ⟨rfl, HF1.out.bel⟩
  by_cases hn : (65536 : Int) < node.size
  · go_wp2_with fail
    all_goals (go_ret; exact ⟨rfl, HF1.out.bel⟩)
  by_cases hs : (65536 : Int) < set.size
  · go_wp2_with fail
    all_goals (go_ret; exact ⟨rfl, HF1.out.bel⟩)
  by_cases hn0 : n < 0
  · go_wp2_with fail
    all_goals (go_ret; exact ⟨rfl, HF1.out.bel⟩)
  by_cases hn2 : 2 < n
  · go_wp2_with fail
    all_goals (go_ret; exact ⟨rfl, HF1.out.bel⟩)
  have hn' : node.size ≤ 65536 := by omega
  have hs' : set.size ≤ 65536 := by omega
  obtain ⟨V, hV⟩ : ∃ V, V = (W1.alloc (.cells (L (fun _ => 0)).toArray 22)).alloc (.cells #[.int .u64 0, .int .u64 0] 24) := ⟨_, rfl⟩
  have HZ : Hid (Regs V W1.heap.size 0 (fun _ => 0)) := by
    show Regs _ _ _ _
    rw [hV]; exact (L_new HL W1 _ 22 rfl).below ((Below.refl _ _).alloc (Nat.le_refl _) _)
  have bV : V.heap[W1.heap.size + 1]? = some (.cells #[.int .u64 0, .int .u64 0] 24) := by rw [hV]; exact new_blk _ _ (by simp)
  have HZ2 : Hid (V.cell? ⟨W1.heap.size + 1, 0, none⟩ = some (.int .u64 0) ∧ V.cell? ⟨W1.heap.size + 1, 1, none⟩ = some (.int .u64 0)) := ⟨cell_of_row V _ 0 _ _ _ bV, cell_of_row V _ 1 _ _ _ bV⟩
  have HF2 : Hid (Three w V tg rc f0 f1) := by
    show Three _ _ _ _ _ _
    rw [hV]; exact HF1.out.below (((Below.refl _ _).alloc (Nat.le_refl _) _).alloc (by simp) _)
  have HV : Hid (V = (W1.alloc (.cells (L (fun _ => 0)).toArray 22)).alloc (.cells #[.int .u64 0, .int .u64 0] 24)) := hV
  clear hV HF1 bV
  go_upto_region 9 with (first | ((with_reducible refine D_alloc 15 HL ?_)))
  rw [← HV.out]
  clear HV
  obtain ⟨c0, c1⟩ := And.intro HF2.out.c0 HF2.out.c1
  go_wp2_with (first | ((with_reducible refine D_load 49 HL (w.heap.size) 0 tg ?_ ?_ ?_); rfl; exact HF2.out.r1) | ((with_reducible refine D_load 50 HL (w.heap.size + 1) 0 rc ?_ ?_ ?_); rfl; exact HF2.out.r2))
  refine (newTomb_any HL ⟨tg, rc, f0, f1, n, e⟩ V).mono ?_
  rintro x W2 ⟨Tm, rfl, hTm, hT, hb⟩
  have HF3 : Hid (Three w W2 tg rc f0 f1) := HF2.out.below hb
  have HZ3 : Hid (Regs W2 W1.heap.size 0 (fun _ => 0)) := HZ.out.below hb
  have HZ4 : Hid (W2.cell? ⟨W1.heap.size + 1, 0, none⟩ = some (.int .u64 0) ∧ W2.cell? ⟨W1.heap.size + 1, 1, none⟩ = some (.int .u64 0)) := ⟨cell_below HZ2.out.1 hb, cell_below HZ2.out.2 hb⟩
  have HT3 : Hid (TombAt W2 Tm 0 ⟨tg, rc, f0, f1, n, e⟩) := hT
  have HTm : Hid (w.heap.size ≤ Tm) := Nat.le_trans HF2.out.bel.size hTm
  clear hb hT hTm HF2 HZ HZ2 c0 c1 hn hs
  go_wp2_with fail
  refine wp_region_held_drew (S := fun w' => Below W2.heap.size W2 w') (by kernel_rfl) ((Below.refl _ _).drew) (fun hHeld => ?_)
  refine H_move 0 55 (.string node) rfl (by kernel_rfl) (by kernel_rfl) (by kernel_rfl) (fun _ _ _ h => h) rfl rfl hHeld ?_
  try simp only [Act.put, List.setIfInBounds_toArray, List.set_cons_zero, List.set_cons_succ]
  refine H_move 1 56 (.string set) rfl (by kernel_rfl) (by kernel_rfl) (by kernel_rfl) (fun _ _ _ h => h) rfl rfl hHeld ?_
  try simp only [Act.put, List.setIfInBounds_toArray, List.set_cons_zero, List.set_cons_succ]
  refine H_move 2 57 (.string node) rfl (by kernel_rfl) (by kernel_rfl) (by kernel_rfl) (fun _ _ _ h => h) rfl rfl hHeld ?_
  try simp only [Act.put, List.setIfInBounds_toArray, List.set_cons_zero, List.set_cons_succ]
  refine H_move 3 58 (.string set) rfl (by kernel_rfl) (by kernel_rfl) (by kernel_rfl) (fun _ _ _ h => h) rfl rfl hHeld ?_
  try simp only [Act.put, List.setIfInBounds_toArray, List.set_cons_zero, List.set_cons_succ]
  refine H_load 5 60 HL (W1.heap.size) 0 (fun _ => 0) rfl (by kernel_rfl) (by kernel_rfl) (by kernel_rfl) (fun _ _ _ h => h) rfl rfl (fun w' k => HZ3.out.below k) hHeld ?_
  try simp only [Act.put, List.setIfInBounds_toArray, List.set_cons_zero, List.set_cons_succ]
  refine H_load 6 61 HL (W1.heap.size) 0 (fun _ => 0) rfl (by kernel_rfl) (by kernel_rfl) (by kernel_rfl) (fun _ _ _ h => h) rfl rfl (fun w' k => HZ3.out.below k) hHeld ?_
  try simp only [Act.put, List.setIfInBounds_toArray, List.set_cons_zero, List.set_cons_succ]
  refine H_load 7 62 HL (W1.heap.size) 0 (fun _ => 0) rfl (by kernel_rfl) (by kernel_rfl) (by kernel_rfl) (fun _ _ _ h => h) rfl rfl (fun w' k => HZ3.out.below k) hHeld ?_
  try simp only [Act.put, List.setIfInBounds_toArray, List.set_cons_zero, List.set_cons_succ]
  refine H_load2 8 63 (W1.heap.size + 1) 0 (.int .u64 0) (.int .u64 0) rfl (by kernel_rfl) (by kernel_rfl) (by kernel_rfl) (fun _ _ _ h => h) rfl rfl (fun w' k => ⟨cell_below HZ4.out.1 k, cell_below HZ4.out.2 k⟩) hHeld ?_
  try simp only [Act.put, List.setIfInBounds_toArray, List.set_cons_zero, List.set_cons_succ]
  refine wpAnyH_ready (rs := [4]) (by kernel_rfl) (by simp) ?_
  refine AllReadyH.cons rfl (fun K hK => ?_) AllReadyH.nil
  go_simp
  refine (zzRank_any node set _ (Nat.le_trans hn' (by decide)) (Nat.le_trans hs' (by decide))).mono ?_
  rintro x w' ⟨rfl, rfl⟩
  refine hK.out _ _ ((Below.refl _ _).drew) (fun hHeld => ?_)
  clear hK K
  try simp only [Act.put, List.setIfInBounds_toArray, List.set_cons_zero, List.set_cons_succ]
  refine wpAnyH_ready (rs := [9]) (by kernel_rfl) (by simp) ?_
  refine AllReadyH.cons rfl (fun K hK => ?_) AllReadyH.nil
  go_simp
  refine (newState_any HL ⟨node, set, rankF node.data.toList set.data.toList, 0, fun _ => 0, ⟨fun _ => 0, fun _ => 0, 0, 0, 0, 0⟩⟩ _).mono ?_
  rintro x W3 ⟨B, rfl, hB, hSt, hb3⟩
  refine hK.out _ _ (((Below.refl _ _).drew).trans hb3) (fun hHeld => ?_)
  clear hK K
  try simp only [Act.put, List.setIfInBounds_toArray, List.set_cons_zero, List.set_cons_succ]
  refine H_assign 10 18 (.pointer (some ⟨B, 0, none⟩)) rfl (by kernel_rfl) (by kernel_rfl) (by kernel_rfl) (fun _ _ _ h => h) rfl rfl hHeld ?_
  try simp only [Act.put, List.setIfInBounds_toArray, List.set_cons_zero, List.set_cons_succ]
  refine wpAnyH_done (by kernel_rfl) ?_ _
  have HF5 : Hid (Three w W3 tg rc f0 f1) := HF3.out.below hHeld
  have HZ5 : Hid (Regs W3 W1.heap.size 0 (fun _ => 0)) := HZ3.out.below hHeld
  have HZ6 : Hid (W3.cell? ⟨W1.heap.size + 1, 0, none⟩ = some (.int .u64 0) ∧ W3.cell? ⟨W1.heap.size + 1, 1, none⟩ = some (.int .u64 0)) := ⟨cell_below HZ4.out.1 hHeld, cell_below HZ4.out.2 hHeld⟩
  have HT5 : Hid (TombAt W3 Tm 0 ⟨tg, rc, f0, f1, n, e⟩) := HT3.out.below hHeld
  have HS5 : Hid (StateAt W3 B ⟨node, set, rankF node.data.toList set.data.toList, 0, fun _ => 0, ⟨fun _ => 0, fun _ => 0, 0, 0, 0, 0⟩⟩) := hSt
  have HNB : Hid (B ≠ w.heap.size ∧ B ≠ w.heap.size + 1 ∧ B ≠ w.heap.size + 1 + 1 ∧ B ≠ Tm ∧ B ≠ W1.heap.size ∧ B ≠ W1.heap.size + 1) := by
    have h1 := HF3.out.r1.lt
    have h2 := HF3.out.r2.lt
    have h3 : w.heap.size + 1 + 1 < W2.heap.size := World.block_lt_of_cell? _ _ HF3.out.c0
    have h4 := HT3.out.tg.lt
    have h5 := HZ3.out.lt
    have h6 : W1.heap.size + 1 < W2.heap.size := World.block_lt_of_cell? _ _ HZ4.out.1
    have h7 : W2.heap.size ≤ B := hB
    exact ⟨by omega, by omega, by omega, by omega, by omega, by omega⟩
  have HBW : Hid (w.heap.size ≤ B) := Nat.le_trans HF3.out.bel.size hB
  clear hHeld hSt hB hb3 HF3 HZ3 HZ4 HT3
  by_cases h0 : 0 < e
  · by_cases h1 : n < 2
    · cases hcov : covF rc tg
      · have hsh : shortF ⟨tg, rc, f0, f1, n, e⟩ = false := by simp [shortF, hcov]
        go_wp2_with fail
        refine (zzCovers_any (w.heap.size + 1) 0 (w.heap.size) 0 rc tg W3 HF5.out.r2 HF5.out.r1).mono ?_
        rintro x W4 ⟨rfl, hb4⟩
        rw [hcov]
        have HF6 : Hid (Three w W4 tg rc f0 f1) := HF5.out.below hb4
        have HZ7 : Hid (Regs W4 W1.heap.size 0 (fun _ => 0)) := HZ5.out.below hb4
        have HZ8 : Hid (W4.cell? ⟨W1.heap.size + 1, 0, none⟩ = some (.int .u64 0) ∧ W4.cell? ⟨W1.heap.size + 1, 1, none⟩ = some (.int .u64 0)) := ⟨cell_below HZ6.out.1 hb4, cell_below HZ6.out.2 hb4⟩
        have HT6 : Hid (TombAt W4 Tm 0 ⟨tg, rc, f0, f1, n, e⟩) := HT5.out.below hb4
        have HS6 : Hid (StateAt W4 B ⟨node, set, rankF node.data.toList set.data.toList, 0, fun _ => 0, ⟨fun _ => 0, fun _ => 0, 0, 0, 0, 0⟩⟩) := HS5.out.below hb4
        clear hb4 HF5 HZ5 HZ6 HT5 HS5
        go_wp2_with fail
        have HSH := short_any HL Tm 0 ⟨tg, rc, f0, f1, n, e⟩ W4 HT6
        rw [hsh] at HSH
        refine HSH.mono ?_
        rintro x W5 ⟨rfl, hb5⟩
        have HF7 : Hid (Three w W5 tg rc f0 f1) := HF6.out.below hb5
        have HZ9 : Hid (Regs W5 W1.heap.size 0 (fun _ => 0)) := HZ7.out.below hb5
        have HZ10 : Hid (W5.cell? ⟨W1.heap.size + 1, 0, none⟩ = some (.int .u64 0) ∧ W5.cell? ⟨W1.heap.size + 1, 1, none⟩ = some (.int .u64 0)) := ⟨cell_below HZ8.out.1 hb5, cell_below HZ8.out.2 hb5⟩
        have HT7 : Hid (TombAt W5 Tm 0 ⟨tg, rc, f0, f1, n, e⟩) := HT6.out.below hb5
        have HS7 : Hid (StateAt W5 B ⟨node, set, rankF node.data.toList set.data.toList, 0, fun _ => 0, ⟨fun _ => 0, fun _ => 0, 0, 0, 0, 0⟩⟩) := HS6.out.below hb5
        clear hb5 HF6 HZ7 HZ8 HT6 HS6 HSH
        go_wp2_with fail
        refine (recvT_no HL B Tm ⟨tg, rc, f0, f1, n, e⟩ W5 HS7.out.holds HT7 hsh).mono ?_
        rintro x W6 ⟨rfl, hb6⟩
        have HF8 : Hid (Three w W6 tg rc f0 f1) := HF7.out.below hb6
        have HZ11 : Hid (Regs W6 W1.heap.size 0 (fun _ => 0)) := HZ9.out.below hb6
        have HZ12 : Hid (W6.cell? ⟨W1.heap.size + 1, 0, none⟩ = some (.int .u64 0) ∧ W6.cell? ⟨W1.heap.size + 1, 1, none⟩ = some (.int .u64 0)) := ⟨cell_below HZ10.out.1 hb6, cell_below HZ10.out.2 hb6⟩
        have HT8 : Hid (TombAt W6 Tm 0 ⟨tg, rc, f0, f1, n, e⟩) := HT7.out.below hb6
        have HS8 : Hid (StateAt W6 B ⟨node, set, rankF node.data.toList set.data.toList, 0, fun _ => 0, ⟨fun _ => 0, fun _ => 0, 0, 0, 0, 0⟩⟩) := HS7.out.below hb6
        clear hb6 HF7 HZ9 HZ10 HT7 HS7
        go_wp2_with fail
        refine wp_region_held_drew (S := fun w' => Below W6.heap.size W6 w') (by kernel_rfl) ((Below.refl _ _).drew) (fun hHeld => ?_)
        refine H_move 0 84 (.pointer none) rfl (by kernel_rfl) (by kernel_rfl) (by kernel_rfl) (fun _ _ _ h => h) rfl rfl hHeld ?_
        try simp only [Act.put, List.setIfInBounds_toArray, List.set_cons_zero, List.set_cons_succ]
        refine H_take 1 85 (.bool false) rfl rfl (by kernel_rfl) (by kernel_rfl) (by kernel_rfl) (fun _ _ _ h => h) rfl ?_ hHeld ?_
        · intro w' _; go_simp
        try simp only [Act.put, List.setIfInBounds_toArray, List.set_cons_zero, List.set_cons_succ]
        refine H_move 2 86 (.bool false) rfl (by kernel_rfl) (by kernel_rfl) (by kernel_rfl) (fun _ _ _ h => h) rfl rfl hHeld ?_
        try simp only [Act.put, List.setIfInBounds_toArray, List.set_cons_zero, List.set_cons_succ]
        refine H_move 3 87 (.pointer (some ⟨Tm, 0, none⟩)) rfl (by kernel_rfl) (by kernel_rfl) (by kernel_rfl) (fun _ _ _ h => h) rfl rfl hHeld ?_
        try simp only [Act.put, List.setIfInBounds_toArray, List.set_cons_zero, List.set_cons_succ]
        refine H_load 4 88 HL (w.heap.size) 0 tg rfl (by kernel_rfl) (by kernel_rfl) (by kernel_rfl) (fun _ _ _ h => h) rfl rfl (fun w' k => HF8.out.r1.below k) hHeld ?_
        try simp only [Act.put, List.setIfInBounds_toArray, List.set_cons_zero, List.set_cons_succ]
        refine H_load 5 89 HL (w.heap.size + 1) 0 rc rfl (by kernel_rfl) (by kernel_rfl) (by kernel_rfl) (fun _ _ _ h => h) rfl rfl (fun w' k => HF8.out.r2.below k) hHeld ?_
        try simp only [Act.put, List.setIfInBounds_toArray, List.set_cons_zero, List.set_cons_succ]
        refine H_load2 6 90 (w.heap.size + 1 + 1) 0 (.int .u64 f0) (.int .u64 f1) rfl (by kernel_rfl) (by kernel_rfl) (by kernel_rfl) (fun _ _ _ h => h) rfl rfl (fun w' k => ⟨cell_below (And.intro HF8.out.c0 HF8.out.c1).1 k, cell_below (And.intro HF8.out.c0 HF8.out.c1).2 k⟩) hHeld ?_
        try simp only [Act.put, List.setIfInBounds_toArray, List.set_cons_zero, List.set_cons_succ]
        refine H_move 7 91 (.int .i64 n) rfl (by kernel_rfl) (by kernel_rfl) (by kernel_rfl) (fun _ _ _ h => h) rfl rfl hHeld ?_
        try simp only [Act.put, List.setIfInBounds_toArray, List.set_cons_zero, List.set_cons_succ]
        refine H_move 8 92 (.int .u64 e) rfl (by kernel_rfl) (by kernel_rfl) (by kernel_rfl) (fun _ _ _ h => h) rfl rfl hHeld ?_
        try simp only [Act.put, List.setIfInBounds_toArray, List.set_cons_zero, List.set_cons_succ]
        refine wpAnyH_ready (rs := [9]) (by kernel_rfl) (by simp) ?_
        refine AllReadyH.cons rfl (fun K hK => ?_) AllReadyH.nil
        go_simp
        refine (tombIs_any HL Tm 0 ⟨tg, rc, f0, f1, n, e⟩ _ (HT8.out.below hHeld)).mono ?_
        rintro x Wa ⟨rfl, hba⟩
        refine hK.out _ _ (hHeld.trans (hba.mono hHeld.size)) (fun hHeld => ?_)
        clear hK K
        try simp only [Act.put, List.setIfInBounds_toArray, List.set_cons_zero, List.set_cons_succ]
        refine H_take 10 94 (.bool false) rfl rfl (by kernel_rfl) (by kernel_rfl) (by kernel_rfl) (fun _ _ _ h => h) rfl ?_ hHeld ?_
        · intro w' _; go_simp
        try simp only [Act.put, List.setIfInBounds_toArray, List.set_cons_zero, List.set_cons_succ]
        refine H_take 11 95 (.bool false) rfl rfl (by kernel_rfl) (by kernel_rfl) (by kernel_rfl) (fun _ _ _ h => h) rfl ?_ hHeld ?_
        · intro w' _; go_simp
        try simp only [Act.put, List.setIfInBounds_toArray, List.set_cons_zero, List.set_cons_succ]
        refine H_move 12 96 (.bool false) rfl (by kernel_rfl) (by kernel_rfl) (by kernel_rfl) (fun _ _ _ h => h) rfl rfl hHeld ?_
        try simp only [Act.put, List.setIfInBounds_toArray, List.set_cons_zero, List.set_cons_succ]
        refine H_move 13 97 (.pointer (some ⟨B, 0, none⟩)) rfl (by kernel_rfl) (by kernel_rfl) (by kernel_rfl) (fun _ _ _ h => h) rfl rfl hHeld ?_
        try simp only [Act.put, List.setIfInBounds_toArray, List.set_cons_zero, List.set_cons_succ]
        refine H_load 15 99 HL (W1.heap.size) 0 (fun _ => 0) rfl (by kernel_rfl) (by kernel_rfl) (by kernel_rfl) (fun _ _ _ h => h) rfl rfl (fun w' k => HZ11.out.below k) hHeld ?_
        try simp only [Act.put, List.setIfInBounds_toArray, List.set_cons_zero, List.set_cons_succ]
        refine wpAnyH_ready (rs := [14]) (by kernel_rfl) (by simp) ?_
        refine AllReadyH.cons rfl (fun K hK => ?_) AllReadyH.nil
        go_simp
        refine (stateRecord_any HL B (fun _ => 0) _ (HS8.out.rg.below hHeld)).mono ?_
        rintro x W7 ⟨rfl, hbb⟩
        refine hK.out _ _ (hHeld.trans (hbb.mono hHeld.size)) (fun hHeld => ?_)
        clear hK K
        try simp only [Act.put, List.setIfInBounds_toArray, List.set_cons_zero, List.set_cons_succ]
        refine H_take 16 100 (.bool false) rfl rfl (by kernel_rfl) (by kernel_rfl) (by kernel_rfl) (fun _ _ _ h => h) rfl ?_ hHeld ?_
        · intro w' _; have := eqF_refl (fun _ => 0); go_simp
        try simp only [Act.put, List.setIfInBounds_toArray, List.set_cons_zero, List.set_cons_succ]
        refine H_take 17 101 (.bool false) rfl rfl (by kernel_rfl) (by kernel_rfl) (by kernel_rfl) (fun _ _ _ h => h) rfl ?_ hHeld ?_
        · intro w' _; go_simp
        try simp only [Act.put, List.setIfInBounds_toArray, List.set_cons_zero, List.set_cons_succ]
        refine wpAnyH_done (by kernel_rfl) ?_ _
        have HZ13 : Hid (Regs W7 W1.heap.size 0 (fun _ => 0)) := HZ11.out.below hHeld
        have HZ14 : Hid (W7.cell? ⟨W1.heap.size + 1, 0, none⟩ = some (.int .u64 0) ∧ W7.cell? ⟨W1.heap.size + 1, 1, none⟩ = some (.int .u64 0)) := ⟨cell_below HZ12.out.1 hHeld, cell_below HZ12.out.2 hHeld⟩
        have HS9 : Hid (StateAt W7 B ⟨node, set, rankF node.data.toList set.data.toList, 0, fun _ => 0, ⟨fun _ => 0, fun _ => 0, 0, 0, 0, 0⟩⟩) := HS8.out.below hHeld
        have HE9 : Hid (Below w.heap.size w W7) := HF8.out.bel.trans (hHeld.mono HF8.out.bel.size)
        clear hHeld hba hbb HF8 HZ11 HZ12 HT8 HS8
        go_wp2_with fail
        refine wp_region_held_drew (S := fun w' => Below W7.heap.size W7 w') (by kernel_rfl) ((Below.refl _ _).drew) (fun hHeld => ?_)
        refine H_move 0 104 (.int .i64 0) rfl (by kernel_rfl) (by kernel_rfl) (by kernel_rfl) (fun _ _ _ h => h) rfl rfl hHeld ?_
        try simp only [Act.put, List.setIfInBounds_toArray, List.set_cons_zero, List.set_cons_succ]
        refine H_take 1 105 (.bool true) rfl rfl (by kernel_rfl) (by kernel_rfl) (by kernel_rfl) (fun _ _ _ h => h) rfl ?_ hHeld ?_
        · intro w' _; go_simp
        try simp only [Act.put, List.setIfInBounds_toArray, List.set_cons_zero, List.set_cons_succ]
        refine H_move 2 106 (.bool true) rfl (by kernel_rfl) (by kernel_rfl) (by kernel_rfl) (fun _ _ _ h => h) rfl rfl hHeld ?_
        try simp only [Act.put, List.setIfInBounds_toArray, List.set_cons_zero, List.set_cons_succ]
        refine H_move 3 107 (.pointer (some ⟨B, 0, none⟩)) rfl (by kernel_rfl) (by kernel_rfl) (by kernel_rfl) (fun _ _ _ h => h) rfl rfl hHeld ?_
        try simp only [Act.put, List.setIfInBounds_toArray, List.set_cons_zero, List.set_cons_succ]
        refine wpAnyH_ready (rs := [4]) (by kernel_rfl) (by simp) ?_
        refine AllReadyH.cons rfl (fun K hK => ?_) AllReadyH.nil
        go_simp
        refine (holdsT_no B _ (HS9.out.below hHeld).holds).mono ?_
        rintro x w' ⟨rfl, hw⟩
        rw [hw]
        clear hw w'
        refine hK.out _ _ (hHeld) (fun hHeld => ?_)
        clear hK K
        try simp only [Act.put, List.setIfInBounds_toArray, List.set_cons_zero, List.set_cons_succ]
        refine H_take 5 109 (.bool true) rfl rfl (by kernel_rfl) (by kernel_rfl) (by kernel_rfl) (fun _ _ _ h => h) rfl ?_ hHeld ?_
        · intro w' _; go_simp
        try simp only [Act.put, List.setIfInBounds_toArray, List.set_cons_zero, List.set_cons_succ]
        refine H_take 6 110 (.bool true) rfl rfl (by kernel_rfl) (by kernel_rfl) (by kernel_rfl) (fun _ _ _ h => h) rfl ?_ hHeld ?_
        · intro w' _; go_simp
        try simp only [Act.put, List.setIfInBounds_toArray, List.set_cons_zero, List.set_cons_succ]
        refine H_move 7 111 (.bool true) rfl (by kernel_rfl) (by kernel_rfl) (by kernel_rfl) (fun _ _ _ h => h) rfl rfl hHeld ?_
        try simp only [Act.put, List.setIfInBounds_toArray, List.set_cons_zero, List.set_cons_succ]
        refine H_move 8 112 (.pointer (some ⟨B, 0, none⟩)) rfl (by kernel_rfl) (by kernel_rfl) (by kernel_rfl) (fun _ _ _ h => h) rfl rfl hHeld ?_
        try simp only [Act.put, List.setIfInBounds_toArray, List.set_cons_zero, List.set_cons_succ]
        refine wpAnyH_ready (rs := [9]) (by kernel_rfl) (by simp) ?_
        refine AllReadyH.cons rfl (fun K hK => ?_) AllReadyH.nil
        go_simp
        refine (stateHolds_any B 0 _ (HS9.out.below hHeld).holds (by decide) (by decide)).mono ?_
        rintro x w' ⟨rfl, hw⟩
        rw [hw]
        clear hw w'
        refine hK.out _ _ (hHeld) (fun hHeld => ?_)
        clear hK K
        try simp only [Act.put, List.setIfInBounds_toArray, List.set_cons_zero, List.set_cons_succ]
        refine H_take 10 114 (.bool true) rfl rfl (by kernel_rfl) (by kernel_rfl) (by kernel_rfl) (fun _ _ _ h => h) rfl ?_ hHeld ?_
        · intro w' _; go_simp
        try simp only [Act.put, List.setIfInBounds_toArray, List.set_cons_zero, List.set_cons_succ]
        refine H_take 11 115 (.bool true) rfl rfl (by kernel_rfl) (by kernel_rfl) (by kernel_rfl) (fun _ _ _ h => h) rfl ?_ hHeld ?_
        · intro w' _; go_simp
        try simp only [Act.put, List.setIfInBounds_toArray, List.set_cons_zero, List.set_cons_succ]
        refine H_move 12 116 (.bool true) rfl (by kernel_rfl) (by kernel_rfl) (by kernel_rfl) (fun _ _ _ h => h) rfl rfl hHeld ?_
        try simp only [Act.put, List.setIfInBounds_toArray, List.set_cons_zero, List.set_cons_succ]
        refine H_move 13 117 (.pointer (some ⟨B, 0, none⟩)) rfl (by kernel_rfl) (by kernel_rfl) (by kernel_rfl) (fun _ _ _ h => h) rfl rfl hHeld ?_
        try simp only [Act.put, List.setIfInBounds_toArray, List.set_cons_zero, List.set_cons_succ]
        refine H_load 15 119 HL (W1.heap.size) 0 (fun _ => 0) rfl (by kernel_rfl) (by kernel_rfl) (by kernel_rfl) (fun _ _ _ h => h) rfl rfl (fun w' k => HZ13.out.below k) hHeld ?_
        try simp only [Act.put, List.setIfInBounds_toArray, List.set_cons_zero, List.set_cons_succ]
        refine H_load 16 120 HL (W1.heap.size) 0 (fun _ => 0) rfl (by kernel_rfl) (by kernel_rfl) (by kernel_rfl) (fun _ _ _ h => h) rfl rfl (fun w' k => HZ13.out.below k) hHeld ?_
        try simp only [Act.put, List.setIfInBounds_toArray, List.set_cons_zero, List.set_cons_succ]
        refine H_load2 17 121 (W1.heap.size + 1) 0 (.int .u64 0) (.int .u64 0) rfl (by kernel_rfl) (by kernel_rfl) (by kernel_rfl) (fun _ _ _ h => h) rfl rfl (fun w' k => ⟨cell_below HZ14.out.1 k, cell_below HZ14.out.2 k⟩) hHeld ?_
        try simp only [Act.put, List.setIfInBounds_toArray, List.set_cons_zero, List.set_cons_succ]
        refine wpAnyH_ready (rs := [14]) (by kernel_rfl) (by simp) ?_
        refine AllReadyH.cons rfl (fun K hK => ?_) AllReadyH.nil
        go_simp
        refine (stateTomb_any B _).mono ?_
        rintro x w' ⟨rfl, hw⟩
        rw [hw]
        clear hw w'
        refine hK.out _ _ (hHeld) (fun hHeld => ?_)
        clear hK K
        try simp only [Act.put, List.setIfInBounds_toArray, List.set_cons_zero, List.set_cons_succ]
        refine wpAnyH_ready (rs := [18]) (by kernel_rfl) (by simp) ?_
        refine AllReadyH.cons rfl (fun K hK => ?_) AllReadyH.nil
        go_simp
        refine (tombIs_any HL B 1028 ⟨fun _ => 0, fun _ => 0, 0, 0, 0, 0⟩ _ (HS9.out.below hHeld).tb).mono ?_
        rintro x W8 ⟨rfl, hb8⟩
        refine hK.out _ _ (hHeld.trans (hb8.mono hHeld.size)) (fun hHeld => ?_)
        clear hK K
        try simp only [Act.put, List.setIfInBounds_toArray, List.set_cons_zero, List.set_cons_succ]
        refine H_take 19 123 (.bool true) rfl rfl (by kernel_rfl) (by kernel_rfl) (by kernel_rfl) (fun _ _ _ h => h) rfl ?_ hHeld ?_
        · intro w' _; go_simp
        try simp only [Act.put, List.setIfInBounds_toArray, List.set_cons_zero, List.set_cons_succ]
        refine H_assign 20 14 (.bool true) rfl (by kernel_rfl) (by kernel_rfl) (by kernel_rfl) (fun _ _ _ h => h) rfl rfl hHeld ?_
        try simp only [Act.put, List.setIfInBounds_toArray, List.set_cons_zero, List.set_cons_succ]
        refine wpAnyH_done (by kernel_rfl) ?_ _
        have HX : Hid (Below w.heap.size w W8) := HE9.out.trans (hHeld.mono HE9.out.size)
        go_wp2_with fail
        go_ret
        exact ⟨rfl, HX.out⟩
      · have hsh : shortF ⟨tg, rc, f0, f1, n, e⟩ = true := by simp [shortF, hcov, h0, h1]
        go_wp2_with fail
        refine (zzCovers_any (w.heap.size + 1) 0 (w.heap.size) 0 rc tg W3 HF5.out.r2 HF5.out.r1).mono ?_
        rintro x W4 ⟨rfl, hb4⟩
        rw [hcov]
        have HF6 : Hid (Three w W4 tg rc f0 f1) := HF5.out.below hb4
        have HZ7 : Hid (Regs W4 W1.heap.size 0 (fun _ => 0)) := HZ5.out.below hb4
        have HZ8 : Hid (W4.cell? ⟨W1.heap.size + 1, 0, none⟩ = some (.int .u64 0) ∧ W4.cell? ⟨W1.heap.size + 1, 1, none⟩ = some (.int .u64 0)) := ⟨cell_below HZ6.out.1 hb4, cell_below HZ6.out.2 hb4⟩
        have HT6 : Hid (TombAt W4 Tm 0 ⟨tg, rc, f0, f1, n, e⟩) := HT5.out.below hb4
        have HS6 : Hid (StateAt W4 B ⟨node, set, rankF node.data.toList set.data.toList, 0, fun _ => 0, ⟨fun _ => 0, fun _ => 0, 0, 0, 0, 0⟩⟩) := HS5.out.below hb4
        clear hb4 HF5 HZ5 HZ6 HT5 HS5
        go_wp2_with fail
        have HSH := short_any HL Tm 0 ⟨tg, rc, f0, f1, n, e⟩ W4 HT6
        rw [hsh] at HSH
        refine HSH.mono ?_
        rintro x W5 ⟨rfl, hb5⟩
        have HF7 : Hid (Three w W5 tg rc f0 f1) := HF6.out.below hb5
        have HZ9 : Hid (Regs W5 W1.heap.size 0 (fun _ => 0)) := HZ7.out.below hb5
        have HZ10 : Hid (W5.cell? ⟨W1.heap.size + 1, 0, none⟩ = some (.int .u64 0) ∧ W5.cell? ⟨W1.heap.size + 1, 1, none⟩ = some (.int .u64 0)) := ⟨cell_below HZ8.out.1 hb5, cell_below HZ8.out.2 hb5⟩
        have HT7 : Hid (TombAt W5 Tm 0 ⟨tg, rc, f0, f1, n, e⟩) := HT6.out.below hb5
        have HS7 : Hid (StateAt W5 B ⟨node, set, rankF node.data.toList set.data.toList, 0, fun _ => 0, ⟨fun _ => 0, fun _ => 0, 0, 0, 0, 0⟩⟩) := HS6.out.below hb5
        clear hb5 HF6 HZ7 HZ8 HT6 HS6 HSH
        go_wp2_with fail
        obtain ⟨X0, Y0, N0, X, Y, N, LF0⟩ := lowFacts f0 f1 n (rankAtF (rankF node.data.toList set.data.toList) e) (by omega) h1
        have LF : Hid (LowFacts f0 f1 n (rankAtF (rankF node.data.toList set.data.toList) e) X0 Y0 N0 X Y N) := LF0
        clear LF0
        have hez : (e == 0) = false := by simp; omega
        refine (recvT_yes HL B Tm node set (rankF node.data.toList set.data.toList) (fun _ => 0) ⟨tg, rc, f0, f1, n, e⟩ X0 Y0 N0 X Y N W5 HNB.out.2.2.2.1 (Nat.le_trans hn' (by decide)) HS7 HT7 hsh h0 (fun w1 => LF.out.hm B (1028 + 2048) Tm (0 + 2048) w1) (fun w1 => LF.out.ha B (1028 + 2048) w1) (fun w1 => LF.out.ho B (1028 + 2048) w1)).mono ?_
        rintro x W6 ⟨rfl, hs6, ht6, ho6⟩
        have HR1 : Hid (Regs W6 (w.heap.size) 0 tg) := HF7.out.r1.only HF7.out.r1.lt ho6 (.inl (Ne.symm HNB.out.1))
        have HR2 : Hid (Regs W6 (w.heap.size + 1) 0 rc) := HF7.out.r2.only HF7.out.r2.lt ho6 (.inl (Ne.symm HNB.out.2.1))
        have HRC : Hid (W6.cell? ⟨w.heap.size + 1 + 1, 0, none⟩ = some (.int .u64 f0) ∧ W6.cell? ⟨w.heap.size + 1 + 1, 1, none⟩ = some (.int .u64 f1)) := ⟨cell_only HF7.out.c0 ho6 (.inl (Ne.symm HNB.out.2.2.1)), cell_only HF7.out.c1 ho6 (.inl (Ne.symm HNB.out.2.2.1))⟩
        have HZ11 : Hid (Regs W6 W1.heap.size 0 (fun _ => 0)) := HZ9.out.only HZ9.out.lt ho6 (.inl (Ne.symm HNB.out.2.2.2.2.1))
        have HT8 : Hid (TombAt W6 Tm 0 ⟨tg, rc, f0, f1, n, e⟩) := ht6
        have HS8 : Hid (StateAt W6 B ⟨node, set, rankF node.data.toList set.data.toList, 2, fun _ => 0, ⟨maxF (fun _ => 0) tg, addF (maxF (fun _ => 0) rc) node.data.toList, X, Y, N, e⟩⟩) := hs6
        have HE6 : Hid (Below w.heap.size w W6) := HF7.out.bel.trans (ho6.below HBW.out HF7.out.bel.size)
        clear hs6 ht6 ho6 HF7 HZ9 HZ10 HT7 HS7
        go_wp2_with fail
        refine wp_region_held_drew (S := fun w' => Below W6.heap.size W6 w') (by kernel_rfl) ((Below.refl _ _).drew) (fun hHeld => ?_)
        refine H_move 0 84 (.pointer none) rfl (by kernel_rfl) (by kernel_rfl) (by kernel_rfl) (fun _ _ _ h => h) rfl rfl hHeld ?_
        try simp only [Act.put, List.setIfInBounds_toArray, List.set_cons_zero, List.set_cons_succ]
        refine H_take 1 85 (.bool false) rfl rfl (by kernel_rfl) (by kernel_rfl) (by kernel_rfl) (fun _ _ _ h => h) rfl ?_ hHeld ?_
        · intro w' _; go_simp
        try simp only [Act.put, List.setIfInBounds_toArray, List.set_cons_zero, List.set_cons_succ]
        refine H_move 2 86 (.bool false) rfl (by kernel_rfl) (by kernel_rfl) (by kernel_rfl) (fun _ _ _ h => h) rfl rfl hHeld ?_
        try simp only [Act.put, List.setIfInBounds_toArray, List.set_cons_zero, List.set_cons_succ]
        refine H_move 3 87 (.pointer (some ⟨Tm, 0, none⟩)) rfl (by kernel_rfl) (by kernel_rfl) (by kernel_rfl) (fun _ _ _ h => h) rfl rfl hHeld ?_
        try simp only [Act.put, List.setIfInBounds_toArray, List.set_cons_zero, List.set_cons_succ]
        refine H_load 4 88 HL (w.heap.size) 0 tg rfl (by kernel_rfl) (by kernel_rfl) (by kernel_rfl) (fun _ _ _ h => h) rfl rfl (fun w' k => HR1.out.below k) hHeld ?_
        try simp only [Act.put, List.setIfInBounds_toArray, List.set_cons_zero, List.set_cons_succ]
        refine H_load 5 89 HL (w.heap.size + 1) 0 rc rfl (by kernel_rfl) (by kernel_rfl) (by kernel_rfl) (fun _ _ _ h => h) rfl rfl (fun w' k => HR2.out.below k) hHeld ?_
        try simp only [Act.put, List.setIfInBounds_toArray, List.set_cons_zero, List.set_cons_succ]
        refine H_load2 6 90 (w.heap.size + 1 + 1) 0 (.int .u64 f0) (.int .u64 f1) rfl (by kernel_rfl) (by kernel_rfl) (by kernel_rfl) (fun _ _ _ h => h) rfl rfl (fun w' k => ⟨cell_below HRC.out.1 k, cell_below HRC.out.2 k⟩) hHeld ?_
        try simp only [Act.put, List.setIfInBounds_toArray, List.set_cons_zero, List.set_cons_succ]
        refine H_move 7 91 (.int .i64 n) rfl (by kernel_rfl) (by kernel_rfl) (by kernel_rfl) (fun _ _ _ h => h) rfl rfl hHeld ?_
        try simp only [Act.put, List.setIfInBounds_toArray, List.set_cons_zero, List.set_cons_succ]
        refine H_move 8 92 (.int .u64 e) rfl (by kernel_rfl) (by kernel_rfl) (by kernel_rfl) (fun _ _ _ h => h) rfl rfl hHeld ?_
        try simp only [Act.put, List.setIfInBounds_toArray, List.set_cons_zero, List.set_cons_succ]
        refine wpAnyH_ready (rs := [9]) (by kernel_rfl) (by simp) ?_
        refine AllReadyH.cons rfl (fun K hK => ?_) AllReadyH.nil
        go_simp
        refine (tombIs_any HL Tm 0 ⟨tg, rc, f0, f1, n, e⟩ _ (HT8.out.below hHeld)).mono ?_
        rintro x Wa ⟨rfl, hba⟩
        refine hK.out _ _ (hHeld.trans (hba.mono hHeld.size)) (fun hHeld => ?_)
        clear hK K
        try simp only [Act.put, List.setIfInBounds_toArray, List.set_cons_zero, List.set_cons_succ]
        refine H_take 10 94 (.bool false) rfl rfl (by kernel_rfl) (by kernel_rfl) (by kernel_rfl) (fun _ _ _ h => h) rfl ?_ hHeld ?_
        · intro w' _; go_simp
        try simp only [Act.put, List.setIfInBounds_toArray, List.set_cons_zero, List.set_cons_succ]
        refine H_take 11 95 (.bool false) rfl rfl (by kernel_rfl) (by kernel_rfl) (by kernel_rfl) (fun _ _ _ h => h) rfl ?_ hHeld ?_
        · intro w' _; go_simp
        try simp only [Act.put, List.setIfInBounds_toArray, List.set_cons_zero, List.set_cons_succ]
        refine H_move 12 96 (.bool false) rfl (by kernel_rfl) (by kernel_rfl) (by kernel_rfl) (fun _ _ _ h => h) rfl rfl hHeld ?_
        try simp only [Act.put, List.setIfInBounds_toArray, List.set_cons_zero, List.set_cons_succ]
        refine H_move 13 97 (.pointer (some ⟨B, 0, none⟩)) rfl (by kernel_rfl) (by kernel_rfl) (by kernel_rfl) (fun _ _ _ h => h) rfl rfl hHeld ?_
        try simp only [Act.put, List.setIfInBounds_toArray, List.set_cons_zero, List.set_cons_succ]
        refine H_load 15 99 HL (W1.heap.size) 0 (fun _ => 0) rfl (by kernel_rfl) (by kernel_rfl) (by kernel_rfl) (fun _ _ _ h => h) rfl rfl (fun w' k => HZ11.out.below k) hHeld ?_
        try simp only [Act.put, List.setIfInBounds_toArray, List.set_cons_zero, List.set_cons_succ]
        refine wpAnyH_ready (rs := [14]) (by kernel_rfl) (by simp) ?_
        refine AllReadyH.cons rfl (fun K hK => ?_) AllReadyH.nil
        go_simp
        refine (stateRecord_any HL B (fun _ => 0) _ (HS8.out.rg.below hHeld)).mono ?_
        rintro x W7 ⟨rfl, hbb⟩
        refine hK.out _ _ (hHeld.trans (hbb.mono hHeld.size)) (fun hHeld => ?_)
        clear hK K
        try simp only [Act.put, List.setIfInBounds_toArray, List.set_cons_zero, List.set_cons_succ]
        refine H_take 16 100 (.bool false) rfl rfl (by kernel_rfl) (by kernel_rfl) (by kernel_rfl) (fun _ _ _ h => h) rfl ?_ hHeld ?_
        · intro w' _; have := eqF_refl (fun _ => 0); go_simp
        try simp only [Act.put, List.setIfInBounds_toArray, List.set_cons_zero, List.set_cons_succ]
        refine H_take 17 101 (.bool false) rfl rfl (by kernel_rfl) (by kernel_rfl) (by kernel_rfl) (fun _ _ _ h => h) rfl ?_ hHeld ?_
        · intro w' _; go_simp
        try simp only [Act.put, List.setIfInBounds_toArray, List.set_cons_zero, List.set_cons_succ]
        refine wpAnyH_done (by kernel_rfl) ?_ _
        have HA1 : Hid (Regs W7 (w.heap.size) 0 tg) := HR1.out.below hHeld
        have HA2 : Hid (Regs W7 (w.heap.size + 1) 0 rc) := HR2.out.below hHeld
        have HAC : Hid (W7.cell? ⟨w.heap.size + 1 + 1, 0, none⟩ = some (.int .u64 f0) ∧ W7.cell? ⟨w.heap.size + 1 + 1, 1, none⟩ = some (.int .u64 f1)) := ⟨cell_below HRC.out.1 hHeld, cell_below HRC.out.2 hHeld⟩
        have HS9 : Hid (StateAt W7 B ⟨node, set, rankF node.data.toList set.data.toList, 2, fun _ => 0, ⟨maxF (fun _ => 0) tg, addF (maxF (fun _ => 0) rc) node.data.toList, X, Y, N, e⟩⟩) := HS8.out.below hHeld
        have HE7 : Hid (Below w.heap.size w W7) := HE6.out.trans (hHeld.mono HE6.out.size)
        clear hHeld hba hbb HR1 HR2 HRC HZ11 HT8 HS8 HE6
        go_wp2_with (first | ((with_reducible refine D_load 124 HL (w.heap.size + 1) 0 rc ?_ ?_ ?_); rfl; exact HA2.out) | ((with_reducible refine D_alloc 22 HL ?_)) | ((with_reducible refine D_store 22 124 HL W7.heap.size 0 rc (fun _ => 0) ?_ ?_ ?_ ?_); rfl; rfl; exact L_new HL W7 _ 22 rfl; intro W8 hr8 ho8))
        have hb8 : Below W7.heap.size W7 W8 := ((Below.refl _ _).alloc (Nat.le_refl _) _).trans (ho8.below (Nat.le_refl _) (by simp))
        have HB1 : Hid (Regs W8 (w.heap.size) 0 tg) := HA1.out.below hb8
        have HBC : Hid (W8.cell? ⟨w.heap.size + 1 + 1, 0, none⟩ = some (.int .u64 f0) ∧ W8.cell? ⟨w.heap.size + 1 + 1, 1, none⟩ = some (.int .u64 f1)) := ⟨cell_below HAC.out.1 hb8, cell_below HAC.out.2 hb8⟩
        have HS10 : Hid (StateAt W8 B ⟨node, set, rankF node.data.toList set.data.toList, 2, fun _ => 0, ⟨maxF (fun _ => 0) tg, addF (maxF (fun _ => 0) rc) node.data.toList, X, Y, N, e⟩⟩) := HS9.out.below hb8
        have HE8 : Hid (Below w.heap.size w W8) := HE7.out.trans (hb8.mono HE7.out.size)
        have HN8 : Hid (B ≠ W7.heap.size ∧ w.heap.size ≤ W7.heap.size ∧ w.heap.size ≠ W7.heap.size ∧ w.heap.size + 1 + 1 ≠ W7.heap.size) := ⟨Nat.ne_of_lt HS9.out.rg.lt, HE7.out.size, Nat.ne_of_lt HA1.out.lt, Nat.ne_of_lt (World.block_lt_of_cell? W7 _ HAC.out.1)⟩
        refine (zzAdd_any W7.heap.size 0 node rc W8 (Nat.le_trans hn' (by decide)) hr8).mono ?_
        rintro x W9 ⟨rfl, hr9, ho9⟩
        have HC1 : Hid (Regs W9 (w.heap.size) 0 tg) := HB1.out.only HB1.out.lt ho9 (.inl HN8.out.2.2.1)
        have HCC : Hid (W9.cell? ⟨w.heap.size + 1 + 1, 0, none⟩ = some (.int .u64 f0) ∧ W9.cell? ⟨w.heap.size + 1 + 1, 1, none⟩ = some (.int .u64 f1)) := ⟨cell_only HBC.out.1 ho9 (.inl HN8.out.2.2.2), cell_only HBC.out.2 ho9 (.inl HN8.out.2.2.2)⟩
        have HS11 : Hid (StateAt W9 B ⟨node, set, rankF node.data.toList set.data.toList, 2, fun _ => 0, ⟨maxF (fun _ => 0) tg, addF (maxF (fun _ => 0) rc) node.data.toList, X, Y, N, e⟩⟩) := HS10.out.other ho9 HN8.out.1
        have HE9 : Hid (Below w.heap.size w W9) := HE8.out.trans (ho9.below HN8.out.2.1 HE8.out.size)
        have HRA : Hid (Regs W9 W7.heap.size 0 (addF rc node.data.toList)) := hr9
        have HTB : Hid (TombAt W9 B 1028 ⟨tg, addF rc node.data.toList, X, Y, N, e⟩) := ⟨HS11.out.tb.tg.congr (maxF_zero Htg.out), HS11.out.tb.rc.congr (addF_congr _ (maxF_zero Hrc.out)), HS11.out.tb.f0, HS11.out.tb.f1, HS11.out.tb.n, HS11.out.tb.e, HS11.out.tb.fr⟩
        have HHo : Hid (W9.cell? ⟨B, 3, none⟩ = some (.int .i64 2)) := HS11.out.holds
        obtain ⟨Zr, hZr⟩ : ∃ Z, Z = addF rc node.data.toList := ⟨_, rfl⟩
        rw [← hZr] at HRA HTB
        clear hr9 ho9 hr8 ho8 hb8 HB1 HBC HS10 HE8 HA1 HA2 HAC HS9 HE7 HS11 hZr
        go_wp2_with fail
        refine (zzRank_any node set W9 (Nat.le_trans hn' (by decide)) (Nat.le_trans hs' (by decide))).mono ?_
        rintro x w' ⟨rfl, hw⟩
        rw [hw]
        clear hw w'
        go_wp2_with fail
        refine (zzRankAt_any (rankF node.data.toList set.data.toList) e W9 hez).mono ?_
        rintro x w' ⟨rfl, hw⟩
        rw [hw]
        clear hw w'
        obtain ⟨c0, c1⟩ := HCC.out
        go_wp2_with fail
        refine (LF.out.hl W9).mono ?_
        rintro x W10 ⟨rfl, hb10⟩
        have HD1 : Hid (Regs W10 (w.heap.size) 0 tg) := HC1.out.below hb10
        have HDA : Hid (Regs W10 W7.heap.size 0 Zr) := HRA.out.below hb10
        have HDT : Hid (TombAt W10 B 1028 ⟨tg, Zr, X, Y, N, e⟩) := HTB.out.below hb10
        have HDH : Hid (W10.cell? ⟨B, 3, none⟩ = some (.int .i64 2)) := cell_below HHo.out hb10
        have HE10 : Hid (Below w.heap.size w W10) := HE9.out.trans (hb10.mono HE9.out.size)
        clear hb10 HC1 HRA HTB HHo HE9 HCC c0 c1
        have bV : (W10.alloc (.cells #[.int .u64 0, .int .u64 0] 24)).heap[W10.heap.size]? = some (.cells #[.int .u64 0, .int .u64 0] 24) := new_blk _ _ rfl
        have HNV : Hid ((W10.alloc (.cells #[.int .u64 0, .int .u64 0] 24)).cell? ⟨W10.heap.size, 0, none⟩ = some (.int .u64 0) ∧ (W10.alloc (.cells #[.int .u64 0, .int .u64 0] 24)).cell? ⟨W10.heap.size, 0 + 1, none⟩ = some (.int .u64 0) ∧ ∀ j, (W10.alloc (.cells #[.int .u64 0, .int .u64 0] 24)).frozen? ⟨W10.heap.size, j, none⟩ = false) := ⟨cell_of_row _ _ 0 _ _ _ bV, cell_of_row _ _ 1 _ _ _ bV, fun j => frozen_of_row _ _ j _ _ bV⟩
        clear bV
        go_wp2_with (first | ((with_reducible refine D_store2 24 137 W10.heap.size 0 X Y 0 0 ?_ ?_ ?_ ?_ ?_ ?_); rfl; rfl; exact HNV.out.1; exact HNV.out.2.1; exact HNV.out.2.2; intro W11 k0 k1 kf ko))
        have hb11 : Below W10.heap.size W10 W11 := ((Below.refl _ _).alloc (Nat.le_refl _) _).trans (ko.below (Nat.le_refl _) (by simp))
        have HG1 : Hid (Regs W11 (w.heap.size) 0 tg) := HD1.out.below hb11
        have HGA : Hid (Regs W11 W7.heap.size 0 Zr) := HDA.out.below hb11
        have HGT : Hid (TombAt W11 B 1028 ⟨tg, Zr, X, Y, N, e⟩) := HDT.out.below hb11
        have HGH : Hid (W11.cell? ⟨B, 3, none⟩ = some (.int .i64 2)) := cell_below HDH.out hb11
        have HGC : Hid (W11.cell? ⟨W10.heap.size, 0, none⟩ = some (.int .u64 X) ∧ W11.cell? ⟨W10.heap.size, 0 + 1, none⟩ = some (.int .u64 Y)) := ⟨k0, k1⟩
        have HE11 : Hid (Below w.heap.size w W11) := HE10.out.trans (hb11.mono HE10.out.size)
        clear hb11 k0 k1 kf ko HNV HD1 HDA HDT HDH HE10
        refine wp_region_held_drew (S := fun w' => Below W11.heap.size W11 w') (by kernel_rfl) ((Below.refl _ _).drew) (fun hHeld => ?_)
        refine H_move 0 139 (.int .i64 1) rfl (by kernel_rfl) (by kernel_rfl) (by kernel_rfl) (fun _ _ _ h => h) rfl rfl hHeld ?_
        try simp only [Act.put, List.setIfInBounds_toArray, List.set_cons_zero, List.set_cons_succ]
        refine H_take 1 140 (.bool true) rfl rfl (by kernel_rfl) (by kernel_rfl) (by kernel_rfl) (fun _ _ _ h => h) rfl ?_ hHeld ?_
        · intro w' _; go_simp
        try simp only [Act.put, List.setIfInBounds_toArray, List.set_cons_zero, List.set_cons_succ]
        refine H_move 2 141 (.bool true) rfl (by kernel_rfl) (by kernel_rfl) (by kernel_rfl) (fun _ _ _ h => h) rfl rfl hHeld ?_
        try simp only [Act.put, List.setIfInBounds_toArray, List.set_cons_zero, List.set_cons_succ]
        refine H_move 3 142 (.pointer (some ⟨B, 0, none⟩)) rfl (by kernel_rfl) (by kernel_rfl) (by kernel_rfl) (fun _ _ _ h => h) rfl rfl hHeld ?_
        try simp only [Act.put, List.setIfInBounds_toArray, List.set_cons_zero, List.set_cons_succ]
        refine wpAnyH_ready (rs := [4]) (by kernel_rfl) (by simp) ?_
        refine AllReadyH.cons rfl (fun K hK => ?_) AllReadyH.nil
        go_simp
        refine (holdsT_yes B _ (cell_below HGH.out hHeld)).mono ?_
        rintro x w' ⟨rfl, hw⟩
        rw [hw]
        clear hw w'
        refine hK.out _ _ (hHeld) (fun hHeld => ?_)
        clear hK K
        try simp only [Act.put, List.setIfInBounds_toArray, List.set_cons_zero, List.set_cons_succ]
        refine H_take 5 144 (.bool true) rfl rfl (by kernel_rfl) (by kernel_rfl) (by kernel_rfl) (fun _ _ _ h => h) rfl ?_ hHeld ?_
        · intro w' _; go_simp
        try simp only [Act.put, List.setIfInBounds_toArray, List.set_cons_zero, List.set_cons_succ]
        refine H_move 6 145 (.bool true) rfl (by kernel_rfl) (by kernel_rfl) (by kernel_rfl) (fun _ _ _ h => h) rfl rfl hHeld ?_
        try simp only [Act.put, List.setIfInBounds_toArray, List.set_cons_zero, List.set_cons_succ]
        refine H_move 7 146 (.pointer (some ⟨B, 0, none⟩)) rfl (by kernel_rfl) (by kernel_rfl) (by kernel_rfl) (fun _ _ _ h => h) rfl rfl hHeld ?_
        try simp only [Act.put, List.setIfInBounds_toArray, List.set_cons_zero, List.set_cons_succ]
        refine wpAnyH_ready (rs := [8]) (by kernel_rfl) (by simp) ?_
        refine AllReadyH.cons rfl (fun K hK => ?_) AllReadyH.nil
        go_simp
        refine (stateHolds_any B 2 _ (cell_below HGH.out hHeld) (by decide) (by decide)).mono ?_
        rintro x w' ⟨rfl, hw⟩
        rw [hw]
        clear hw w'
        refine hK.out _ _ (hHeld) (fun hHeld => ?_)
        clear hK K
        try simp only [Act.put, List.setIfInBounds_toArray, List.set_cons_zero, List.set_cons_succ]
        refine H_take 9 148 (.bool true) rfl rfl (by kernel_rfl) (by kernel_rfl) (by kernel_rfl) (fun _ _ _ h => h) rfl ?_ hHeld ?_
        · intro w' _; go_simp
        try simp only [Act.put, List.setIfInBounds_toArray, List.set_cons_zero, List.set_cons_succ]
        refine H_take 10 149 (.bool true) rfl rfl (by kernel_rfl) (by kernel_rfl) (by kernel_rfl) (fun _ _ _ h => h) rfl ?_ hHeld ?_
        · intro w' _; go_simp
        try simp only [Act.put, List.setIfInBounds_toArray, List.set_cons_zero, List.set_cons_succ]
        refine H_move 11 150 (.bool true) rfl (by kernel_rfl) (by kernel_rfl) (by kernel_rfl) (fun _ _ _ h => h) rfl rfl hHeld ?_
        try simp only [Act.put, List.setIfInBounds_toArray, List.set_cons_zero, List.set_cons_succ]
        refine H_move 12 151 (.pointer (some ⟨B, 0, none⟩)) rfl (by kernel_rfl) (by kernel_rfl) (by kernel_rfl) (fun _ _ _ h => h) rfl rfl hHeld ?_
        try simp only [Act.put, List.setIfInBounds_toArray, List.set_cons_zero, List.set_cons_succ]
        refine H_load 14 153 HL (w.heap.size) 0 tg rfl (by kernel_rfl) (by kernel_rfl) (by kernel_rfl) (fun _ _ _ h => h) rfl rfl (fun w' k => HG1.out.below k) hHeld ?_
        try simp only [Act.put, List.setIfInBounds_toArray, List.set_cons_zero, List.set_cons_succ]
        refine H_load 15 154 HL (W7.heap.size) 0 Zr rfl (by kernel_rfl) (by kernel_rfl) (by kernel_rfl) (fun _ _ _ h => h) rfl rfl (fun w' k => HGA.out.below k) hHeld ?_
        try simp only [Act.put, List.setIfInBounds_toArray, List.set_cons_zero, List.set_cons_succ]
        refine H_load2 16 155 (W10.heap.size) 0 (.int .u64 X) (.int .u64 Y) rfl (by kernel_rfl) (by kernel_rfl) (by kernel_rfl) (fun _ _ _ h => h) rfl rfl (fun w' k => ⟨cell_below HGC.out.1 k, cell_below HGC.out.2 k⟩) hHeld ?_
        try simp only [Act.put, List.setIfInBounds_toArray, List.set_cons_zero, List.set_cons_succ]
        refine H_move 17 156 (.int .i64 N) rfl (by kernel_rfl) (by kernel_rfl) (by kernel_rfl) (fun _ _ _ h => h) rfl rfl hHeld ?_
        try simp only [Act.put, List.setIfInBounds_toArray, List.set_cons_zero, List.set_cons_succ]
        refine H_move 18 157 (.int .u64 e) rfl (by kernel_rfl) (by kernel_rfl) (by kernel_rfl) (fun _ _ _ h => h) rfl rfl hHeld ?_
        try simp only [Act.put, List.setIfInBounds_toArray, List.set_cons_zero, List.set_cons_succ]
        refine wpAnyH_ready (rs := [13]) (by kernel_rfl) (by simp) ?_
        refine AllReadyH.cons rfl (fun K hK => ?_) AllReadyH.nil
        go_simp
        refine (stateTomb_any B _).mono ?_
        rintro x w' ⟨rfl, hw⟩
        rw [hw]
        clear hw w'
        refine hK.out _ _ (hHeld) (fun hHeld => ?_)
        clear hK K
        try simp only [Act.put, List.setIfInBounds_toArray, List.set_cons_zero, List.set_cons_succ]
        refine wpAnyH_ready (rs := [19]) (by kernel_rfl) (by simp) ?_
        refine AllReadyH.cons rfl (fun K hK => ?_) AllReadyH.nil
        go_simp
        refine (tombIs_any HL B 1028 ⟨tg, Zr, X, Y, N, e⟩ _ (HGT.out.below hHeld)).mono ?_
        rintro x W12 ⟨rfl, hb12⟩
        refine hK.out _ _ (hHeld.trans (hb12.mono hHeld.size)) (fun hHeld => ?_)
        clear hK K
        try simp only [Act.put, List.setIfInBounds_toArray, List.set_cons_zero, List.set_cons_succ]
        refine H_take 20 159 (.bool true) rfl rfl (by kernel_rfl) (by kernel_rfl) (by kernel_rfl) (fun _ _ _ h => h) rfl ?_ hHeld ?_
        · intro w' _; go_simp
        try simp only [Act.put, List.setIfInBounds_toArray, List.set_cons_zero, List.set_cons_succ]
        refine H_assign 21 14 (.bool true) rfl (by kernel_rfl) (by kernel_rfl) (by kernel_rfl) (fun _ _ _ h => h) rfl rfl hHeld ?_
        try simp only [Act.put, List.setIfInBounds_toArray, List.set_cons_zero, List.set_cons_succ]
        refine wpAnyH_done (by kernel_rfl) ?_ _
        have HX : Hid (Below w.heap.size w W12) := HE11.out.trans (hHeld.mono HE11.out.size)
        go_wp2_with fail
        go_ret
        exact ⟨rfl, HX.out⟩
    · have h1' : 2 ≤ n := by omega
      have hsh : shortF ⟨tg, rc, f0, f1, n, e⟩ = false := by simp [shortF, h1]
      go_wp2_with fail
      obtain ⟨W4, hW4⟩ : ∃ W4, W4 = W3 := ⟨_, rfl⟩
      rw [← hW4]
      rw [← hW4] at HF5 HZ5 HZ6 HT5 HS5
      clear hW4
      have HF6 := HF5
      have HZ7 := HZ5
      have HZ8 := HZ6
      have HT6 := HT5
      have HS6 := HS5
      clear HF5 HZ5 HZ6 HT5 HS5
      have HSH := short_any HL Tm 0 ⟨tg, rc, f0, f1, n, e⟩ W4 HT6
      rw [hsh] at HSH
      refine HSH.mono ?_
      rintro x W5 ⟨rfl, hb5⟩
      have HF7 : Hid (Three w W5 tg rc f0 f1) := HF6.out.below hb5
      have HZ9 : Hid (Regs W5 W1.heap.size 0 (fun _ => 0)) := HZ7.out.below hb5
      have HZ10 : Hid (W5.cell? ⟨W1.heap.size + 1, 0, none⟩ = some (.int .u64 0) ∧ W5.cell? ⟨W1.heap.size + 1, 1, none⟩ = some (.int .u64 0)) := ⟨cell_below HZ8.out.1 hb5, cell_below HZ8.out.2 hb5⟩
      have HT7 : Hid (TombAt W5 Tm 0 ⟨tg, rc, f0, f1, n, e⟩) := HT6.out.below hb5
      have HS7 : Hid (StateAt W5 B ⟨node, set, rankF node.data.toList set.data.toList, 0, fun _ => 0, ⟨fun _ => 0, fun _ => 0, 0, 0, 0, 0⟩⟩) := HS6.out.below hb5
      clear hb5 HF6 HZ7 HZ8 HT6 HS6 HSH
      go_wp2_with fail
      refine (recvT_no HL B Tm ⟨tg, rc, f0, f1, n, e⟩ W5 HS7.out.holds HT7 hsh).mono ?_
      rintro x W6 ⟨rfl, hb6⟩
      have HF8 : Hid (Three w W6 tg rc f0 f1) := HF7.out.below hb6
      have HZ11 : Hid (Regs W6 W1.heap.size 0 (fun _ => 0)) := HZ9.out.below hb6
      have HZ12 : Hid (W6.cell? ⟨W1.heap.size + 1, 0, none⟩ = some (.int .u64 0) ∧ W6.cell? ⟨W1.heap.size + 1, 1, none⟩ = some (.int .u64 0)) := ⟨cell_below HZ10.out.1 hb6, cell_below HZ10.out.2 hb6⟩
      have HT8 : Hid (TombAt W6 Tm 0 ⟨tg, rc, f0, f1, n, e⟩) := HT7.out.below hb6
      have HS8 : Hid (StateAt W6 B ⟨node, set, rankF node.data.toList set.data.toList, 0, fun _ => 0, ⟨fun _ => 0, fun _ => 0, 0, 0, 0, 0⟩⟩) := HS7.out.below hb6
      clear hb6 HF7 HZ9 HZ10 HT7 HS7
      go_wp2_with fail
      refine wp_region_held_drew (S := fun w' => Below W6.heap.size W6 w') (by kernel_rfl) ((Below.refl _ _).drew) (fun hHeld => ?_)
      refine H_move 0 84 (.pointer none) rfl (by kernel_rfl) (by kernel_rfl) (by kernel_rfl) (fun _ _ _ h => h) rfl rfl hHeld ?_
      try simp only [Act.put, List.setIfInBounds_toArray, List.set_cons_zero, List.set_cons_succ]
      refine H_take 1 85 (.bool false) rfl rfl (by kernel_rfl) (by kernel_rfl) (by kernel_rfl) (fun _ _ _ h => h) rfl ?_ hHeld ?_
      · intro w' _; go_simp
      try simp only [Act.put, List.setIfInBounds_toArray, List.set_cons_zero, List.set_cons_succ]
      refine H_move 2 86 (.bool false) rfl (by kernel_rfl) (by kernel_rfl) (by kernel_rfl) (fun _ _ _ h => h) rfl rfl hHeld ?_
      try simp only [Act.put, List.setIfInBounds_toArray, List.set_cons_zero, List.set_cons_succ]
      refine H_move 3 87 (.pointer (some ⟨Tm, 0, none⟩)) rfl (by kernel_rfl) (by kernel_rfl) (by kernel_rfl) (fun _ _ _ h => h) rfl rfl hHeld ?_
      try simp only [Act.put, List.setIfInBounds_toArray, List.set_cons_zero, List.set_cons_succ]
      refine H_load 4 88 HL (w.heap.size) 0 tg rfl (by kernel_rfl) (by kernel_rfl) (by kernel_rfl) (fun _ _ _ h => h) rfl rfl (fun w' k => HF8.out.r1.below k) hHeld ?_
      try simp only [Act.put, List.setIfInBounds_toArray, List.set_cons_zero, List.set_cons_succ]
      refine H_load 5 89 HL (w.heap.size + 1) 0 rc rfl (by kernel_rfl) (by kernel_rfl) (by kernel_rfl) (fun _ _ _ h => h) rfl rfl (fun w' k => HF8.out.r2.below k) hHeld ?_
      try simp only [Act.put, List.setIfInBounds_toArray, List.set_cons_zero, List.set_cons_succ]
      refine H_load2 6 90 (w.heap.size + 1 + 1) 0 (.int .u64 f0) (.int .u64 f1) rfl (by kernel_rfl) (by kernel_rfl) (by kernel_rfl) (fun _ _ _ h => h) rfl rfl (fun w' k => ⟨cell_below (And.intro HF8.out.c0 HF8.out.c1).1 k, cell_below (And.intro HF8.out.c0 HF8.out.c1).2 k⟩) hHeld ?_
      try simp only [Act.put, List.setIfInBounds_toArray, List.set_cons_zero, List.set_cons_succ]
      refine H_move 7 91 (.int .i64 n) rfl (by kernel_rfl) (by kernel_rfl) (by kernel_rfl) (fun _ _ _ h => h) rfl rfl hHeld ?_
      try simp only [Act.put, List.setIfInBounds_toArray, List.set_cons_zero, List.set_cons_succ]
      refine H_move 8 92 (.int .u64 e) rfl (by kernel_rfl) (by kernel_rfl) (by kernel_rfl) (fun _ _ _ h => h) rfl rfl hHeld ?_
      try simp only [Act.put, List.setIfInBounds_toArray, List.set_cons_zero, List.set_cons_succ]
      refine wpAnyH_ready (rs := [9]) (by kernel_rfl) (by simp) ?_
      refine AllReadyH.cons rfl (fun K hK => ?_) AllReadyH.nil
      go_simp
      refine (tombIs_any HL Tm 0 ⟨tg, rc, f0, f1, n, e⟩ _ (HT8.out.below hHeld)).mono ?_
      rintro x Wa ⟨rfl, hba⟩
      refine hK.out _ _ (hHeld.trans (hba.mono hHeld.size)) (fun hHeld => ?_)
      clear hK K
      try simp only [Act.put, List.setIfInBounds_toArray, List.set_cons_zero, List.set_cons_succ]
      refine H_take 10 94 (.bool false) rfl rfl (by kernel_rfl) (by kernel_rfl) (by kernel_rfl) (fun _ _ _ h => h) rfl ?_ hHeld ?_
      · intro w' _; go_simp
      try simp only [Act.put, List.setIfInBounds_toArray, List.set_cons_zero, List.set_cons_succ]
      refine H_take 11 95 (.bool false) rfl rfl (by kernel_rfl) (by kernel_rfl) (by kernel_rfl) (fun _ _ _ h => h) rfl ?_ hHeld ?_
      · intro w' _; go_simp
      try simp only [Act.put, List.setIfInBounds_toArray, List.set_cons_zero, List.set_cons_succ]
      refine H_move 12 96 (.bool false) rfl (by kernel_rfl) (by kernel_rfl) (by kernel_rfl) (fun _ _ _ h => h) rfl rfl hHeld ?_
      try simp only [Act.put, List.setIfInBounds_toArray, List.set_cons_zero, List.set_cons_succ]
      refine H_move 13 97 (.pointer (some ⟨B, 0, none⟩)) rfl (by kernel_rfl) (by kernel_rfl) (by kernel_rfl) (fun _ _ _ h => h) rfl rfl hHeld ?_
      try simp only [Act.put, List.setIfInBounds_toArray, List.set_cons_zero, List.set_cons_succ]
      refine H_load 15 99 HL (W1.heap.size) 0 (fun _ => 0) rfl (by kernel_rfl) (by kernel_rfl) (by kernel_rfl) (fun _ _ _ h => h) rfl rfl (fun w' k => HZ11.out.below k) hHeld ?_
      try simp only [Act.put, List.setIfInBounds_toArray, List.set_cons_zero, List.set_cons_succ]
      refine wpAnyH_ready (rs := [14]) (by kernel_rfl) (by simp) ?_
      refine AllReadyH.cons rfl (fun K hK => ?_) AllReadyH.nil
      go_simp
      refine (stateRecord_any HL B (fun _ => 0) _ (HS8.out.rg.below hHeld)).mono ?_
      rintro x W7 ⟨rfl, hbb⟩
      refine hK.out _ _ (hHeld.trans (hbb.mono hHeld.size)) (fun hHeld => ?_)
      clear hK K
      try simp only [Act.put, List.setIfInBounds_toArray, List.set_cons_zero, List.set_cons_succ]
      refine H_take 16 100 (.bool false) rfl rfl (by kernel_rfl) (by kernel_rfl) (by kernel_rfl) (fun _ _ _ h => h) rfl ?_ hHeld ?_
      · intro w' _; have := eqF_refl (fun _ => 0); go_simp
      try simp only [Act.put, List.setIfInBounds_toArray, List.set_cons_zero, List.set_cons_succ]
      refine H_take 17 101 (.bool false) rfl rfl (by kernel_rfl) (by kernel_rfl) (by kernel_rfl) (fun _ _ _ h => h) rfl ?_ hHeld ?_
      · intro w' _; go_simp
      try simp only [Act.put, List.setIfInBounds_toArray, List.set_cons_zero, List.set_cons_succ]
      refine wpAnyH_done (by kernel_rfl) ?_ _
      have HZ13 : Hid (Regs W7 W1.heap.size 0 (fun _ => 0)) := HZ11.out.below hHeld
      have HZ14 : Hid (W7.cell? ⟨W1.heap.size + 1, 0, none⟩ = some (.int .u64 0) ∧ W7.cell? ⟨W1.heap.size + 1, 1, none⟩ = some (.int .u64 0)) := ⟨cell_below HZ12.out.1 hHeld, cell_below HZ12.out.2 hHeld⟩
      have HS9 : Hid (StateAt W7 B ⟨node, set, rankF node.data.toList set.data.toList, 0, fun _ => 0, ⟨fun _ => 0, fun _ => 0, 0, 0, 0, 0⟩⟩) := HS8.out.below hHeld
      have HE9 : Hid (Below w.heap.size w W7) := HF8.out.bel.trans (hHeld.mono HF8.out.bel.size)
      clear hHeld hba hbb HF8 HZ11 HZ12 HT8 HS8
      go_wp2_with fail
      refine wp_region_held_drew (S := fun w' => Below W7.heap.size W7 w') (by kernel_rfl) ((Below.refl _ _).drew) (fun hHeld => ?_)
      refine H_move 0 104 (.int .i64 0) rfl (by kernel_rfl) (by kernel_rfl) (by kernel_rfl) (fun _ _ _ h => h) rfl rfl hHeld ?_
      try simp only [Act.put, List.setIfInBounds_toArray, List.set_cons_zero, List.set_cons_succ]
      refine H_take 1 105 (.bool true) rfl rfl (by kernel_rfl) (by kernel_rfl) (by kernel_rfl) (fun _ _ _ h => h) rfl ?_ hHeld ?_
      · intro w' _; go_simp
      try simp only [Act.put, List.setIfInBounds_toArray, List.set_cons_zero, List.set_cons_succ]
      refine H_move 2 106 (.bool true) rfl (by kernel_rfl) (by kernel_rfl) (by kernel_rfl) (fun _ _ _ h => h) rfl rfl hHeld ?_
      try simp only [Act.put, List.setIfInBounds_toArray, List.set_cons_zero, List.set_cons_succ]
      refine H_move 3 107 (.pointer (some ⟨B, 0, none⟩)) rfl (by kernel_rfl) (by kernel_rfl) (by kernel_rfl) (fun _ _ _ h => h) rfl rfl hHeld ?_
      try simp only [Act.put, List.setIfInBounds_toArray, List.set_cons_zero, List.set_cons_succ]
      refine wpAnyH_ready (rs := [4]) (by kernel_rfl) (by simp) ?_
      refine AllReadyH.cons rfl (fun K hK => ?_) AllReadyH.nil
      go_simp
      refine (holdsT_no B _ (HS9.out.below hHeld).holds).mono ?_
      rintro x w' ⟨rfl, hw⟩
      rw [hw]
      clear hw w'
      refine hK.out _ _ (hHeld) (fun hHeld => ?_)
      clear hK K
      try simp only [Act.put, List.setIfInBounds_toArray, List.set_cons_zero, List.set_cons_succ]
      refine H_take 5 109 (.bool true) rfl rfl (by kernel_rfl) (by kernel_rfl) (by kernel_rfl) (fun _ _ _ h => h) rfl ?_ hHeld ?_
      · intro w' _; go_simp
      try simp only [Act.put, List.setIfInBounds_toArray, List.set_cons_zero, List.set_cons_succ]
      refine H_take 6 110 (.bool true) rfl rfl (by kernel_rfl) (by kernel_rfl) (by kernel_rfl) (fun _ _ _ h => h) rfl ?_ hHeld ?_
      · intro w' _; go_simp
      try simp only [Act.put, List.setIfInBounds_toArray, List.set_cons_zero, List.set_cons_succ]
      refine H_move 7 111 (.bool true) rfl (by kernel_rfl) (by kernel_rfl) (by kernel_rfl) (fun _ _ _ h => h) rfl rfl hHeld ?_
      try simp only [Act.put, List.setIfInBounds_toArray, List.set_cons_zero, List.set_cons_succ]
      refine H_move 8 112 (.pointer (some ⟨B, 0, none⟩)) rfl (by kernel_rfl) (by kernel_rfl) (by kernel_rfl) (fun _ _ _ h => h) rfl rfl hHeld ?_
      try simp only [Act.put, List.setIfInBounds_toArray, List.set_cons_zero, List.set_cons_succ]
      refine wpAnyH_ready (rs := [9]) (by kernel_rfl) (by simp) ?_
      refine AllReadyH.cons rfl (fun K hK => ?_) AllReadyH.nil
      go_simp
      refine (stateHolds_any B 0 _ (HS9.out.below hHeld).holds (by decide) (by decide)).mono ?_
      rintro x w' ⟨rfl, hw⟩
      rw [hw]
      clear hw w'
      refine hK.out _ _ (hHeld) (fun hHeld => ?_)
      clear hK K
      try simp only [Act.put, List.setIfInBounds_toArray, List.set_cons_zero, List.set_cons_succ]
      refine H_take 10 114 (.bool true) rfl rfl (by kernel_rfl) (by kernel_rfl) (by kernel_rfl) (fun _ _ _ h => h) rfl ?_ hHeld ?_
      · intro w' _; go_simp
      try simp only [Act.put, List.setIfInBounds_toArray, List.set_cons_zero, List.set_cons_succ]
      refine H_take 11 115 (.bool true) rfl rfl (by kernel_rfl) (by kernel_rfl) (by kernel_rfl) (fun _ _ _ h => h) rfl ?_ hHeld ?_
      · intro w' _; go_simp
      try simp only [Act.put, List.setIfInBounds_toArray, List.set_cons_zero, List.set_cons_succ]
      refine H_move 12 116 (.bool true) rfl (by kernel_rfl) (by kernel_rfl) (by kernel_rfl) (fun _ _ _ h => h) rfl rfl hHeld ?_
      try simp only [Act.put, List.setIfInBounds_toArray, List.set_cons_zero, List.set_cons_succ]
      refine H_move 13 117 (.pointer (some ⟨B, 0, none⟩)) rfl (by kernel_rfl) (by kernel_rfl) (by kernel_rfl) (fun _ _ _ h => h) rfl rfl hHeld ?_
      try simp only [Act.put, List.setIfInBounds_toArray, List.set_cons_zero, List.set_cons_succ]
      refine H_load 15 119 HL (W1.heap.size) 0 (fun _ => 0) rfl (by kernel_rfl) (by kernel_rfl) (by kernel_rfl) (fun _ _ _ h => h) rfl rfl (fun w' k => HZ13.out.below k) hHeld ?_
      try simp only [Act.put, List.setIfInBounds_toArray, List.set_cons_zero, List.set_cons_succ]
      refine H_load 16 120 HL (W1.heap.size) 0 (fun _ => 0) rfl (by kernel_rfl) (by kernel_rfl) (by kernel_rfl) (fun _ _ _ h => h) rfl rfl (fun w' k => HZ13.out.below k) hHeld ?_
      try simp only [Act.put, List.setIfInBounds_toArray, List.set_cons_zero, List.set_cons_succ]
      refine H_load2 17 121 (W1.heap.size + 1) 0 (.int .u64 0) (.int .u64 0) rfl (by kernel_rfl) (by kernel_rfl) (by kernel_rfl) (fun _ _ _ h => h) rfl rfl (fun w' k => ⟨cell_below HZ14.out.1 k, cell_below HZ14.out.2 k⟩) hHeld ?_
      try simp only [Act.put, List.setIfInBounds_toArray, List.set_cons_zero, List.set_cons_succ]
      refine wpAnyH_ready (rs := [14]) (by kernel_rfl) (by simp) ?_
      refine AllReadyH.cons rfl (fun K hK => ?_) AllReadyH.nil
      go_simp
      refine (stateTomb_any B _).mono ?_
      rintro x w' ⟨rfl, hw⟩
      rw [hw]
      clear hw w'
      refine hK.out _ _ (hHeld) (fun hHeld => ?_)
      clear hK K
      try simp only [Act.put, List.setIfInBounds_toArray, List.set_cons_zero, List.set_cons_succ]
      refine wpAnyH_ready (rs := [18]) (by kernel_rfl) (by simp) ?_
      refine AllReadyH.cons rfl (fun K hK => ?_) AllReadyH.nil
      go_simp
      refine (tombIs_any HL B 1028 ⟨fun _ => 0, fun _ => 0, 0, 0, 0, 0⟩ _ (HS9.out.below hHeld).tb).mono ?_
      rintro x W8 ⟨rfl, hb8⟩
      refine hK.out _ _ (hHeld.trans (hb8.mono hHeld.size)) (fun hHeld => ?_)
      clear hK K
      try simp only [Act.put, List.setIfInBounds_toArray, List.set_cons_zero, List.set_cons_succ]
      refine H_take 19 123 (.bool true) rfl rfl (by kernel_rfl) (by kernel_rfl) (by kernel_rfl) (fun _ _ _ h => h) rfl ?_ hHeld ?_
      · intro w' _; go_simp
      try simp only [Act.put, List.setIfInBounds_toArray, List.set_cons_zero, List.set_cons_succ]
      refine H_assign 20 14 (.bool true) rfl (by kernel_rfl) (by kernel_rfl) (by kernel_rfl) (fun _ _ _ h => h) rfl rfl hHeld ?_
      try simp only [Act.put, List.setIfInBounds_toArray, List.set_cons_zero, List.set_cons_succ]
      refine wpAnyH_done (by kernel_rfl) ?_ _
      have HX : Hid (Below w.heap.size w W8) := HE9.out.trans (hHeld.mono HE9.out.size)
      go_wp2_with fail
      go_ret
      exact ⟨rfl, HX.out⟩
  · have h0' : e ≤ 0 := by omega
    have hsh : shortF ⟨tg, rc, f0, f1, n, e⟩ = false := by simp [shortF, h0]
    go_wp2_with fail
    obtain ⟨W4, hW4⟩ : ∃ W4, W4 = W3 := ⟨_, rfl⟩
    rw [← hW4]
    rw [← hW4] at HF5 HZ5 HZ6 HT5 HS5
    clear hW4
    have HF6 := HF5
    have HZ7 := HZ5
    have HZ8 := HZ6
    have HT6 := HT5
    have HS6 := HS5
    clear HF5 HZ5 HZ6 HT5 HS5
    have HSH := short_any HL Tm 0 ⟨tg, rc, f0, f1, n, e⟩ W4 HT6
    rw [hsh] at HSH
    refine HSH.mono ?_
    rintro x W5 ⟨rfl, hb5⟩
    have HF7 : Hid (Three w W5 tg rc f0 f1) := HF6.out.below hb5
    have HZ9 : Hid (Regs W5 W1.heap.size 0 (fun _ => 0)) := HZ7.out.below hb5
    have HZ10 : Hid (W5.cell? ⟨W1.heap.size + 1, 0, none⟩ = some (.int .u64 0) ∧ W5.cell? ⟨W1.heap.size + 1, 1, none⟩ = some (.int .u64 0)) := ⟨cell_below HZ8.out.1 hb5, cell_below HZ8.out.2 hb5⟩
    have HT7 : Hid (TombAt W5 Tm 0 ⟨tg, rc, f0, f1, n, e⟩) := HT6.out.below hb5
    have HS7 : Hid (StateAt W5 B ⟨node, set, rankF node.data.toList set.data.toList, 0, fun _ => 0, ⟨fun _ => 0, fun _ => 0, 0, 0, 0, 0⟩⟩) := HS6.out.below hb5
    clear hb5 HF6 HZ7 HZ8 HT6 HS6 HSH
    go_wp2_with fail
    refine (recvT_no HL B Tm ⟨tg, rc, f0, f1, n, e⟩ W5 HS7.out.holds HT7 hsh).mono ?_
    rintro x W6 ⟨rfl, hb6⟩
    have HF8 : Hid (Three w W6 tg rc f0 f1) := HF7.out.below hb6
    have HZ11 : Hid (Regs W6 W1.heap.size 0 (fun _ => 0)) := HZ9.out.below hb6
    have HZ12 : Hid (W6.cell? ⟨W1.heap.size + 1, 0, none⟩ = some (.int .u64 0) ∧ W6.cell? ⟨W1.heap.size + 1, 1, none⟩ = some (.int .u64 0)) := ⟨cell_below HZ10.out.1 hb6, cell_below HZ10.out.2 hb6⟩
    have HT8 : Hid (TombAt W6 Tm 0 ⟨tg, rc, f0, f1, n, e⟩) := HT7.out.below hb6
    have HS8 : Hid (StateAt W6 B ⟨node, set, rankF node.data.toList set.data.toList, 0, fun _ => 0, ⟨fun _ => 0, fun _ => 0, 0, 0, 0, 0⟩⟩) := HS7.out.below hb6
    clear hb6 HF7 HZ9 HZ10 HT7 HS7
    go_wp2_with fail
    refine wp_region_held_drew (S := fun w' => Below W6.heap.size W6 w') (by kernel_rfl) ((Below.refl _ _).drew) (fun hHeld => ?_)
    refine H_move 0 84 (.pointer none) rfl (by kernel_rfl) (by kernel_rfl) (by kernel_rfl) (fun _ _ _ h => h) rfl rfl hHeld ?_
    try simp only [Act.put, List.setIfInBounds_toArray, List.set_cons_zero, List.set_cons_succ]
    refine H_take 1 85 (.bool false) rfl rfl (by kernel_rfl) (by kernel_rfl) (by kernel_rfl) (fun _ _ _ h => h) rfl ?_ hHeld ?_
    · intro w' _; go_simp
    try simp only [Act.put, List.setIfInBounds_toArray, List.set_cons_zero, List.set_cons_succ]
    refine H_move 2 86 (.bool false) rfl (by kernel_rfl) (by kernel_rfl) (by kernel_rfl) (fun _ _ _ h => h) rfl rfl hHeld ?_
    try simp only [Act.put, List.setIfInBounds_toArray, List.set_cons_zero, List.set_cons_succ]
    refine H_move 3 87 (.pointer (some ⟨Tm, 0, none⟩)) rfl (by kernel_rfl) (by kernel_rfl) (by kernel_rfl) (fun _ _ _ h => h) rfl rfl hHeld ?_
    try simp only [Act.put, List.setIfInBounds_toArray, List.set_cons_zero, List.set_cons_succ]
    refine H_load 4 88 HL (w.heap.size) 0 tg rfl (by kernel_rfl) (by kernel_rfl) (by kernel_rfl) (fun _ _ _ h => h) rfl rfl (fun w' k => HF8.out.r1.below k) hHeld ?_
    try simp only [Act.put, List.setIfInBounds_toArray, List.set_cons_zero, List.set_cons_succ]
    refine H_load 5 89 HL (w.heap.size + 1) 0 rc rfl (by kernel_rfl) (by kernel_rfl) (by kernel_rfl) (fun _ _ _ h => h) rfl rfl (fun w' k => HF8.out.r2.below k) hHeld ?_
    try simp only [Act.put, List.setIfInBounds_toArray, List.set_cons_zero, List.set_cons_succ]
    refine H_load2 6 90 (w.heap.size + 1 + 1) 0 (.int .u64 f0) (.int .u64 f1) rfl (by kernel_rfl) (by kernel_rfl) (by kernel_rfl) (fun _ _ _ h => h) rfl rfl (fun w' k => ⟨cell_below (And.intro HF8.out.c0 HF8.out.c1).1 k, cell_below (And.intro HF8.out.c0 HF8.out.c1).2 k⟩) hHeld ?_
    try simp only [Act.put, List.setIfInBounds_toArray, List.set_cons_zero, List.set_cons_succ]
    refine H_move 7 91 (.int .i64 n) rfl (by kernel_rfl) (by kernel_rfl) (by kernel_rfl) (fun _ _ _ h => h) rfl rfl hHeld ?_
    try simp only [Act.put, List.setIfInBounds_toArray, List.set_cons_zero, List.set_cons_succ]
    refine H_move 8 92 (.int .u64 e) rfl (by kernel_rfl) (by kernel_rfl) (by kernel_rfl) (fun _ _ _ h => h) rfl rfl hHeld ?_
    try simp only [Act.put, List.setIfInBounds_toArray, List.set_cons_zero, List.set_cons_succ]
    refine wpAnyH_ready (rs := [9]) (by kernel_rfl) (by simp) ?_
    refine AllReadyH.cons rfl (fun K hK => ?_) AllReadyH.nil
    go_simp
    refine (tombIs_any HL Tm 0 ⟨tg, rc, f0, f1, n, e⟩ _ (HT8.out.below hHeld)).mono ?_
    rintro x Wa ⟨rfl, hba⟩
    refine hK.out _ _ (hHeld.trans (hba.mono hHeld.size)) (fun hHeld => ?_)
    clear hK K
    try simp only [Act.put, List.setIfInBounds_toArray, List.set_cons_zero, List.set_cons_succ]
    refine H_take 10 94 (.bool false) rfl rfl (by kernel_rfl) (by kernel_rfl) (by kernel_rfl) (fun _ _ _ h => h) rfl ?_ hHeld ?_
    · intro w' _; go_simp
    try simp only [Act.put, List.setIfInBounds_toArray, List.set_cons_zero, List.set_cons_succ]
    refine H_take 11 95 (.bool false) rfl rfl (by kernel_rfl) (by kernel_rfl) (by kernel_rfl) (fun _ _ _ h => h) rfl ?_ hHeld ?_
    · intro w' _; go_simp
    try simp only [Act.put, List.setIfInBounds_toArray, List.set_cons_zero, List.set_cons_succ]
    refine H_move 12 96 (.bool false) rfl (by kernel_rfl) (by kernel_rfl) (by kernel_rfl) (fun _ _ _ h => h) rfl rfl hHeld ?_
    try simp only [Act.put, List.setIfInBounds_toArray, List.set_cons_zero, List.set_cons_succ]
    refine H_move 13 97 (.pointer (some ⟨B, 0, none⟩)) rfl (by kernel_rfl) (by kernel_rfl) (by kernel_rfl) (fun _ _ _ h => h) rfl rfl hHeld ?_
    try simp only [Act.put, List.setIfInBounds_toArray, List.set_cons_zero, List.set_cons_succ]
    refine H_load 15 99 HL (W1.heap.size) 0 (fun _ => 0) rfl (by kernel_rfl) (by kernel_rfl) (by kernel_rfl) (fun _ _ _ h => h) rfl rfl (fun w' k => HZ11.out.below k) hHeld ?_
    try simp only [Act.put, List.setIfInBounds_toArray, List.set_cons_zero, List.set_cons_succ]
    refine wpAnyH_ready (rs := [14]) (by kernel_rfl) (by simp) ?_
    refine AllReadyH.cons rfl (fun K hK => ?_) AllReadyH.nil
    go_simp
    refine (stateRecord_any HL B (fun _ => 0) _ (HS8.out.rg.below hHeld)).mono ?_
    rintro x W7 ⟨rfl, hbb⟩
    refine hK.out _ _ (hHeld.trans (hbb.mono hHeld.size)) (fun hHeld => ?_)
    clear hK K
    try simp only [Act.put, List.setIfInBounds_toArray, List.set_cons_zero, List.set_cons_succ]
    refine H_take 16 100 (.bool false) rfl rfl (by kernel_rfl) (by kernel_rfl) (by kernel_rfl) (fun _ _ _ h => h) rfl ?_ hHeld ?_
    · intro w' _; have := eqF_refl (fun _ => 0); go_simp
    try simp only [Act.put, List.setIfInBounds_toArray, List.set_cons_zero, List.set_cons_succ]
    refine H_take 17 101 (.bool false) rfl rfl (by kernel_rfl) (by kernel_rfl) (by kernel_rfl) (fun _ _ _ h => h) rfl ?_ hHeld ?_
    · intro w' _; go_simp
    try simp only [Act.put, List.setIfInBounds_toArray, List.set_cons_zero, List.set_cons_succ]
    refine wpAnyH_done (by kernel_rfl) ?_ _
    have HZ13 : Hid (Regs W7 W1.heap.size 0 (fun _ => 0)) := HZ11.out.below hHeld
    have HZ14 : Hid (W7.cell? ⟨W1.heap.size + 1, 0, none⟩ = some (.int .u64 0) ∧ W7.cell? ⟨W1.heap.size + 1, 1, none⟩ = some (.int .u64 0)) := ⟨cell_below HZ12.out.1 hHeld, cell_below HZ12.out.2 hHeld⟩
    have HS9 : Hid (StateAt W7 B ⟨node, set, rankF node.data.toList set.data.toList, 0, fun _ => 0, ⟨fun _ => 0, fun _ => 0, 0, 0, 0, 0⟩⟩) := HS8.out.below hHeld
    have HE9 : Hid (Below w.heap.size w W7) := HF8.out.bel.trans (hHeld.mono HF8.out.bel.size)
    clear hHeld hba hbb HF8 HZ11 HZ12 HT8 HS8
    go_wp2_with fail
    refine wp_region_held_drew (S := fun w' => Below W7.heap.size W7 w') (by kernel_rfl) ((Below.refl _ _).drew) (fun hHeld => ?_)
    refine H_move 0 104 (.int .i64 0) rfl (by kernel_rfl) (by kernel_rfl) (by kernel_rfl) (fun _ _ _ h => h) rfl rfl hHeld ?_
    try simp only [Act.put, List.setIfInBounds_toArray, List.set_cons_zero, List.set_cons_succ]
    refine H_take 1 105 (.bool true) rfl rfl (by kernel_rfl) (by kernel_rfl) (by kernel_rfl) (fun _ _ _ h => h) rfl ?_ hHeld ?_
    · intro w' _; go_simp
    try simp only [Act.put, List.setIfInBounds_toArray, List.set_cons_zero, List.set_cons_succ]
    refine H_move 2 106 (.bool true) rfl (by kernel_rfl) (by kernel_rfl) (by kernel_rfl) (fun _ _ _ h => h) rfl rfl hHeld ?_
    try simp only [Act.put, List.setIfInBounds_toArray, List.set_cons_zero, List.set_cons_succ]
    refine H_move 3 107 (.pointer (some ⟨B, 0, none⟩)) rfl (by kernel_rfl) (by kernel_rfl) (by kernel_rfl) (fun _ _ _ h => h) rfl rfl hHeld ?_
    try simp only [Act.put, List.setIfInBounds_toArray, List.set_cons_zero, List.set_cons_succ]
    refine wpAnyH_ready (rs := [4]) (by kernel_rfl) (by simp) ?_
    refine AllReadyH.cons rfl (fun K hK => ?_) AllReadyH.nil
    go_simp
    refine (holdsT_no B _ (HS9.out.below hHeld).holds).mono ?_
    rintro x w' ⟨rfl, hw⟩
    rw [hw]
    clear hw w'
    refine hK.out _ _ (hHeld) (fun hHeld => ?_)
    clear hK K
    try simp only [Act.put, List.setIfInBounds_toArray, List.set_cons_zero, List.set_cons_succ]
    refine H_take 5 109 (.bool true) rfl rfl (by kernel_rfl) (by kernel_rfl) (by kernel_rfl) (fun _ _ _ h => h) rfl ?_ hHeld ?_
    · intro w' _; go_simp
    try simp only [Act.put, List.setIfInBounds_toArray, List.set_cons_zero, List.set_cons_succ]
    refine H_take 6 110 (.bool true) rfl rfl (by kernel_rfl) (by kernel_rfl) (by kernel_rfl) (fun _ _ _ h => h) rfl ?_ hHeld ?_
    · intro w' _; go_simp
    try simp only [Act.put, List.setIfInBounds_toArray, List.set_cons_zero, List.set_cons_succ]
    refine H_move 7 111 (.bool true) rfl (by kernel_rfl) (by kernel_rfl) (by kernel_rfl) (fun _ _ _ h => h) rfl rfl hHeld ?_
    try simp only [Act.put, List.setIfInBounds_toArray, List.set_cons_zero, List.set_cons_succ]
    refine H_move 8 112 (.pointer (some ⟨B, 0, none⟩)) rfl (by kernel_rfl) (by kernel_rfl) (by kernel_rfl) (fun _ _ _ h => h) rfl rfl hHeld ?_
    try simp only [Act.put, List.setIfInBounds_toArray, List.set_cons_zero, List.set_cons_succ]
    refine wpAnyH_ready (rs := [9]) (by kernel_rfl) (by simp) ?_
    refine AllReadyH.cons rfl (fun K hK => ?_) AllReadyH.nil
    go_simp
    refine (stateHolds_any B 0 _ (HS9.out.below hHeld).holds (by decide) (by decide)).mono ?_
    rintro x w' ⟨rfl, hw⟩
    rw [hw]
    clear hw w'
    refine hK.out _ _ (hHeld) (fun hHeld => ?_)
    clear hK K
    try simp only [Act.put, List.setIfInBounds_toArray, List.set_cons_zero, List.set_cons_succ]
    refine H_take 10 114 (.bool true) rfl rfl (by kernel_rfl) (by kernel_rfl) (by kernel_rfl) (fun _ _ _ h => h) rfl ?_ hHeld ?_
    · intro w' _; go_simp
    try simp only [Act.put, List.setIfInBounds_toArray, List.set_cons_zero, List.set_cons_succ]
    refine H_take 11 115 (.bool true) rfl rfl (by kernel_rfl) (by kernel_rfl) (by kernel_rfl) (fun _ _ _ h => h) rfl ?_ hHeld ?_
    · intro w' _; go_simp
    try simp only [Act.put, List.setIfInBounds_toArray, List.set_cons_zero, List.set_cons_succ]
    refine H_move 12 116 (.bool true) rfl (by kernel_rfl) (by kernel_rfl) (by kernel_rfl) (fun _ _ _ h => h) rfl rfl hHeld ?_
    try simp only [Act.put, List.setIfInBounds_toArray, List.set_cons_zero, List.set_cons_succ]
    refine H_move 13 117 (.pointer (some ⟨B, 0, none⟩)) rfl (by kernel_rfl) (by kernel_rfl) (by kernel_rfl) (fun _ _ _ h => h) rfl rfl hHeld ?_
    try simp only [Act.put, List.setIfInBounds_toArray, List.set_cons_zero, List.set_cons_succ]
    refine H_load 15 119 HL (W1.heap.size) 0 (fun _ => 0) rfl (by kernel_rfl) (by kernel_rfl) (by kernel_rfl) (fun _ _ _ h => h) rfl rfl (fun w' k => HZ13.out.below k) hHeld ?_
    try simp only [Act.put, List.setIfInBounds_toArray, List.set_cons_zero, List.set_cons_succ]
    refine H_load 16 120 HL (W1.heap.size) 0 (fun _ => 0) rfl (by kernel_rfl) (by kernel_rfl) (by kernel_rfl) (fun _ _ _ h => h) rfl rfl (fun w' k => HZ13.out.below k) hHeld ?_
    try simp only [Act.put, List.setIfInBounds_toArray, List.set_cons_zero, List.set_cons_succ]
    refine H_load2 17 121 (W1.heap.size + 1) 0 (.int .u64 0) (.int .u64 0) rfl (by kernel_rfl) (by kernel_rfl) (by kernel_rfl) (fun _ _ _ h => h) rfl rfl (fun w' k => ⟨cell_below HZ14.out.1 k, cell_below HZ14.out.2 k⟩) hHeld ?_
    try simp only [Act.put, List.setIfInBounds_toArray, List.set_cons_zero, List.set_cons_succ]
    refine wpAnyH_ready (rs := [14]) (by kernel_rfl) (by simp) ?_
    refine AllReadyH.cons rfl (fun K hK => ?_) AllReadyH.nil
    go_simp
    refine (stateTomb_any B _).mono ?_
    rintro x w' ⟨rfl, hw⟩
    rw [hw]
    clear hw w'
    refine hK.out _ _ (hHeld) (fun hHeld => ?_)
    clear hK K
    try simp only [Act.put, List.setIfInBounds_toArray, List.set_cons_zero, List.set_cons_succ]
    refine wpAnyH_ready (rs := [18]) (by kernel_rfl) (by simp) ?_
    refine AllReadyH.cons rfl (fun K hK => ?_) AllReadyH.nil
    go_simp
    refine (tombIs_any HL B 1028 ⟨fun _ => 0, fun _ => 0, 0, 0, 0, 0⟩ _ (HS9.out.below hHeld).tb).mono ?_
    rintro x W8 ⟨rfl, hb8⟩
    refine hK.out _ _ (hHeld.trans (hb8.mono hHeld.size)) (fun hHeld => ?_)
    clear hK K
    try simp only [Act.put, List.setIfInBounds_toArray, List.set_cons_zero, List.set_cons_succ]
    refine H_take 19 123 (.bool true) rfl rfl (by kernel_rfl) (by kernel_rfl) (by kernel_rfl) (fun _ _ _ h => h) rfl ?_ hHeld ?_
    · intro w' _; go_simp
    try simp only [Act.put, List.setIfInBounds_toArray, List.set_cons_zero, List.set_cons_succ]
    refine H_assign 20 14 (.bool true) rfl (by kernel_rfl) (by kernel_rfl) (by kernel_rfl) (fun _ _ _ h => h) rfl rfl hHeld ?_
    try simp only [Act.put, List.setIfInBounds_toArray, List.set_cons_zero, List.set_cons_succ]
    refine wpAnyH_done (by kernel_rfl) ?_ _
    have HX : Hid (Below w.heap.size w W8) := HE9.out.trans (hHeld.mono HE9.out.size)
    go_wp2_with fail
    go_ret
    exact ⟨rfl, HX.out⟩
end Go.Proofs.Qxb6612204a
