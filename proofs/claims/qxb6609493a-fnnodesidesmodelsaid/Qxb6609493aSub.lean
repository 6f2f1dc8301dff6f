import Derived.Test.Qxb6609493aAddr
namespace Go.Proofs.Qxb6609493a
open Go.RowKit

set_option maxHeartbeats 4000000 in
theorem sub_core {L : (Nat → Int) → List Value} (HL : IsL L) (a b s : Nat → Int) (ah am al bh bm bo' d1 b1 d2 b2 d3 : Int) (w : World)
    (Ca : Hid (∀ w : World, Calls Try.prog 32 #[.agg (L a).toArray] w fun e w' => e = .returned (.agg ([.int .u32 ah, .int .u64 am, .int .u64 al] : List Value).toArray) ∧ Below w.heap.size w w'))
    (Cb : Hid (∀ w : World, Calls Try.prog 32 #[.agg (L b).toArray] w fun e w' => e = .returned (.agg ([.int .u32 bh, .int .u64 bm, .int .u64 bo'] : List Value).toArray) ∧ Below w.heap.size w w'))
    (R1 : Hid (∀ w : World, (callFunc 33 #[.int .u64 al, .int .u64 bo', .int .u64 0]).run Try.prog w = .ok (.value (.tuple #[.int .u64 d1, .int .u64 b1])) w))
    (R2 : Hid (∀ w : World, (callFunc 33 #[.int .u64 am, .int .u64 bm, .int .u64 b1]).run Try.prog w = .ok (.value (.tuple #[.int .u64 d2, .int .u64 b2])) w))
    (hw32 : IntKind.u32.wrap b2 = b2)
    (C3 : Hid (∀ w : World, Calls Try.prog 34 #[.int .u32 ah, .int .u32 bh, .int .u32 b2] w fun e w' => ∃ c, e = .returned (.tuple #[.int .u32 d3, .int .u32 c]) ∧ w' = w))
    (C4 : Hid (∀ w : World, Calls Try.prog 35 #[.agg ([.int .u32 d3, .int .u64 d2, .int .u64 d1] : List Value).toArray] w fun e w' => e = .returned (.agg (L s).toArray) ∧ Below w.heap.size w w')) :
    Calls Try.prog 29 #[.agg (L a).toArray, .agg (L b).toArray] w fun e w' => e = .returned (.agg (L s).toArray) ∧ Below w.heap.size w w' := by
  go_enter Try.func29, Try.ntmps29
  go_wp2_with (first | ((with_reducible refine D_box 51 2 (L a) ?_ ?_); (rfl); (intro p2 w2 g2 l2 m2 B2)) | ((with_reducible refine D_box 51 3 (L b) ?_ ?_); (rfl); (intro p3 w3 g3 l3 m3 B3)) | ((with_reducible refine D_new 51 4 _ (L_zero HL).2 ?_); (intro p4 w4 g4 l4 m4 B4)))
  have m2 := m2.below (bl B3 B4) l2
  have l2 := Nat.lt_of_lt_of_le l2 (bl B3 B4).size
  have m3 := m3.below B4 l3
  have l3 := Nat.lt_of_lt_of_le l3 B4.size
  have BW : Below w.heap.size w w4 := bl (bl B2 B3) B4
  have q4 : w.heap.size ≤ p4 := Nat.le_trans (bl B2 B3).size g4
  clear B2 B3 B4 g2 g3 g4
  refine cut2 (fun a' p q => ((((((a'.put (some 12) (.agg (L a).toArray)).put (some 13) (.agg ([.int .u32 ah, .int .u64 am, .int .u64 al] : List Value).toArray)).put (some 14) (.agg (L b).toArray)).put (some 15) (.agg ([.int .u32 bh, .int .u64 bm, .int .u64 bo'] : List Value).toArray)).put (some 5) (.pointer (some ⟨p, 0, none⟩))).put (some 6) (.pointer (some ⟨q, 0, none⟩)))) (fun p q w' => Below w4.heap.size w4 w' ∧ Mem w' p 0 ([.int .u32 ah, .int .u64 am, .int .u64 al] : List Value) ∧ Mem w' q 0 ([.int .u32 bh, .int .u64 bm, .int .u64 bo'] : List Value)) ?_ ?_
  · try simp only [Act.put, List.setIfInBounds_toArray, List.set_cons_zero, List.set_cons_succ]
    refine wp_region_held_drew (S := fun w' => Below w4.heap.size w4 w') (by kernel_rfl) (below_drew _ w4) (fun hHeld => ?_)
    refine H_load 51 0 12 ta51 (L a) (L_len HL a) (p2) (0) rfl (by kernel_rfl) (by kernel_rfl) (by kernel_rfl) (fun _ _ _ ⟨_, _, h, _⟩ => nomatch h) rfl rfl (fun w' h => m2.below h l2) hHeld ?_
    try simp only [Act.put, List.setIfInBounds_toArray, List.set_cons_zero, List.set_cons_succ]
    refine H_load 51 2 14 ta51 (L b) (L_len HL b) (p3) (0) rfl (by kernel_rfl) (by kernel_rfl) (by kernel_rfl) (fun _ _ _ ⟨_, _, h, _⟩ => nomatch h) rfl rfl (fun w' h => m3.below h l3) hHeld ?_
    try simp only [Act.put, List.setIfInBounds_toArray, List.set_cons_zero, List.set_cons_succ]
    refine wpAnyH_ready (rs := [1, 4, 5]) (by kernel_rfl) (by simp) ?_
    refine (AllReadyH.cons rfl (fun K hK => ?_) (AllReadyH.cons rfl (fun K hK => ?_) (AllReadyH.cons rfl (fun K hK => ?_) AllReadyH.nil)))
    · go_simp
      refine (Ca.out _).mono ?_
      rintro e v1 ⟨rfl, hB1⟩
      refine hK.out _ _ (bl hHeld hB1) (fun hHeld => ?_)
      clear hK K
      try simp only [Act.put, List.setIfInBounds_toArray, List.set_cons_zero, List.set_cons_succ]
      refine wpAnyH_ready (rs := [3, 4, 5]) (by kernel_rfl) (by simp) ?_
      refine (AllReadyH.cons rfl (fun K hK => ?_) (AllReadyH.cons rfl (fun K hK => ?_) (AllReadyH.cons rfl (fun K hK => ?_) AllReadyH.nil)))
      · go_simp
        refine (Cb.out _).mono ?_
        rintro e v2 ⟨rfl, hB2⟩
        refine hK.out _ _ (bl hHeld hB2) (fun hHeld => ?_)
        clear hK K
        try simp only [Act.put, List.setIfInBounds_toArray, List.set_cons_zero, List.set_cons_succ]
        refine wpAnyH_ready (rs := [4, 5]) (by kernel_rfl) (by simp) ?_
        refine (AllReadyH.cons rfl (fun K hK => ?_) (AllReadyH.cons rfl (fun K hK => ?_) AllReadyH.nil))
        · rw [if_pos (by rfl)]
          simp only [List.getElem_toArray, List.getElem_cons_zero, List.getElem_cons_succ]
          with_reducible refine S_new 93 5 (([.int .u32 0, .int .u64 0, .int .u64 0] : List Value)) (zero93) ?_
          intro p5 v3 g5 l5 m5 hB3
          have q5 : w4.heap.size ≤ p5 := Nat.le_trans hHeld.size g5
          refine hK.out _ _ (bl hHeld hB3) (fun hHeld => ?_)
          clear hK K
          try simp only [Act.put, List.setIfInBounds_toArray, List.set_cons_zero, List.set_cons_succ]
          refine wpAnyH_ready (rs := [5]) (by kernel_rfl) (by simp) ?_
          refine (AllReadyH.cons rfl (fun K hK => ?_) AllReadyH.nil)
          rw [if_pos (by rfl)]
          simp only [List.getElem_toArray, List.getElem_cons_zero, List.getElem_cons_succ]
          with_reducible refine S_new 93 6 (([.int .u32 0, .int .u64 0, .int .u64 0] : List Value)) (zero93) ?_
          intro p6 v4 g6 l6 m6 hB4
          have q6 : w4.heap.size ≤ p6 := Nat.le_trans hHeld.size g6
          refine hK.out _ _ (bl hHeld hB4) (fun hHeld => ?_)
          clear hK K
          try simp only [Act.put, List.setIfInBounds_toArray, List.set_cons_zero, List.set_cons_succ]
          have n5_6 : p5 ≠ p6 := by omega
          have m5 := m5.below hB4 l5
          have l5 := Nat.lt_of_lt_of_le l5 hB4.size
          refine wpAnyH_ready (rs := [6]) (by kernel_rfl) (by simp) ?_
          refine (AllReadyH.cons rfl (fun K hK => ?_) AllReadyH.nil)
          rw [if_pos (by rfl)]
          simp only [List.getElem_toArray, List.getElem_cons_zero, List.getElem_cons_succ]
          with_reducible refine S_store 93 5 13 ta93 (([.int .u32 ah, .int .u64 am, .int .u64 al] : List Value)) (([.int .u32 0, .int .u64 0, .int .u64 0] : List Value)) (rfl) (rfl) (by simp [Value.oneCell']) (p5) 0 ?_ ?_ m5 ?_
          · rfl
          · rfl
          intro v5 m5' hO5
          refine hK.out _ _ (bo hHeld hO5 q5) (fun hHeld => ?_)
          clear hK K
          try simp only [Act.put]
          have m6 := m6.only l6 hO5 (.inl (by omega))
          have l5 := Nat.lt_of_lt_of_le l5 hO5.size
          have l6 := Nat.lt_of_lt_of_le l6 hO5.size
          have m5 := m5'
          refine wpAnyH_ready (rs := [7]) (by kernel_rfl) (by simp) ?_
          refine (AllReadyH.cons rfl (fun K hK => ?_) AllReadyH.nil)
          rw [if_pos (by rfl)]
          simp only [List.getElem_toArray, List.getElem_cons_zero, List.getElem_cons_succ]
          with_reducible refine S_store 93 6 15 ta93 (([.int .u32 bh, .int .u64 bm, .int .u64 bo'] : List Value)) (([.int .u32 0, .int .u64 0, .int .u64 0] : List Value)) (rfl) (rfl) (by simp [Value.oneCell']) (p6) 0 ?_ ?_ m6 ?_
          · rfl
          · rfl
          intro v6 m6' hO6
          refine hK.out _ _ (bo hHeld hO6 q6) (fun hHeld => ?_)
          clear hK K
          try simp only [Act.put]
          have m5 := m5.only l5 hO6 (.inl (by omega))
          have l5 := Nat.lt_of_lt_of_le l5 hO6.size
          have l6 := Nat.lt_of_lt_of_le l6 hO6.size
          have m6 := m6'
          refine wpAnyH_done (by kernel_rfl) ?_ _
          exact ⟨p5, p6, rfl, rfl, hHeld, m5, m6⟩
        · rw [if_pos (by rfl)]
          simp only [List.getElem_toArray, List.getElem_cons_zero, List.getElem_cons_succ]
          with_reducible refine S_new 93 6 (([.int .u32 0, .int .u64 0, .int .u64 0] : List Value)) (zero93) ?_
          intro p6 v7 g6 l6 m6 hB7
          have q6 : w4.heap.size ≤ p6 := Nat.le_trans hHeld.size g6
          refine hK.out _ _ (bl hHeld hB7) (fun hHeld => ?_)
          clear hK K
          try simp only [Act.put, List.setIfInBounds_toArray, List.set_cons_zero, List.set_cons_succ]
          refine wpAnyH_ready (rs := [4]) (by kernel_rfl) (by simp) ?_
          refine (AllReadyH.cons rfl (fun K hK => ?_) AllReadyH.nil)
          rw [if_pos (by rfl)]
          simp only [List.getElem_toArray, List.getElem_cons_zero, List.getElem_cons_succ]
          with_reducible refine S_new 93 5 (([.int .u32 0, .int .u64 0, .int .u64 0] : List Value)) (zero93) ?_
          intro p5 v8 g5 l5 m5 hB8
          have q5 : w4.heap.size ≤ p5 := Nat.le_trans hHeld.size g5
          refine hK.out _ _ (bl hHeld hB8) (fun hHeld => ?_)
          clear hK K
          try simp only [Act.put, List.setIfInBounds_toArray, List.set_cons_zero, List.set_cons_succ]
          have n6_5 : p6 ≠ p5 := by omega
          have m6 := m6.below hB8 l6
          have l6 := Nat.lt_of_lt_of_le l6 hB8.size
          refine wpAnyH_ready (rs := [6]) (by kernel_rfl) (by simp) ?_
          refine (AllReadyH.cons rfl (fun K hK => ?_) AllReadyH.nil)
          rw [if_pos (by rfl)]
          simp only [List.getElem_toArray, List.getElem_cons_zero, List.getElem_cons_succ]
          with_reducible refine S_store 93 5 13 ta93 (([.int .u32 ah, .int .u64 am, .int .u64 al] : List Value)) (([.int .u32 0, .int .u64 0, .int .u64 0] : List Value)) (rfl) (rfl) (by simp [Value.oneCell']) (p5) 0 ?_ ?_ m5 ?_
          · rfl
          · rfl
          intro v9 m5' hO9
          refine hK.out _ _ (bo hHeld hO9 q5) (fun hHeld => ?_)
          clear hK K
          try simp only [Act.put]
          have m6 := m6.only l6 hO9 (.inl (by omega))
          have l6 := Nat.lt_of_lt_of_le l6 hO9.size
          have l5 := Nat.lt_of_lt_of_le l5 hO9.size
          have m5 := m5'
          refine wpAnyH_ready (rs := [7]) (by kernel_rfl) (by simp) ?_
          refine (AllReadyH.cons rfl (fun K hK => ?_) AllReadyH.nil)
          rw [if_pos (by rfl)]
          simp only [List.getElem_toArray, List.getElem_cons_zero, List.getElem_cons_succ]
          with_reducible refine S_store 93 6 15 ta93 (([.int .u32 bh, .int .u64 bm, .int .u64 bo'] : List Value)) (([.int .u32 0, .int .u64 0, .int .u64 0] : List Value)) (rfl) (rfl) (by simp [Value.oneCell']) (p6) 0 ?_ ?_ m6 ?_
          · rfl
          · rfl
          intro v10 m6' hO10
          refine hK.out _ _ (bo hHeld hO10 q6) (fun hHeld => ?_)
          clear hK K
          try simp only [Act.put]
          have m5 := m5.only l5 hO10 (.inl (by omega))
          have l6 := Nat.lt_of_lt_of_le l6 hO10.size
          have l5 := Nat.lt_of_lt_of_le l5 hO10.size
          have m6 := m6'
          refine wpAnyH_done (by kernel_rfl) ?_ _
          exact ⟨p5, p6, rfl, rfl, hHeld, m5, m6⟩
      · rw [if_pos (by rfl)]
        simp only [List.getElem_toArray, List.getElem_cons_zero, List.getElem_cons_succ]
        with_reducible refine S_new 93 5 (([.int .u32 0, .int .u64 0, .int .u64 0] : List Value)) (zero93) ?_
        intro p5 v11 g5 l5 m5 hB11
        have q5 : w4.heap.size ≤ p5 := Nat.le_trans hHeld.size g5
        refine hK.out _ _ (bl hHeld hB11) (fun hHeld => ?_)
        clear hK K
        try simp only [Act.put, List.setIfInBounds_toArray, List.set_cons_zero, List.set_cons_succ]
        refine wpAnyH_ready (rs := [3, 5]) (by kernel_rfl) (by simp) ?_
        refine (AllReadyH.cons rfl (fun K hK => ?_) (AllReadyH.cons rfl (fun K hK => ?_) AllReadyH.nil))
        · go_simp
          refine (Cb.out _).mono ?_
          rintro e v12 ⟨rfl, hB12⟩
          refine hK.out _ _ (bl hHeld hB12) (fun hHeld => ?_)
          clear hK K
          try simp only [Act.put, List.setIfInBounds_toArray, List.set_cons_zero, List.set_cons_succ]
          have m5 := m5.below hB12 l5
          have l5 := Nat.lt_of_lt_of_le l5 hB12.size
          refine wpAnyH_ready (rs := [5]) (by kernel_rfl) (by simp) ?_
          refine (AllReadyH.cons rfl (fun K hK => ?_) AllReadyH.nil)
          rw [if_pos (by rfl)]
          simp only [List.getElem_toArray, List.getElem_cons_zero, List.getElem_cons_succ]
          with_reducible refine S_new 93 6 (([.int .u32 0, .int .u64 0, .int .u64 0] : List Value)) (zero93) ?_
          intro p6 v13 g6 l6 m6 hB13
          have q6 : w4.heap.size ≤ p6 := Nat.le_trans hHeld.size g6
          refine hK.out _ _ (bl hHeld hB13) (fun hHeld => ?_)
          clear hK K
          try simp only [Act.put, List.setIfInBounds_toArray, List.set_cons_zero, List.set_cons_succ]
          have n5_6 : p5 ≠ p6 := by omega
          have m5 := m5.below hB13 l5
          have l5 := Nat.lt_of_lt_of_le l5 hB13.size
          refine wpAnyH_ready (rs := [6]) (by kernel_rfl) (by simp) ?_
          refine (AllReadyH.cons rfl (fun K hK => ?_) AllReadyH.nil)
          rw [if_pos (by rfl)]
          simp only [List.getElem_toArray, List.getElem_cons_zero, List.getElem_cons_succ]
          with_reducible refine S_store 93 5 13 ta93 (([.int .u32 ah, .int .u64 am, .int .u64 al] : List Value)) (([.int .u32 0, .int .u64 0, .int .u64 0] : List Value)) (rfl) (rfl) (by simp [Value.oneCell']) (p5) 0 ?_ ?_ m5 ?_
          · rfl
          · rfl
          intro v14 m5' hO14
          refine hK.out _ _ (bo hHeld hO14 q5) (fun hHeld => ?_)
          clear hK K
          try simp only [Act.put]
          have m6 := m6.only l6 hO14 (.inl (by omega))
          have l5 := Nat.lt_of_lt_of_le l5 hO14.size
          have l6 := Nat.lt_of_lt_of_le l6 hO14.size
          have m5 := m5'
          refine wpAnyH_ready (rs := [7]) (by kernel_rfl) (by simp) ?_
          refine (AllReadyH.cons rfl (fun K hK => ?_) AllReadyH.nil)
          rw [if_pos (by rfl)]
          simp only [List.getElem_toArray, List.getElem_cons_zero, List.getElem_cons_succ]
          with_reducible refine S_store 93 6 15 ta93 (([.int .u32 bh, .int .u64 bm, .int .u64 bo'] : List Value)) (([.int .u32 0, .int .u64 0, .int .u64 0] : List Value)) (rfl) (rfl) (by simp [Value.oneCell']) (p6) 0 ?_ ?_ m6 ?_
          · rfl
          · rfl
          intro v15 m6' hO15
          refine hK.out _ _ (bo hHeld hO15 q6) (fun hHeld => ?_)
          clear hK K
          try simp only [Act.put]
          have m5 := m5.only l5 hO15 (.inl (by omega))
          have l5 := Nat.lt_of_lt_of_le l5 hO15.size
          have l6 := Nat.lt_of_lt_of_le l6 hO15.size
          have m6 := m6'
          refine wpAnyH_done (by kernel_rfl) ?_ _
          exact ⟨p5, p6, rfl, rfl, hHeld, m5, m6⟩
        · rw [if_pos (by rfl)]
          simp only [List.getElem_toArray, List.getElem_cons_zero, List.getElem_cons_succ]
          with_reducible refine S_new 93 6 (([.int .u32 0, .int .u64 0, .int .u64 0] : List Value)) (zero93) ?_
          intro p6 v16 g6 l6 m6 hB16
          have q6 : w4.heap.size ≤ p6 := Nat.le_trans hHeld.size g6
          refine hK.out _ _ (bl hHeld hB16) (fun hHeld => ?_)
          clear hK K
          try simp only [Act.put, List.setIfInBounds_toArray, List.set_cons_zero, List.set_cons_succ]
          have n5_6 : p5 ≠ p6 := by omega
          have m5 := m5.below hB16 l5
          have l5 := Nat.lt_of_lt_of_le l5 hB16.size
          refine wpAnyH_ready (rs := [3]) (by kernel_rfl) (by simp) ?_
          refine (AllReadyH.cons rfl (fun K hK => ?_) AllReadyH.nil)
          go_simp
          refine (Cb.out _).mono ?_
          rintro e v17 ⟨rfl, hB17⟩
          refine hK.out _ _ (bl hHeld hB17) (fun hHeld => ?_)
          clear hK K
          try simp only [Act.put, List.setIfInBounds_toArray, List.set_cons_zero, List.set_cons_succ]
          have m5 := m5.below hB17 l5
          have l5 := Nat.lt_of_lt_of_le l5 hB17.size
          have m6 := m6.below hB17 l6
          have l6 := Nat.lt_of_lt_of_le l6 hB17.size
          refine wpAnyH_ready (rs := [6]) (by kernel_rfl) (by simp) ?_
          refine (AllReadyH.cons rfl (fun K hK => ?_) AllReadyH.nil)
          rw [if_pos (by rfl)]
          simp only [List.getElem_toArray, List.getElem_cons_zero, List.getElem_cons_succ]
          with_reducible refine S_store 93 5 13 ta93 (([.int .u32 ah, .int .u64 am, .int .u64 al] : List Value)) (([.int .u32 0, .int .u64 0, .int .u64 0] : List Value)) (rfl) (rfl) (by simp [Value.oneCell']) (p5) 0 ?_ ?_ m5 ?_
          · rfl
          · rfl
          intro v18 m5' hO18
          refine hK.out _ _ (bo hHeld hO18 q5) (fun hHeld => ?_)
          clear hK K
          try simp only [Act.put]
          have m6 := m6.only l6 hO18 (.inl (by omega))
          have l5 := Nat.lt_of_lt_of_le l5 hO18.size
          have l6 := Nat.lt_of_lt_of_le l6 hO18.size
          have m5 := m5'
          refine wpAnyH_ready (rs := [7]) (by kernel_rfl) (by simp) ?_
          refine (AllReadyH.cons rfl (fun K hK => ?_) AllReadyH.nil)
          rw [if_pos (by rfl)]
          simp only [List.getElem_toArray, List.getElem_cons_zero, List.getElem_cons_succ]
          with_reducible refine S_store 93 6 15 ta93 (([.int .u32 bh, .int .u64 bm, .int .u64 bo'] : List Value)) (([.int .u32 0, .int .u64 0, .int .u64 0] : List Value)) (rfl) (rfl) (by simp [Value.oneCell']) (p6) 0 ?_ ?_ m6 ?_
          · rfl
          · rfl
          intro v19 m6' hO19
          refine hK.out _ _ (bo hHeld hO19 q6) (fun hHeld => ?_)
          clear hK K
          try simp only [Act.put]
          have m5 := m5.only l5 hO19 (.inl (by omega))
          have l5 := Nat.lt_of_lt_of_le l5 hO19.size
          have l6 := Nat.lt_of_lt_of_le l6 hO19.size
          have m6 := m6'
          refine wpAnyH_done (by kernel_rfl) ?_ _
          exact ⟨p5, p6, rfl, rfl, hHeld, m5, m6⟩
      · rw [if_pos (by rfl)]
        simp only [List.getElem_toArray, List.getElem_cons_zero, List.getElem_cons_succ]
        with_reducible refine S_new 93 6 (([.int .u32 0, .int .u64 0, .int .u64 0] : List Value)) (zero93) ?_
        intro p6 v20 g6 l6 m6 hB20
        have q6 : w4.heap.size ≤ p6 := Nat.le_trans hHeld.size g6
        refine hK.out _ _ (bl hHeld hB20) (fun hHeld => ?_)
        clear hK K
        try simp only [Act.put, List.setIfInBounds_toArray, List.set_cons_zero, List.set_cons_succ]
        refine wpAnyH_ready (rs := [3, 4]) (by kernel_rfl) (by simp) ?_
        refine (AllReadyH.cons rfl (fun K hK => ?_) (AllReadyH.cons rfl (fun K hK => ?_) AllReadyH.nil))
        · go_simp
          refine (Cb.out _).mono ?_
          rintro e v21 ⟨rfl, hB21⟩
          refine hK.out _ _ (bl hHeld hB21) (fun hHeld => ?_)
          clear hK K
          try simp only [Act.put, List.setIfInBounds_toArray, List.set_cons_zero, List.set_cons_succ]
          have m6 := m6.below hB21 l6
          have l6 := Nat.lt_of_lt_of_le l6 hB21.size
          refine wpAnyH_ready (rs := [4]) (by kernel_rfl) (by simp) ?_
          refine (AllReadyH.cons rfl (fun K hK => ?_) AllReadyH.nil)
          rw [if_pos (by rfl)]
          simp only [List.getElem_toArray, List.getElem_cons_zero, List.getElem_cons_succ]
          with_reducible refine S_new 93 5 (([.int .u32 0, .int .u64 0, .int .u64 0] : List Value)) (zero93) ?_
          intro p5 v22 g5 l5 m5 hB22
          have q5 : w4.heap.size ≤ p5 := Nat.le_trans hHeld.size g5
          refine hK.out _ _ (bl hHeld hB22) (fun hHeld => ?_)
          clear hK K
          try simp only [Act.put, List.setIfInBounds_toArray, List.set_cons_zero, List.set_cons_succ]
          have n6_5 : p6 ≠ p5 := by omega
          have m6 := m6.below hB22 l6
          have l6 := Nat.lt_of_lt_of_le l6 hB22.size
          refine wpAnyH_ready (rs := [6]) (by kernel_rfl) (by simp) ?_
          refine (AllReadyH.cons rfl (fun K hK => ?_) AllReadyH.nil)
          rw [if_pos (by rfl)]
          simp only [List.getElem_toArray, List.getElem_cons_zero, List.getElem_cons_succ]
          with_reducible refine S_store 93 5 13 ta93 (([.int .u32 ah, .int .u64 am, .int .u64 al] : List Value)) (([.int .u32 0, .int .u64 0, .int .u64 0] : List Value)) (rfl) (rfl) (by simp [Value.oneCell']) (p5) 0 ?_ ?_ m5 ?_
          · rfl
          · rfl
          intro v23 m5' hO23
          refine hK.out _ _ (bo hHeld hO23 q5) (fun hHeld => ?_)
          clear hK K
          try simp only [Act.put]
          have m6 := m6.only l6 hO23 (.inl (by omega))
          have l6 := Nat.lt_of_lt_of_le l6 hO23.size
          have l5 := Nat.lt_of_lt_of_le l5 hO23.size
          have m5 := m5'
          refine wpAnyH_ready (rs := [7]) (by kernel_rfl) (by simp) ?_
          refine (AllReadyH.cons rfl (fun K hK => ?_) AllReadyH.nil)
          rw [if_pos (by rfl)]
          simp only [List.getElem_toArray, List.getElem_cons_zero, List.getElem_cons_succ]
          with_reducible refine S_store 93 6 15 ta93 (([.int .u32 bh, .int .u64 bm, .int .u64 bo'] : List Value)) (([.int .u32 0, .int .u64 0, .int .u64 0] : List Value)) (rfl) (rfl) (by simp [Value.oneCell']) (p6) 0 ?_ ?_ m6 ?_
          · rfl
          · rfl
          intro v24 m6' hO24
          refine hK.out _ _ (bo hHeld hO24 q6) (fun hHeld => ?_)
          clear hK K
          try simp only [Act.put]
          have m5 := m5.only l5 hO24 (.inl (by omega))
          have l6 := Nat.lt_of_lt_of_le l6 hO24.size
          have l5 := Nat.lt_of_lt_of_le l5 hO24.size
          have m6 := m6'
          refine wpAnyH_done (by kernel_rfl) ?_ _
          exact ⟨p5, p6, rfl, rfl, hHeld, m5, m6⟩
        · rw [if_pos (by rfl)]
          simp only [List.getElem_toArray, List.getElem_cons_zero, List.getElem_cons_succ]
          with_reducible refine S_new 93 5 (([.int .u32 0, .int .u64 0, .int .u64 0] : List Value)) (zero93) ?_
          intro p5 v25 g5 l5 m5 hB25
          have q5 : w4.heap.size ≤ p5 := Nat.le_trans hHeld.size g5
          refine hK.out _ _ (bl hHeld hB25) (fun hHeld => ?_)
          clear hK K
          try simp only [Act.put, List.setIfInBounds_toArray, List.set_cons_zero, List.set_cons_succ]
          have n6_5 : p6 ≠ p5 := by omega
          have m6 := m6.below hB25 l6
          have l6 := Nat.lt_of_lt_of_le l6 hB25.size
          refine wpAnyH_ready (rs := [3]) (by kernel_rfl) (by simp) ?_
          refine (AllReadyH.cons rfl (fun K hK => ?_) AllReadyH.nil)
          go_simp
          refine (Cb.out _).mono ?_
          rintro e v26 ⟨rfl, hB26⟩
          refine hK.out _ _ (bl hHeld hB26) (fun hHeld => ?_)
          clear hK K
          try simp only [Act.put, List.setIfInBounds_toArray, List.set_cons_zero, List.set_cons_succ]
          have m6 := m6.below hB26 l6
          have l6 := Nat.lt_of_lt_of_le l6 hB26.size
          have m5 := m5.below hB26 l5
          have l5 := Nat.lt_of_lt_of_le l5 hB26.size
          refine wpAnyH_ready (rs := [6]) (by kernel_rfl) (by simp) ?_
          refine (AllReadyH.cons rfl (fun K hK => ?_) AllReadyH.nil)
          rw [if_pos (by rfl)]
          simp only [List.getElem_toArray, List.getElem_cons_zero, List.getElem_cons_succ]
          with_reducible refine S_store 93 5 13 ta93 (([.int .u32 ah, .int .u64 am, .int .u64 al] : List Value)) (([.int .u32 0, .int .u64 0, .int .u64 0] : List Value)) (rfl) (rfl) (by simp [Value.oneCell']) (p5) 0 ?_ ?_ m5 ?_
          · rfl
          · rfl
          intro v27 m5' hO27
          refine hK.out _ _ (bo hHeld hO27 q5) (fun hHeld => ?_)
          clear hK K
          try simp only [Act.put]
          have m6 := m6.only l6 hO27 (.inl (by omega))
          have l6 := Nat.lt_of_lt_of_le l6 hO27.size
          have l5 := Nat.lt_of_lt_of_le l5 hO27.size
          have m5 := m5'
          refine wpAnyH_ready (rs := [7]) (by kernel_rfl) (by simp) ?_
          refine (AllReadyH.cons rfl (fun K hK => ?_) AllReadyH.nil)
          rw [if_pos (by rfl)]
          simp only [List.getElem_toArray, List.getElem_cons_zero, List.getElem_cons_succ]
          with_reducible refine S_store 93 6 15 ta93 (([.int .u32 bh, .int .u64 bm, .int .u64 bo'] : List Value)) (([.int .u32 0, .int .u64 0, .int .u64 0] : List Value)) (rfl) (rfl) (by simp [Value.oneCell']) (p6) 0 ?_ ?_ m6 ?_
          · rfl
          · rfl
          intro v28 m6' hO28
          refine hK.out _ _ (bo hHeld hO28 q6) (fun hHeld => ?_)
          clear hK K
          try simp only [Act.put]
          have m5 := m5.only l5 hO28 (.inl (by omega))
          have l6 := Nat.lt_of_lt_of_le l6 hO28.size
          have l5 := Nat.lt_of_lt_of_le l5 hO28.size
          have m6 := m6'
          refine wpAnyH_done (by kernel_rfl) ?_ _
          exact ⟨p5, p6, rfl, rfl, hHeld, m5, m6⟩
    · rw [if_pos (by rfl)]
      simp only [List.getElem_toArray, List.getElem_cons_zero, List.getElem_cons_succ]
      with_reducible refine S_new 93 5 (([.int .u32 0, .int .u64 0, .int .u64 0] : List Value)) (zero93) ?_
      intro p5 v29 g5 l5 m5 hB29
      have q5 : w4.heap.size ≤ p5 := Nat.le_trans hHeld.size g5
      refine hK.out _ _ (bl hHeld hB29) (fun hHeld => ?_)
      clear hK K
      try simp only [Act.put, List.setIfInBounds_toArray, List.set_cons_zero, List.set_cons_succ]
      refine wpAnyH_ready (rs := [1, 5]) (by kernel_rfl) (by simp) ?_
      refine (AllReadyH.cons rfl (fun K hK => ?_) (AllReadyH.cons rfl (fun K hK => ?_) AllReadyH.nil))
      · go_simp
        refine (Ca.out _).mono ?_
        rintro e v30 ⟨rfl, hB30⟩
        refine hK.out _ _ (bl hHeld hB30) (fun hHeld => ?_)
        clear hK K
        try simp only [Act.put, List.setIfInBounds_toArray, List.set_cons_zero, List.set_cons_succ]
        have m5 := m5.below hB30 l5
        have l5 := Nat.lt_of_lt_of_le l5 hB30.size
        refine wpAnyH_ready (rs := [3, 5]) (by kernel_rfl) (by simp) ?_
        refine (AllReadyH.cons rfl (fun K hK => ?_) (AllReadyH.cons rfl (fun K hK => ?_) AllReadyH.nil))
        · go_simp
          refine (Cb.out _).mono ?_
          rintro e v31 ⟨rfl, hB31⟩
          refine hK.out _ _ (bl hHeld hB31) (fun hHeld => ?_)
          clear hK K
          try simp only [Act.put, List.setIfInBounds_toArray, List.set_cons_zero, List.set_cons_succ]
          have m5 := m5.below hB31 l5
          have l5 := Nat.lt_of_lt_of_le l5 hB31.size
          refine wpAnyH_ready (rs := [5]) (by kernel_rfl) (by simp) ?_
          refine (AllReadyH.cons rfl (fun K hK => ?_) AllReadyH.nil)
          rw [if_pos (by rfl)]
          simp only [List.getElem_toArray, List.getElem_cons_zero, List.getElem_cons_succ]
          with_reducible refine S_new 93 6 (([.int .u32 0, .int .u64 0, .int .u64 0] : List Value)) (zero93) ?_
          intro p6 v32 g6 l6 m6 hB32
          have q6 : w4.heap.size ≤ p6 := Nat.le_trans hHeld.size g6
          refine hK.out _ _ (bl hHeld hB32) (fun hHeld => ?_)
          clear hK K
          try simp only [Act.put, List.setIfInBounds_toArray, List.set_cons_zero, List.set_cons_succ]
          have n5_6 : p5 ≠ p6 := by omega
          have m5 := m5.below hB32 l5
          have l5 := Nat.lt_of_lt_of_le l5 hB32.size
          refine wpAnyH_ready (rs := [6]) (by kernel_rfl) (by simp) ?_
          refine (AllReadyH.cons rfl (fun K hK => ?_) AllReadyH.nil)
          rw [if_pos (by rfl)]
          simp only [List.getElem_toArray, List.getElem_cons_zero, List.getElem_cons_succ]
          with_reducible refine S_store 93 5 13 ta93 (([.int .u32 ah, .int .u64 am, .int .u64 al] : List Value)) (([.int .u32 0, .int .u64 0, .int .u64 0] : List Value)) (rfl) (rfl) (by simp [Value.oneCell']) (p5) 0 ?_ ?_ m5 ?_
          · rfl
          · rfl
          intro v33 m5' hO33
          refine hK.out _ _ (bo hHeld hO33 q5) (fun hHeld => ?_)
          clear hK K
          try simp only [Act.put]
          have m6 := m6.only l6 hO33 (.inl (by omega))
          have l5 := Nat.lt_of_lt_of_le l5 hO33.size
          have l6 := Nat.lt_of_lt_of_le l6 hO33.size
          have m5 := m5'
          refine wpAnyH_ready (rs := [7]) (by kernel_rfl) (by simp) ?_
          refine (AllReadyH.cons rfl (fun K hK => ?_) AllReadyH.nil)
          rw [if_pos (by rfl)]
          simp only [List.getElem_toArray, List.getElem_cons_zero, List.getElem_cons_succ]
          with_reducible refine S_store 93 6 15 ta93 (([.int .u32 bh, .int .u64 bm, .int .u64 bo'] : List Value)) (([.int .u32 0, .int .u64 0, .int .u64 0] : List Value)) (rfl) (rfl) (by simp [Value.oneCell']) (p6) 0 ?_ ?_ m6 ?_
          · rfl
          · rfl
          intro v34 m6' hO34
          refine hK.out _ _ (bo hHeld hO34 q6) (fun hHeld => ?_)
          clear hK K
          try simp only [Act.put]
          have m5 := m5.only l5 hO34 (.inl (by omega))
          have l5 := Nat.lt_of_lt_of_le l5 hO34.size
          have l6 := Nat.lt_of_lt_of_le l6 hO34.size
          have m6 := m6'
          refine wpAnyH_done (by kernel_rfl) ?_ _
          exact ⟨p5, p6, rfl, rfl, hHeld, m5, m6⟩
        · rw [if_pos (by rfl)]
          simp only [List.getElem_toArray, List.getElem_cons_zero, List.getElem_cons_succ]
          with_reducible refine S_new 93 6 (([.int .u32 0, .int .u64 0, .int .u64 0] : List Value)) (zero93) ?_
          intro p6 v35 g6 l6 m6 hB35
          have q6 : w4.heap.size ≤ p6 := Nat.le_trans hHeld.size g6
          refine hK.out _ _ (bl hHeld hB35) (fun hHeld => ?_)
          clear hK K
          try simp only [Act.put, List.setIfInBounds_toArray, List.set_cons_zero, List.set_cons_succ]
          have n5_6 : p5 ≠ p6 := by omega
          have m5 := m5.below hB35 l5
          have l5 := Nat.lt_of_lt_of_le l5 hB35.size
          refine wpAnyH_ready (rs := [3]) (by kernel_rfl) (by simp) ?_
          refine (AllReadyH.cons rfl (fun K hK => ?_) AllReadyH.nil)
          go_simp
          refine (Cb.out _).mono ?_
          rintro e v36 ⟨rfl, hB36⟩
          refine hK.out _ _ (bl hHeld hB36) (fun hHeld => ?_)
          clear hK K
          try simp only [Act.put, List.setIfInBounds_toArray, List.set_cons_zero, List.set_cons_succ]
          have m5 := m5.below hB36 l5
          have l5 := Nat.lt_of_lt_of_le l5 hB36.size
          have m6 := m6.below hB36 l6
          have l6 := Nat.lt_of_lt_of_le l6 hB36.size
          refine wpAnyH_ready (rs := [6]) (by kernel_rfl) (by simp) ?_
          refine (AllReadyH.cons rfl (fun K hK => ?_) AllReadyH.nil)
          rw [if_pos (by rfl)]
          simp only [List.getElem_toArray, List.getElem_cons_zero, List.getElem_cons_succ]
          with_reducible refine S_store 93 5 13 ta93 (([.int .u32 ah, .int .u64 am, .int .u64 al] : List Value)) (([.int .u32 0, .int .u64 0, .int .u64 0] : List Value)) (rfl) (rfl) (by simp [Value.oneCell']) (p5) 0 ?_ ?_ m5 ?_
          · rfl
          · rfl
          intro v37 m5' hO37
          refine hK.out _ _ (bo hHeld hO37 q5) (fun hHeld => ?_)
          clear hK K
          try simp only [Act.put]
          have m6 := m6.only l6 hO37 (.inl (by omega))
          have l5 := Nat.lt_of_lt_of_le l5 hO37.size
          have l6 := Nat.lt_of_lt_of_le l6 hO37.size
          have m5 := m5'
          refine wpAnyH_ready (rs := [7]) (by kernel_rfl) (by simp) ?_
          refine (AllReadyH.cons rfl (fun K hK => ?_) AllReadyH.nil)
          rw [if_pos (by rfl)]
          simp only [List.getElem_toArray, List.getElem_cons_zero, List.getElem_cons_succ]
          with_reducible refine S_store 93 6 15 ta93 (([.int .u32 bh, .int .u64 bm, .int .u64 bo'] : List Value)) (([.int .u32 0, .int .u64 0, .int .u64 0] : List Value)) (rfl) (rfl) (by simp [Value.oneCell']) (p6) 0 ?_ ?_ m6 ?_
          · rfl
          · rfl
          intro v38 m6' hO38
          refine hK.out _ _ (bo hHeld hO38 q6) (fun hHeld => ?_)
          clear hK K
          try simp only [Act.put]
          have m5 := m5.only l5 hO38 (.inl (by omega))
          have l5 := Nat.lt_of_lt_of_le l5 hO38.size
          have l6 := Nat.lt_of_lt_of_le l6 hO38.size
          have m6 := m6'
          refine wpAnyH_done (by kernel_rfl) ?_ _
          exact ⟨p5, p6, rfl, rfl, hHeld, m5, m6⟩
      · rw [if_pos (by rfl)]
        simp only [List.getElem_toArray, List.getElem_cons_zero, List.getElem_cons_succ]
        with_reducible refine S_new 93 6 (([.int .u32 0, .int .u64 0, .int .u64 0] : List Value)) (zero93) ?_
        intro p6 v39 g6 l6 m6 hB39
        have q6 : w4.heap.size ≤ p6 := Nat.le_trans hHeld.size g6
        refine hK.out _ _ (bl hHeld hB39) (fun hHeld => ?_)
        clear hK K
        try simp only [Act.put, List.setIfInBounds_toArray, List.set_cons_zero, List.set_cons_succ]
        have n5_6 : p5 ≠ p6 := by omega
        have m5 := m5.below hB39 l5
        have l5 := Nat.lt_of_lt_of_le l5 hB39.size
        refine wpAnyH_ready (rs := [1]) (by kernel_rfl) (by simp) ?_
        refine (AllReadyH.cons rfl (fun K hK => ?_) AllReadyH.nil)
        go_simp
        refine (Ca.out _).mono ?_
        rintro e v40 ⟨rfl, hB40⟩
        refine hK.out _ _ (bl hHeld hB40) (fun hHeld => ?_)
        clear hK K
        try simp only [Act.put, List.setIfInBounds_toArray, List.set_cons_zero, List.set_cons_succ]
        have m5 := m5.below hB40 l5
        have l5 := Nat.lt_of_lt_of_le l5 hB40.size
        have m6 := m6.below hB40 l6
        have l6 := Nat.lt_of_lt_of_le l6 hB40.size
        refine wpAnyH_ready (rs := [3]) (by kernel_rfl) (by simp) ?_
        refine (AllReadyH.cons rfl (fun K hK => ?_) AllReadyH.nil)
        go_simp
        refine (Cb.out _).mono ?_
        rintro e v41 ⟨rfl, hB41⟩
        refine hK.out _ _ (bl hHeld hB41) (fun hHeld => ?_)
        clear hK K
        try simp only [Act.put, List.setIfInBounds_toArray, List.set_cons_zero, List.set_cons_succ]
        have m5 := m5.below hB41 l5
        have l5 := Nat.lt_of_lt_of_le l5 hB41.size
        have m6 := m6.below hB41 l6
        have l6 := Nat.lt_of_lt_of_le l6 hB41.size
        refine wpAnyH_ready (rs := [6]) (by kernel_rfl) (by simp) ?_
        refine (AllReadyH.cons rfl (fun K hK => ?_) AllReadyH.nil)
        rw [if_pos (by rfl)]
        simp only [List.getElem_toArray, List.getElem_cons_zero, List.getElem_cons_succ]
        with_reducible refine S_store 93 5 13 ta93 (([.int .u32 ah, .int .u64 am, .int .u64 al] : List Value)) (([.int .u32 0, .int .u64 0, .int .u64 0] : List Value)) (rfl) (rfl) (by simp [Value.oneCell']) (p5) 0 ?_ ?_ m5 ?_
        · rfl
        · rfl
        intro v42 m5' hO42
        refine hK.out _ _ (bo hHeld hO42 q5) (fun hHeld => ?_)
        clear hK K
        try simp only [Act.put]
        have m6 := m6.only l6 hO42 (.inl (by omega))
        have l5 := Nat.lt_of_lt_of_le l5 hO42.size
        have l6 := Nat.lt_of_lt_of_le l6 hO42.size
        have m5 := m5'
        refine wpAnyH_ready (rs := [7]) (by kernel_rfl) (by simp) ?_
        refine (AllReadyH.cons rfl (fun K hK => ?_) AllReadyH.nil)
        rw [if_pos (by rfl)]
        simp only [List.getElem_toArray, List.getElem_cons_zero, List.getElem_cons_succ]
        with_reducible refine S_store 93 6 15 ta93 (([.int .u32 bh, .int .u64 bm, .int .u64 bo'] : List Value)) (([.int .u32 0, .int .u64 0, .int .u64 0] : List Value)) (rfl) (rfl) (by simp [Value.oneCell']) (p6) 0 ?_ ?_ m6 ?_
        · rfl
        · rfl
        intro v43 m6' hO43
        refine hK.out _ _ (bo hHeld hO43 q6) (fun hHeld => ?_)
        clear hK K
        try simp only [Act.put]
        have m5 := m5.only l5 hO43 (.inl (by omega))
        have l5 := Nat.lt_of_lt_of_le l5 hO43.size
        have l6 := Nat.lt_of_lt_of_le l6 hO43.size
        have m6 := m6'
        refine wpAnyH_done (by kernel_rfl) ?_ _
        exact ⟨p5, p6, rfl, rfl, hHeld, m5, m6⟩
    · rw [if_pos (by rfl)]
      simp only [List.getElem_toArray, List.getElem_cons_zero, List.getElem_cons_succ]
      with_reducible refine S_new 93 6 (([.int .u32 0, .int .u64 0, .int .u64 0] : List Value)) (zero93) ?_
      intro p6 v44 g6 l6 m6 hB44
      have q6 : w4.heap.size ≤ p6 := Nat.le_trans hHeld.size g6
      refine hK.out _ _ (bl hHeld hB44) (fun hHeld => ?_)
      clear hK K
      try simp only [Act.put, List.setIfInBounds_toArray, List.set_cons_zero, List.set_cons_succ]
      refine wpAnyH_ready (rs := [1, 4]) (by kernel_rfl) (by simp) ?_
      refine (AllReadyH.cons rfl (fun K hK => ?_) (AllReadyH.cons rfl (fun K hK => ?_) AllReadyH.nil))
      · go_simp
        refine (Ca.out _).mono ?_
        rintro e v45 ⟨rfl, hB45⟩
        refine hK.out _ _ (bl hHeld hB45) (fun hHeld => ?_)
        clear hK K
        try simp only [Act.put, List.setIfInBounds_toArray, List.set_cons_zero, List.set_cons_succ]
        have m6 := m6.below hB45 l6
        have l6 := Nat.lt_of_lt_of_le l6 hB45.size
        refine wpAnyH_ready (rs := [3, 4]) (by kernel_rfl) (by simp) ?_
        refine (AllReadyH.cons rfl (fun K hK => ?_) (AllReadyH.cons rfl (fun K hK => ?_) AllReadyH.nil))
        · go_simp
          refine (Cb.out _).mono ?_
          rintro e v46 ⟨rfl, hB46⟩
          refine hK.out _ _ (bl hHeld hB46) (fun hHeld => ?_)
          clear hK K
          try simp only [Act.put, List.setIfInBounds_toArray, List.set_cons_zero, List.set_cons_succ]
          have m6 := m6.below hB46 l6
          have l6 := Nat.lt_of_lt_of_le l6 hB46.size
          refine wpAnyH_ready (rs := [4]) (by kernel_rfl) (by simp) ?_
          refine (AllReadyH.cons rfl (fun K hK => ?_) AllReadyH.nil)
          rw [if_pos (by rfl)]
          simp only [List.getElem_toArray, List.getElem_cons_zero, List.getElem_cons_succ]
          with_reducible refine S_new 93 5 (([.int .u32 0, .int .u64 0, .int .u64 0] : List Value)) (zero93) ?_
          intro p5 v47 g5 l5 m5 hB47
          have q5 : w4.heap.size ≤ p5 := Nat.le_trans hHeld.size g5
          refine hK.out _ _ (bl hHeld hB47) (fun hHeld => ?_)
          clear hK K
          try simp only [Act.put, List.setIfInBounds_toArray, List.set_cons_zero, List.set_cons_succ]
          have n6_5 : p6 ≠ p5 := by omega
          have m6 := m6.below hB47 l6
          have l6 := Nat.lt_of_lt_of_le l6 hB47.size
          refine wpAnyH_ready (rs := [6]) (by kernel_rfl) (by simp) ?_
          refine (AllReadyH.cons rfl (fun K hK => ?_) AllReadyH.nil)
          rw [if_pos (by rfl)]
          simp only [List.getElem_toArray, List.getElem_cons_zero, List.getElem_cons_succ]
          with_reducible refine S_store 93 5 13 ta93 (([.int .u32 ah, .int .u64 am, .int .u64 al] : List Value)) (([.int .u32 0, .int .u64 0, .int .u64 0] : List Value)) (rfl) (rfl) (by simp [Value.oneCell']) (p5) 0 ?_ ?_ m5 ?_
          · rfl
          · rfl
          intro v48 m5' hO48
          refine hK.out _ _ (bo hHeld hO48 q5) (fun hHeld => ?_)
          clear hK K
          try simp only [Act.put]
          have m6 := m6.only l6 hO48 (.inl (by omega))
          have l6 := Nat.lt_of_lt_of_le l6 hO48.size
          have l5 := Nat.lt_of_lt_of_le l5 hO48.size
          have m5 := m5'
          refine wpAnyH_ready (rs := [7]) (by kernel_rfl) (by simp) ?_
          refine (AllReadyH.cons rfl (fun K hK => ?_) AllReadyH.nil)
          rw [if_pos (by rfl)]
          simp only [List.getElem_toArray, List.getElem_cons_zero, List.getElem_cons_succ]
          with_reducible refine S_store 93 6 15 ta93 (([.int .u32 bh, .int .u64 bm, .int .u64 bo'] : List Value)) (([.int .u32 0, .int .u64 0, .int .u64 0] : List Value)) (rfl) (rfl) (by simp [Value.oneCell']) (p6) 0 ?_ ?_ m6 ?_
          · rfl
          · rfl
          intro v49 m6' hO49
          refine hK.out _ _ (bo hHeld hO49 q6) (fun hHeld => ?_)
          clear hK K
          try simp only [Act.put]
          have m5 := m5.only l5 hO49 (.inl (by omega))
          have l6 := Nat.lt_of_lt_of_le l6 hO49.size
          have l5 := Nat.lt_of_lt_of_le l5 hO49.size
          have m6 := m6'
          refine wpAnyH_done (by kernel_rfl) ?_ _
          exact ⟨p5, p6, rfl, rfl, hHeld, m5, m6⟩
        · rw [if_pos (by rfl)]
          simp only [List.getElem_toArray, List.getElem_cons_zero, List.getElem_cons_succ]
          with_reducible refine S_new 93 5 (([.int .u32 0, .int .u64 0, .int .u64 0] : List Value)) (zero93) ?_
          intro p5 v50 g5 l5 m5 hB50
          have q5 : w4.heap.size ≤ p5 := Nat.le_trans hHeld.size g5
          refine hK.out _ _ (bl hHeld hB50) (fun hHeld => ?_)
          clear hK K
          try simp only [Act.put, List.setIfInBounds_toArray, List.set_cons_zero, List.set_cons_succ]
          have n6_5 : p6 ≠ p5 := by omega
          have m6 := m6.below hB50 l6
          have l6 := Nat.lt_of_lt_of_le l6 hB50.size
          refine wpAnyH_ready (rs := [3]) (by kernel_rfl) (by simp) ?_
          refine (AllReadyH.cons rfl (fun K hK => ?_) AllReadyH.nil)
          go_simp
          refine (Cb.out _).mono ?_
          rintro e v51 ⟨rfl, hB51⟩
          refine hK.out _ _ (bl hHeld hB51) (fun hHeld => ?_)
          clear hK K
          try simp only [Act.put, List.setIfInBounds_toArray, List.set_cons_zero, List.set_cons_succ]
          have m6 := m6.below hB51 l6
          have l6 := Nat.lt_of_lt_of_le l6 hB51.size
          have m5 := m5.below hB51 l5
          have l5 := Nat.lt_of_lt_of_le l5 hB51.size
          refine wpAnyH_ready (rs := [6]) (by kernel_rfl) (by simp) ?_
          refine (AllReadyH.cons rfl (fun K hK => ?_) AllReadyH.nil)
          rw [if_pos (by rfl)]
          simp only [List.getElem_toArray, List.getElem_cons_zero, List.getElem_cons_succ]
          with_reducible refine S_store 93 5 13 ta93 (([.int .u32 ah, .int .u64 am, .int .u64 al] : List Value)) (([.int .u32 0, .int .u64 0, .int .u64 0] : List Value)) (rfl) (rfl) (by simp [Value.oneCell']) (p5) 0 ?_ ?_ m5 ?_
          · rfl
          · rfl
          intro v52 m5' hO52
          refine hK.out _ _ (bo hHeld hO52 q5) (fun hHeld => ?_)
          clear hK K
          try simp only [Act.put]
          have m6 := m6.only l6 hO52 (.inl (by omega))
          have l6 := Nat.lt_of_lt_of_le l6 hO52.size
          have l5 := Nat.lt_of_lt_of_le l5 hO52.size
          have m5 := m5'
          refine wpAnyH_ready (rs := [7]) (by kernel_rfl) (by simp) ?_
          refine (AllReadyH.cons rfl (fun K hK => ?_) AllReadyH.nil)
          rw [if_pos (by rfl)]
          simp only [List.getElem_toArray, List.getElem_cons_zero, List.getElem_cons_succ]
          with_reducible refine S_store 93 6 15 ta93 (([.int .u32 bh, .int .u64 bm, .int .u64 bo'] : List Value)) (([.int .u32 0, .int .u64 0, .int .u64 0] : List Value)) (rfl) (rfl) (by simp [Value.oneCell']) (p6) 0 ?_ ?_ m6 ?_
          · rfl
          · rfl
          intro v53 m6' hO53
          refine hK.out _ _ (bo hHeld hO53 q6) (fun hHeld => ?_)
          clear hK K
          try simp only [Act.put]
          have m5 := m5.only l5 hO53 (.inl (by omega))
          have l6 := Nat.lt_of_lt_of_le l6 hO53.size
          have l5 := Nat.lt_of_lt_of_le l5 hO53.size
          have m6 := m6'
          refine wpAnyH_done (by kernel_rfl) ?_ _
          exact ⟨p5, p6, rfl, rfl, hHeld, m5, m6⟩
      · rw [if_pos (by rfl)]
        simp only [List.getElem_toArray, List.getElem_cons_zero, List.getElem_cons_succ]
        with_reducible refine S_new 93 5 (([.int .u32 0, .int .u64 0, .int .u64 0] : List Value)) (zero93) ?_
        intro p5 v54 g5 l5 m5 hB54
        have q5 : w4.heap.size ≤ p5 := Nat.le_trans hHeld.size g5
        refine hK.out _ _ (bl hHeld hB54) (fun hHeld => ?_)
        clear hK K
        try simp only [Act.put, List.setIfInBounds_toArray, List.set_cons_zero, List.set_cons_succ]
        have n6_5 : p6 ≠ p5 := by omega
        have m6 := m6.below hB54 l6
        have l6 := Nat.lt_of_lt_of_le l6 hB54.size
        refine wpAnyH_ready (rs := [1]) (by kernel_rfl) (by simp) ?_
        refine (AllReadyH.cons rfl (fun K hK => ?_) AllReadyH.nil)
        go_simp
        refine (Ca.out _).mono ?_
        rintro e v55 ⟨rfl, hB55⟩
        refine hK.out _ _ (bl hHeld hB55) (fun hHeld => ?_)
        clear hK K
        try simp only [Act.put, List.setIfInBounds_toArray, List.set_cons_zero, List.set_cons_succ]
        have m6 := m6.below hB55 l6
        have l6 := Nat.lt_of_lt_of_le l6 hB55.size
        have m5 := m5.below hB55 l5
        have l5 := Nat.lt_of_lt_of_le l5 hB55.size
        refine wpAnyH_ready (rs := [3]) (by kernel_rfl) (by simp) ?_
        refine (AllReadyH.cons rfl (fun K hK => ?_) AllReadyH.nil)
        go_simp
        refine (Cb.out _).mono ?_
        rintro e v56 ⟨rfl, hB56⟩
        refine hK.out _ _ (bl hHeld hB56) (fun hHeld => ?_)
        clear hK K
        try simp only [Act.put, List.setIfInBounds_toArray, List.set_cons_zero, List.set_cons_succ]
        have m6 := m6.below hB56 l6
        have l6 := Nat.lt_of_lt_of_le l6 hB56.size
        have m5 := m5.below hB56 l5
        have l5 := Nat.lt_of_lt_of_le l5 hB56.size
        refine wpAnyH_ready (rs := [6]) (by kernel_rfl) (by simp) ?_
        refine (AllReadyH.cons rfl (fun K hK => ?_) AllReadyH.nil)
        rw [if_pos (by rfl)]
        simp only [List.getElem_toArray, List.getElem_cons_zero, List.getElem_cons_succ]
        with_reducible refine S_store 93 5 13 ta93 (([.int .u32 ah, .int .u64 am, .int .u64 al] : List Value)) (([.int .u32 0, .int .u64 0, .int .u64 0] : List Value)) (rfl) (rfl) (by simp [Value.oneCell']) (p5) 0 ?_ ?_ m5 ?_
        · rfl
        · rfl
        intro v57 m5' hO57
        refine hK.out _ _ (bo hHeld hO57 q5) (fun hHeld => ?_)
        clear hK K
        try simp only [Act.put]
        have m6 := m6.only l6 hO57 (.inl (by omega))
        have l6 := Nat.lt_of_lt_of_le l6 hO57.size
        have l5 := Nat.lt_of_lt_of_le l5 hO57.size
        have m5 := m5'
        refine wpAnyH_ready (rs := [7]) (by kernel_rfl) (by simp) ?_
        refine (AllReadyH.cons rfl (fun K hK => ?_) AllReadyH.nil)
        rw [if_pos (by rfl)]
        simp only [List.getElem_toArray, List.getElem_cons_zero, List.getElem_cons_succ]
        with_reducible refine S_store 93 6 15 ta93 (([.int .u32 bh, .int .u64 bm, .int .u64 bo'] : List Value)) (([.int .u32 0, .int .u64 0, .int .u64 0] : List Value)) (rfl) (rfl) (by simp [Value.oneCell']) (p6) 0 ?_ ?_ m6 ?_
        · rfl
        · rfl
        intro v58 m6' hO58
        refine hK.out _ _ (bo hHeld hO58 q6) (fun hHeld => ?_)
        clear hK K
        try simp only [Act.put]
        have m5 := m5.only l5 hO58 (.inl (by omega))
        have l6 := Nat.lt_of_lt_of_le l6 hO58.size
        have l5 := Nat.lt_of_lt_of_le l5 hO58.size
        have m6 := m6'
        refine wpAnyH_done (by kernel_rfl) ?_ _
        exact ⟨p5, p6, rfl, rfl, hHeld, m5, m6⟩

  · intro p5 p6 w5 hR
    obtain ⟨B5, m5, m6⟩ := hR
    have ca0 := (m5 0 _ rfl).1
    have ca1 := (m5 1 _ rfl).1
    have ca2 := (m5 2 _ rfl).1
    have cb0 := (m6 0 _ rfl).1
    have cb1 := (m6 1 _ rfl).1
    have cb2 := (m6 2 _ rfl).1
    simp only [Nat.zero_add] at ca0 ca1 ca2 cb0 cb1 cb2
    have m4 := m4.below B5 l4
    have l4 := Nat.lt_of_lt_of_le l4 B5.size
    have BW := bl BW B5
    clear m5 m6 B5 l2 l3 m2 m3
    simp only [Act.put, List.setIfInBounds_toArray, List.set_cons_zero, List.set_cons_succ]
    go_wp2_with (first | simp only [R1.out] | simp only [R2.out])
    refine (C3.out _).mono ?_
    rintro e x ⟨c, rfl, hx⟩
    rw [hx]
    clear hx x
    go_wp2_with fail
    refine (C4.out _).mono ?_
    rintro e w6 ⟨rfl, B6⟩
    have m4 := m4.below B6 l4
    go_wp2_with ((with_reducible refine D_store 51 4 47 ta51 (L s) (L fun _ => 0) (L_len HL _) (L_len HL _) (L_one HL _) p4 0 ?_ ?_ ?_ ?_); (rfl); (rfl); (exact m4); (intro w9 m9 o9))
    exact bodyPost_ret (R_results ta51 Try.results29 _ _ p4 0 (L s) (L_len HL _) rfl m9) rfl ⟨rfl, bo (bl BW B6) o9 q4⟩
end Go.Proofs.Qxb6609493a
