import Derived.Test.Qxb6612204aSh3
namespace Go.Proofs.Qxb6612204a
open Go.RowKit

theorem StateAt.tg_only {w w' : World} {B : Nat} {s : St} {r : Nat → Int} (h : StateAt w B s) (k : Only B 1028 1024 w w') (hr : Regs w' B 1028 r) : StateAt w' B { s with tb := { s.tb with tg := r } } :=
  ⟨cell_only h.node k (by omega), cell_only h.set k (by omega), cell_only h.rank k (by omega), cell_only h.holds k (by omega), h.rg.only h.rg.lt k (by omega),
    ⟨hr, h.tb.rc.only h.tb.rc.lt k (by omega), cell_only h.tb.f0 k (by omega), cell_only h.tb.f1 k (by omega), cell_only h.tb.n k (by omega), cell_only h.tb.e k (by omega), fun j => (k.frozen j).trans (h.tb.fr j)⟩⟩
theorem StateAt.rc_only {w w' : World} {B : Nat} {s : St} {r : Nat → Int} (h : StateAt w B s) (k : Only B (1028 + 1024) 1024 w w') (hr : Regs w' B (1028 + 1024) r) : StateAt w' B { s with tb := { s.tb with rc := r } } :=
  ⟨cell_only h.node k (by omega), cell_only h.set k (by omega), cell_only h.rank k (by omega), cell_only h.holds k (by omega), h.rg.only h.rg.lt k (by omega),
    ⟨h.tb.tg.only h.tb.tg.lt k (by omega), hr, cell_only h.tb.f0 k (by omega), cell_only h.tb.f1 k (by omega), cell_only h.tb.n k (by omega), cell_only h.tb.e k (by omega), fun j => (k.frozen j).trans (h.tb.fr j)⟩⟩
theorem StateAt.rk_only {w w' : World} {B : Nat} {s : St} {x y n e : Int} (h : StateAt w B s) (k : Only B (1028 + 2048) 4 w w') (hr : RkAt w' B (1028 + 2048) x y n) (he : w'.cell? ⟨B, 1028 + 2051, none⟩ = some (.int .u64 e)) : StateAt w' B { s with tb := { s.tb with f0 := x, f1 := y, n := n, e := e } } :=
  ⟨cell_only h.node k (by omega), cell_only h.set k (by omega), cell_only h.rank k (by omega), cell_only h.holds k (by omega), h.rg.only h.rg.lt k (by omega),
    ⟨h.tb.tg.only h.tb.tg.lt k (by omega), h.tb.rc.only h.tb.rc.lt k (by omega), hr.x, hr.y, hr.n, he, fun j => (k.frozen j).trans (h.tb.fr j)⟩⟩
theorem TombAt.rk {w : World} {b o : Nat} {t : Tb} (h : TombAt w b o t) : RkAt w b (o + 2048) t.f0 t.f1 t.n := ⟨h.f0, h.f1, h.n, h.fr⟩

set_option maxHeartbeats 2000000 in
set_option maxRecDepth 100000 in
/-- ReceiveTombstone at a node that holds nothing: a tombstone that is not short. -/
theorem recvT_no {L : (Nat → Int) → List Value} (HL : IsL L) (B b : Nat) (t : Tb) (w : World) (hh : w.cell? ⟨B, 3, none⟩ = some (.int .i64 0)) (ht : Hid (TombAt w b 0 t)) (hs : shortF t = false) :
    Calls Try.prog 14 #[.pointer (some ⟨B, 0, none⟩), .pointer (some ⟨b, 0, none⟩)] w fun x w' => x = .returned (.tuple #[.int .i64 0, .pointer none]) ∧ Below w.heap.size w w' := by
  have HS := short_any HL b 0 t w ht
  rw [hs] at HS
  go_enter Try.func14, Try.ntmps14
  go_wp2_with fail
  refine HS.mono ?_
  rintro x w1 ⟨rfl, hb⟩
  have HB : Hid (Below w.heap.size w w1) := hb
  clear hb
  go_wp2_with fail
  go_ret2
  exact ⟨rfl, HB.out⟩

set_option maxHeartbeats 8000000 in
set_option maxRecDepth 100000 in
/-- ReceiveTombstone at a node that holds nothing: a short tombstone. -/
theorem recvT_yes {L : (Nat → Int) → List Value} (HL : IsL L) (B b : Nat) (node set : ByteArray) (rank : Int) (rg : Nat → Int) (t : Tb) (X0 Y0 N0 X Y N : Int) (w : World) (hne : B ≠ b) (hn : node.size ≤ 1048576)
    (hs : Hid (StateAt w B ⟨node, set, rank, 0, rg, ⟨fun _ => 0, fun _ => 0, 0, 0, 0, 0⟩⟩)) (ht : Hid (TombAt w b 0 t)) (hsh : shortF t = true) (he : 0 < t.e)
    (HM : Hid (∀ w1, RkAt w1 B (1028 + 2048) 0 0 0 → RkAt w1 b (0 + 2048) t.f0 t.f1 t.n → Calls Try.prog 50 #[.pointer (some ⟨B, 1028 + 2048, none⟩), .pointer (some ⟨b, 0 + 2048, none⟩)] w1 fun r w' => r = .returned (.tuple #[]) ∧ RkAt w' B (1028 + 2048) X0 Y0 N0 ∧ Only B (1028 + 2048) 3 w1 w'))
    (HA : Hid (∀ w1, RkAt w1 B (1028 + 2048) X0 Y0 N0 → Calls Try.prog 41 #[.pointer (some ⟨B, 1028 + 2048, none⟩), .int .u64 (rankAtF rank t.e)] w1 fun r w' => r = .returned (.tuple #[]) ∧ RkAt w' B (1028 + 2048) X Y N ∧ Only B (1028 + 2048) 3 w1 w'))
    (HO : Hid (∀ w1, RkAt w1 B (1028 + 2048) X Y N → Calls Try.prog 42 #[.pointer (some ⟨B, 1028 + 2048, none⟩), .int .u64 (rankAtF rank t.e)] w1 fun r w' => r = .returned (.bool true) ∧ Below w1.heap.size w1 w')) :
    Calls Try.prog 14 #[.pointer (some ⟨B, 0, none⟩), .pointer (some ⟨b, 0, none⟩)] w fun x w' => x = .returned (.tuple #[.int .i64 1, .pointer none]) ∧
      StateAt w' B ⟨node, set, rank, 2, rg, ⟨maxF (fun _ => 0) t.tg, addF (maxF (fun _ => 0) t.rc) node.data.toList, X, Y, N, t.e⟩⟩ ∧ TombAt w' b 0 t ∧ Only B 3 3077 w w' := by
  have HS := short_any HL b 0 t w ht
  rw [hsh] at HS
  have hh : w.cell? ⟨B, 3, none⟩ = some (.int .i64 0) := hs.out.holds
  go_enter Try.func14, Try.ntmps14
  go_wp2_with fail
  refine HS.mono ?_
  rintro x w1 ⟨rfl, hb⟩
  have HS1 : Hid (StateAt w1 B ⟨node, set, rank, 0, rg, ⟨fun _ => 0, fun _ => 0, 0, 0, 0, 0⟩⟩) := hs.out.below hb
  have HT1 : Hid (TombAt w1 b 0 t) := ht.out.below hb
  have HK1 : Hid (Only B 3 3077 w w1) := Only.of_below (b := B) _ _ hb hs.out.lt
  have hh1 : w1.cell? ⟨B, 3, none⟩ = some (.int .i64 0) := HS1.out.holds
  have hf1 : w1.frozen? ⟨B, 3, none⟩ = false := HS1.out.tb.fr 3
  clear hb hs ht hh HS
  go_wp2_with fail
  obtain ⟨w2, hw2⟩ : ∃ w2, w2 = w1.setCell ⟨B, 3, none⟩ (.int .i64 2) := ⟨_, rfl⟩
  rw [← hw2]
  have kk : Only B 3 3077 w1 w2 := by rw [hw2]; exact Only.setCell 3 _ (by omega) (by omega)
  have HS2 : Hid (StateAt w2.drew B ⟨node, set, rank, 2, rg, ⟨fun _ => 0, fun _ => 0, 0, 0, 0, 0⟩⟩) := by
    have := HS1.out.set_holds 2
    rw [← hw2] at this
    exact this.below ((Below.refl _ _).drew)
  have HT2 : Hid (TombAt w2.drew b 0 t) := (HT1.out.only kk (.inl (Ne.symm hne))).below ((Below.refl _ _).drew)
  have HK2 : Hid (Only B 3 3077 w w2.drew) := (HK1.out.trans kk).trans (Only.of_below (b := B) _ _ ((Below.refl _ _).drew) HS2.out.lt)
  clear hw2 kk HS1 HT1 HK1 hh1 hf1
  refine wp_region_held_drew (S := fun _ => True) (by kernel_rfl) (trivial) (fun hHeld => ?_)
  refine H_move 0 34 (.pointer (some ⟨B, 0, none⟩)) rfl (by kernel_rfl) (by kernel_rfl) (by kernel_rfl) (fun _ _ _ h => h) rfl rfl hHeld ?_
  try simp only [Act.put, List.setIfInBounds_toArray, List.set_cons_zero, List.set_cons_succ]
  refine H_take 1 35 (.pointer (some ⟨B, 0, none⟩)) rfl rfl (by kernel_rfl) (by kernel_rfl) (by kernel_rfl) (fun _ _ _ h => h) rfl ?_ hHeld ?_
  · intro w' _; go_simp
  try simp only [Act.put, List.setIfInBounds_toArray, List.set_cons_zero, List.set_cons_succ]
  refine H_take 2 36 (.pointer (some ⟨B, 1028, none⟩)) rfl rfl (by kernel_rfl) (by kernel_rfl) (by kernel_rfl) (fun _ _ _ h => h) rfl ?_ hHeld ?_
  · intro w' _; go_simp
  try simp only [Act.put, List.setIfInBounds_toArray, List.set_cons_zero, List.set_cons_succ]
  refine H_take 3 37 (.pointer (some ⟨B, 1028, none⟩)) rfl rfl (by kernel_rfl) (by kernel_rfl) (by kernel_rfl) (fun _ _ _ h => h) rfl ?_ hHeld ?_
  · intro w' _; go_simp
  try simp only [Act.put, List.setIfInBounds_toArray, List.set_cons_zero, List.set_cons_succ]
  refine H_move 4 38 (.pointer (some ⟨b, 0, none⟩)) rfl (by kernel_rfl) (by kernel_rfl) (by kernel_rfl) (fun _ _ _ h => h) rfl rfl hHeld ?_
  try simp only [Act.put, List.setIfInBounds_toArray, List.set_cons_zero, List.set_cons_succ]
  refine H_take 5 39 (.pointer (some ⟨b, 0, none⟩)) rfl rfl (by kernel_rfl) (by kernel_rfl) (by kernel_rfl) (fun _ _ _ h => h) rfl ?_ hHeld ?_
  · intro w' _; go_simp
  try simp only [Act.put, List.setIfInBounds_toArray, List.set_cons_zero, List.set_cons_succ]
  refine H_take 6 40 (.pointer (some ⟨b, 0, none⟩)) rfl rfl (by kernel_rfl) (by kernel_rfl) (by kernel_rfl) (fun _ _ _ h => h) rfl ?_ hHeld ?_
  · intro w' _; go_simp
  try simp only [Act.put, List.setIfInBounds_toArray, List.set_cons_zero, List.set_cons_succ]
  refine wpAnyH_ready (rs := [7]) (by kernel_rfl) (by simp) ?_
  refine AllReadyH.cons rfl (fun K hK => ?_) AllReadyH.nil
  go_simp
  refine (merge_any HL B 1028 b 0 (fun _ => 0) t.tg _ HS2.out.tb.tg HT2.out.tg).mono ?_
  rintro x w3 ⟨rfl, hr3, ho3⟩
  refine hK.out _ _ (trivial) (fun hHeld => ?_)
  clear hK K
  try simp only [Act.put, List.setIfInBounds_toArray, List.set_cons_zero, List.set_cons_succ]
  refine wpAnyH_done (by kernel_rfl) ?_ _
  have HS3 : Hid (StateAt w3.drew B ⟨node, set, rank, 2, rg, ⟨maxF (fun _ => 0) t.tg, fun _ => 0, 0, 0, 0, 0⟩⟩) := (HS2.out.tg_only ho3 hr3).below ((Below.refl _ _).drew)
  have HT3 : Hid (TombAt w3.drew b 0 t) := (HT2.out.only ho3 (.inl (Ne.symm hne))).below ((Below.refl _ _).drew)
  have HK3 : Hid (Only B 3 3077 w w3.drew) := (HK2.out.trans (ho3.mono (by omega) (by omega))).trans (Only.of_below (b := B) _ _ ((Below.refl _ _).drew) HS3.out.lt)
  clear hr3 ho3 HS2 HT2 HK2
  go_wp2_with fail
  refine wp_region_held_drew (S := fun _ => True) (by kernel_rfl) (trivial) (fun hHeld => ?_)
  refine H_move 0 42 (.pointer (some ⟨B, 0, none⟩)) rfl (by kernel_rfl) (by kernel_rfl) (by kernel_rfl) (fun _ _ _ h => h) rfl rfl hHeld ?_
  try simp only [Act.put, List.setIfInBounds_toArray, List.set_cons_zero, List.set_cons_succ]
  refine H_take 1 43 (.pointer (some ⟨B, 0, none⟩)) rfl rfl (by kernel_rfl) (by kernel_rfl) (by kernel_rfl) (fun _ _ _ h => h) rfl ?_ hHeld ?_
  · intro w' _; go_simp
  try simp only [Act.put, List.setIfInBounds_toArray, List.set_cons_zero, List.set_cons_succ]
  refine H_take 2 44 (.pointer (some ⟨B, 1028, none⟩)) rfl rfl (by kernel_rfl) (by kernel_rfl) (by kernel_rfl) (fun _ _ _ h => h) rfl ?_ hHeld ?_
  · intro w' _; go_simp
  try simp only [Act.put, List.setIfInBounds_toArray, List.set_cons_zero, List.set_cons_succ]
  refine H_take 3 45 (.pointer (some ⟨B, 1028 + 1024, none⟩)) rfl rfl (by kernel_rfl) (by kernel_rfl) (by kernel_rfl) (fun _ _ _ h => h) rfl ?_ hHeld ?_
  · intro w' _; go_simp
  try simp only [Act.put, List.setIfInBounds_toArray, List.set_cons_zero, List.set_cons_succ]
  refine H_move 4 46 (.pointer (some ⟨b, 0, none⟩)) rfl (by kernel_rfl) (by kernel_rfl) (by kernel_rfl) (fun _ _ _ h => h) rfl rfl hHeld ?_
  try simp only [Act.put, List.setIfInBounds_toArray, List.set_cons_zero, List.set_cons_succ]
  refine H_take 5 47 (.pointer (some ⟨b, 0, none⟩)) rfl rfl (by kernel_rfl) (by kernel_rfl) (by kernel_rfl) (fun _ _ _ h => h) rfl ?_ hHeld ?_
  · intro w' _; go_simp
  try simp only [Act.put, List.setIfInBounds_toArray, List.set_cons_zero, List.set_cons_succ]
  refine H_take 6 48 (.pointer (some ⟨b, 0 + 1024, none⟩)) rfl rfl (by kernel_rfl) (by kernel_rfl) (by kernel_rfl) (fun _ _ _ h => h) rfl ?_ hHeld ?_
  · intro w' _; go_simp
  try simp only [Act.put, List.setIfInBounds_toArray, List.set_cons_zero, List.set_cons_succ]
  refine wpAnyH_ready (rs := [7]) (by kernel_rfl) (by simp) ?_
  refine AllReadyH.cons rfl (fun K hK => ?_) AllReadyH.nil
  go_simp
  refine (merge_any HL B (1028 + 1024) b (0 + 1024) (fun _ => 0) t.rc _ HS3.out.tb.rc HT3.out.rc).mono ?_
  rintro x w4 ⟨rfl, hr4, ho4⟩
  refine hK.out _ _ (trivial) (fun hHeld => ?_)
  clear hK K
  try simp only [Act.put, List.setIfInBounds_toArray, List.set_cons_zero, List.set_cons_succ]
  refine wpAnyH_done (by kernel_rfl) ?_ _
  have HS4 : Hid (StateAt w4.drew B ⟨node, set, rank, 2, rg, ⟨maxF (fun _ => 0) t.tg, maxF (fun _ => 0) t.rc, 0, 0, 0, 0⟩⟩) := (HS3.out.rc_only ho4 hr4).below ((Below.refl _ _).drew)
  have HT4 : Hid (TombAt w4.drew b 0 t) := (HT3.out.only ho4 (.inl (Ne.symm hne))).below ((Below.refl _ _).drew)
  have HK4 : Hid (Only B 3 3077 w w4.drew) := (HK3.out.trans (ho4.mono (by omega) (by omega))).trans (Only.of_below (b := B) _ _ ((Below.refl _ _).drew) HS4.out.lt)
  clear hr4 ho4 HS3 HT3 HK3
  go_wp2_with fail
  refine wp_region_held_drew (S := fun w' => w'.cell? ⟨B, 0, none⟩ = some (.string node)) (by kernel_rfl) (HS4.out.node) (fun hHeld => ?_)
  refine H_move 0 50 (.pointer (some ⟨B, 0, none⟩)) rfl (by kernel_rfl) (by kernel_rfl) (by kernel_rfl) (fun _ _ _ h => h) rfl rfl hHeld ?_
  try simp only [Act.put, List.setIfInBounds_toArray, List.set_cons_zero, List.set_cons_succ]
  refine H_take 1 51 (.pointer (some ⟨B, 0, none⟩)) rfl rfl (by kernel_rfl) (by kernel_rfl) (by kernel_rfl) (fun _ _ _ h => h) rfl ?_ hHeld ?_
  · intro w' _; go_simp
  try simp only [Act.put, List.setIfInBounds_toArray, List.set_cons_zero, List.set_cons_succ]
  refine H_take 2 52 (.pointer (some ⟨B, 1028, none⟩)) rfl rfl (by kernel_rfl) (by kernel_rfl) (by kernel_rfl) (fun _ _ _ h => h) rfl ?_ hHeld ?_
  · intro w' _; go_simp
  try simp only [Act.put, List.setIfInBounds_toArray, List.set_cons_zero, List.set_cons_succ]
  refine H_take 3 53 (.pointer (some ⟨B, 1028 + 1024, none⟩)) rfl rfl (by kernel_rfl) (by kernel_rfl) (by kernel_rfl) (fun _ _ _ h => h) rfl ?_ hHeld ?_
  · intro w' _; go_simp
  try simp only [Act.put, List.setIfInBounds_toArray, List.set_cons_zero, List.set_cons_succ]
  refine H_move 4 54 (.pointer (some ⟨B, 0, none⟩)) rfl (by kernel_rfl) (by kernel_rfl) (by kernel_rfl) (fun _ _ _ h => h) rfl rfl hHeld ?_
  try simp only [Act.put, List.setIfInBounds_toArray, List.set_cons_zero, List.set_cons_succ]
  refine H_take 5 55 (.pointer (some ⟨B, 0, none⟩)) rfl rfl (by kernel_rfl) (by kernel_rfl) (by kernel_rfl) (fun _ _ _ h => h) rfl ?_ hHeld ?_
  · intro w' _; go_simp
  try simp only [Act.put, List.setIfInBounds_toArray, List.set_cons_zero, List.set_cons_succ]
  refine H_take 6 56 (.pointer (some ⟨B, 0, none⟩)) rfl rfl (by kernel_rfl) (by kernel_rfl) (by kernel_rfl) (fun _ _ _ h => h) rfl ?_ hHeld ?_
  · intro w' _; go_simp
  try simp only [Act.put, List.setIfInBounds_toArray, List.set_cons_zero, List.set_cons_succ]
  refine H_take 7 57 (.string node) rfl rfl (by kernel_rfl) (by kernel_rfl) (by kernel_rfl) (fun _ _ _ h => h) rfl ?_ hHeld ?_
  · intro w' k; go_simp
  try simp only [Act.put, List.setIfInBounds_toArray, List.set_cons_zero, List.set_cons_succ]
  refine wpAnyH_ready (rs := [8]) (by kernel_rfl) (by simp) ?_
  refine AllReadyH.cons rfl (fun K hK => ?_) AllReadyH.nil
  go_simp
  refine (add_any B (1028 + 1024) node (maxF (fun _ => 0) t.rc) _ hn HS4.out.tb.rc).mono ?_
  rintro x w5 ⟨rfl, hr5, ho5⟩
  refine hK.out _ _ (cell_only hHeld ho5 (by omega)) (fun hHeld => ?_)
  clear hK K
  try simp only [Act.put, List.setIfInBounds_toArray, List.set_cons_zero, List.set_cons_succ]
  refine wpAnyH_done (by kernel_rfl) ?_ _
  have HS5 : Hid (StateAt w5 B ⟨node, set, rank, 2, rg, ⟨maxF (fun _ => 0) t.tg, addF (maxF (fun _ => 0) t.rc) node.data.toList, 0, 0, 0, 0⟩⟩) := HS4.out.rc_only ho5 hr5
  have HT5 : Hid (TombAt w5 b 0 t) := HT4.out.only ho5 (.inl (Ne.symm hne))
  have HK5 : Hid (Only B 3 3077 w w5) := HK4.out.trans (ho5.mono (by omega) (by omega))
  clear hr5 ho5 HS4 HT4 HK4 hHeld
  go_wp2_with fail
  refine (mergeRanks_any B 1028 b 0 t.f0 t.f1 t.n X0 Y0 N0 t.e w5 hne he HS5.out.tb.rk HS5.out.tb.e HT5.out.rk HT5.out.e HM).mono ?_
  rintro x w6 ⟨rfl, hr6, hc6, ho6⟩
  have HS6 : Hid (StateAt w6 B ⟨node, set, rank, 2, rg, ⟨maxF (fun _ => 0) t.tg, addF (maxF (fun _ => 0) t.rc) node.data.toList, X0, Y0, N0, t.e⟩⟩) := HS5.out.rk_only ho6 hr6 hc6
  have HT6 : Hid (TombAt w6 b 0 t) := HT5.out.only ho6 (.inl (Ne.symm hne))
  have HK6 : Hid (Only B 3 3077 w w6) := HK5.out.trans (ho6.mono (by omega) (by omega))
  clear hr6 hc6 ho6 HS5 HT5 HK5
  go_wp2_with fail
  refine (ownRank_any B rank t.e w6 (by simp; omega) HS6.out.rank HS6.out.tb.e).mono ?_
  rintro x w7 ⟨rfl, hb7⟩
  have HS7 : Hid (StateAt w7 B ⟨node, set, rank, 2, rg, ⟨maxF (fun _ => 0) t.tg, addF (maxF (fun _ => 0) t.rc) node.data.toList, X0, Y0, N0, t.e⟩⟩) := HS6.out.below hb7
  have HT7 : Hid (TombAt w7 b 0 t) := HT6.out.below hb7
  have HK7 : Hid (Only B 3 3077 w w7) := HK6.out.trans (Only.of_below (b := B) _ _ hb7 HS6.out.lt)
  clear hb7 HS6 HT6 HK6
  obtain ⟨own, hown⟩ : ∃ o, o = rankAtF rank t.e := ⟨_, rfl⟩
  rw [← hown] at HA HO ⊢
  clear hown
  go_wp2_with fail
  refine (HA.out w7 HS7.out.tb.rk).mono ?_
  rintro x w8 ⟨rfl, hr8, ho8⟩
  have HS8 : Hid (StateAt w8 B ⟨node, set, rank, 2, rg, ⟨maxF (fun _ => 0) t.tg, addF (maxF (fun _ => 0) t.rc) node.data.toList, X, Y, N, t.e⟩⟩) := HS7.out.rk_only (ho8.mono (by omega) (by omega)) hr8 (cell_only HS7.out.tb.e ho8 (by omega))
  have HT8 : Hid (TombAt w8 b 0 t) := HT7.out.only ho8 (.inl (Ne.symm hne))
  have HK8 : Hid (Only B 3 3077 w w8) := HK7.out.trans (ho8.mono (by omega) (by omega))
  clear hr8 ho8 HS7 HT7 HK7
  have HR8 := reached_any HL B 1028 _ _ w8 HS8.out.tb.tg HS8.out.tb.rc
  go_wp2_with fail
  refine HR8.mono ?_
  rintro x w9 ⟨rfl, hb9⟩
  have HS9 : Hid (StateAt w9 B ⟨node, set, rank, 2, rg, ⟨maxF (fun _ => 0) t.tg, addF (maxF (fun _ => 0) t.rc) node.data.toList, X, Y, N, t.e⟩⟩) := HS8.out.below hb9
  have HT9 : Hid (TombAt w9 b 0 t) := HT8.out.below hb9
  have HK9 : Hid (Only B 3 3077 w w9) := HK8.out.trans (Only.of_below (b := B) _ _ hb9 HS8.out.lt)
  clear hb9 HS8 HT8 HK8 HR8
  dsimp only
  generalize covF (addF (maxF (fun _ => 0) t.rc) node.data.toList) (maxF (fun _ => 0) t.tg) = c
  cases c
  · go_wp2_with fail
    go_ret2
    exact ⟨rfl, HS9.out, HT9.out, HK9.out⟩
  · go_wp2_with fail
    refine (HO.out w9 HS9.out.tb.rk).mono ?_
    rintro x w10 ⟨rfl, hb10⟩
    have HS10 : Hid (StateAt w10 B ⟨node, set, rank, 2, rg, ⟨maxF (fun _ => 0) t.tg, addF (maxF (fun _ => 0) t.rc) node.data.toList, X, Y, N, t.e⟩⟩) := HS9.out.below hb10
    have HT10 : Hid (TombAt w10 b 0 t) := HT9.out.below hb10
    have HK10 : Hid (Only B 3 3077 w w10) := HK9.out.trans (Only.of_below (b := B) _ _ hb10 HS9.out.lt)
    clear hb10 HS9 HT9 HK9
    go_wp2_with fail
    go_ret2
    exact ⟨rfl, HS10.out, HT10.out, HK10.out⟩
end Go.Proofs.Qxb6612204a
