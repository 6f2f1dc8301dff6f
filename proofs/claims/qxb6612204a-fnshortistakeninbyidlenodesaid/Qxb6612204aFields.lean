import Derived.Test.Qxb6612204aHeld2
import Derived.Test.Qxb6612204aLive
namespace Go.Proofs.Qxb6612204a
open Go.RowKit

theorem Only.frozen_far {b o n b' : Nat} {w w' : World} (h : Only b o n w w') (j : Nat) (hb : b' < w.heap.size) (hne : b' ≠ b) : w'.frozen? ⟨b', j, none⟩ = w.frozen? ⟨b', j, none⟩ := by
  simp only [World.frozen?, h.block b' hb hne]

/-- Five results: two arrays, two ranks, two numbers. -/
theorem L_results5 {L : (Nat → Int) → List Value} (HL : IsL L) {fn : Func} {p0 p1 p2 p3 p4 : Tmp} (h : fn.results = #[.cell p0 22, .cell p1 22, .cell p2 24, .tmp p3, .tmp p4]) (tmps : Array Value) (w : World) (b0 b1 b2 : Nat) (t : Tb)
    (h0 : tmps.getD p0 undef = .pointer (some ⟨b0, 0, none⟩)) (h1 : tmps.getD p1 undef = .pointer (some ⟨b1, 0, none⟩)) (h2 : tmps.getD p2 undef = .pointer (some ⟨b2, 0, none⟩)) (h3 : tmps.getD p3 undef = .int .i64 t.n) (h4 : tmps.getD p4 undef = .int .u64 t.e)
    (r0 : Regs w b0 0 t.tg) (r1 : Regs w b1 0 t.rc) (c0 : w.cell? ⟨b2, 0, none⟩ = some (.int .u64 t.f0)) (c1 : w.cell? ⟨b2, 1, none⟩ = some (.int .u64 t.f1)) :
    (results fn tmps).run Try.prog w = .ok (.tuple #[.agg (L t.tg).toArray, .agg (L t.rc).toArray, .agg #[.int .u64 t.f0, .int .u64 t.f1], .int .i64 t.n, .int .u64 t.e]) w := by
  have l0 := run_loadVar_mid (P := Try.prog) w b0 0 22 (lst t.tg) (.array 1024 5) r0.range Try.underlying22 rfl (by rw [lst_length]; exact info22)
  have l1 := run_loadVar_mid (P := Try.prog) w b1 0 22 (lst t.rc) (.array 1024 5) r1.range Try.underlying22 rfl (by rw [lst_length]; exact info22)
  have l2 := run_loadVar_mid (P := Try.prog) w b2 0 24 [.int .u64 t.f0, .int .u64 t.f1] (.array 2 23) (fun j c hc => by
    match j, hc with
    | 0, hc => simp at hc; subst hc; exact c0
    | 1, hc => simp at hc; subst hc; exact c1
    | j + 2, hc => simp at hc) Try.underlying24 rfl (by kernel_rfl)
  have q0 : tmps[p0]?.getD undef = .pointer (some ⟨b0, 0, none⟩) := by simpa using h0
  have q1 : tmps[p1]?.getD undef = .pointer (some ⟨b1, 0, none⟩) := by simpa using h1
  have q2 : tmps[p2]?.getD undef = .pointer (some ⟨b2, 0, none⟩) := by simpa using h2
  have q3 : tmps[p3]?.getD undef = .int .i64 t.n := by simpa using h3
  have q4 : tmps[p4]?.getD undef = .int .u64 t.e := by simpa using h4
  rw [HL, HL]
  generalize (lst t.tg).toArray = A at l0
  generalize (lst t.rc).toArray = A1 at l1
  simp [results, h, q0, q1, q2, q3, q4, asAddr, l0, l1, l2]

set_option maxHeartbeats 4000000 in
set_option maxRecDepth 100000 in
/-- ZZtombFields. -/
theorem tombFields_any {L : (Nat → Int) → List Value} (HL : IsL L) (b o : Nat) (t : Tb) (w : World) (HT : Hid (TombAt w b o t)) :
    Calls Try.prog 43 #[.pointer (some ⟨b, o, none⟩)] w fun e w' => e = .returned (.tuple #[.agg (L t.tg).toArray, .agg (L t.rc).toArray, .agg #[.int .u64 t.f0, .int .u64 t.f1], .int .i64 t.n, .int .u64 t.e]) ∧ Below w.heap.size w w' := by
  obtain ⟨W, hW⟩ : ∃ W, W = (((w.alloc (.cells (L (fun _ => 0)).toArray 22)).alloc (.cells (L (fun _ => 0)).toArray 22)).alloc (.cells #[.int .u64 0, .int .u64 0] 24)) := ⟨_, rfl⟩
  have b3 : W.heap[w.heap.size + 1 + 1]? = some (.cells #[.int .u64 0, .int .u64 0] 24) := by rw [hW]; exact new_blk _ _ (by simp)
  have H0 : Hid (Regs W.drew w.heap.size 0 (fun _ => 0)) := by
    show Regs W _ _ _
    rw [hW]; exact (L_new HL w _ 22 rfl).below (((Below.refl _ _).alloc (Nat.le_refl _) _).alloc (by simp) _)
  have H1 : Hid (Regs W.drew (w.heap.size + 1) 0 (fun _ => 0)) := by
    show Regs W _ _ _
    rw [hW]; exact (L_new HL _ _ 22 (by simp)).below ((Below.refl _ _).alloc (Nat.le_refl _) _)
  have H2 : Hid (W.drew.cell? ⟨w.heap.size + 1 + 1, 0, none⟩ = some (.int .u64 0) ∧ W.drew.cell? ⟨w.heap.size + 1 + 1, 1, none⟩ = some (.int .u64 0) ∧ ∀ j, W.drew.frozen? ⟨w.heap.size + 1 + 1, j, none⟩ = false) :=
    ⟨cell_of_row W _ 0 _ _ _ b3, cell_of_row W _ 1 _ _ _ b3, fun j => frozen_of_row W _ j _ _ b3⟩
  have HB : Hid (Below w.heap.size w W) := by
    show Below _ _ _
    rw [hW]; exact (((Below.refl _ _).alloc (Nat.le_refl _) _).alloc (by simp) _).alloc (by simp; omega) _
  have HW : Hid (W = (((w.alloc (.cells (L (fun _ => 0)).toArray 22)).alloc (.cells (L (fun _ => 0)).toArray 22)).alloc (.cells #[.int .u64 0, .int .u64 0] 24))) := hW
  clear hW b3
  go_enter Try.func43, Try.ntmps43
  go_upto_region 1 with (first | ((with_reducible refine D_alloc 2 HL ?_)) | ((with_reducible refine D_alloc 3 HL ?_)))
  rw [← HW.out]
  clear HW
  refine wp_region_held_drew (S := fun w' => Below w.heap.size w w') (by kernel_rfl) (HB.out.drew) (fun hHeld => ?_)
  refine H_move 0 7 (.pointer (some ⟨b, o, none⟩)) rfl (by kernel_rfl) (by kernel_rfl) (by kernel_rfl) (fun _ _ _ h => h) rfl rfl hHeld ?_
  try simp only [Act.put, List.setIfInBounds_toArray, List.set_cons_zero, List.set_cons_succ]
  refine H_take 1 8 (.pointer (some ⟨b, o, none⟩)) rfl rfl (by kernel_rfl) (by kernel_rfl) (by kernel_rfl) (fun _ _ _ h => h) rfl ?_ hHeld ?_
  · intro w' _; go_simp
  try simp only [Act.put, List.setIfInBounds_toArray, List.set_cons_zero, List.set_cons_succ]
  refine H_take 2 9 (.pointer (some ⟨b, o, none⟩)) rfl rfl (by kernel_rfl) (by kernel_rfl) (by kernel_rfl) (fun _ _ _ h => h) rfl ?_ hHeld ?_
  · intro w' _; go_simp
  try simp only [Act.put, List.setIfInBounds_toArray, List.set_cons_zero, List.set_cons_succ]
  refine H_take 3 10 (.pointer (some ⟨b, o, none⟩)) rfl rfl (by kernel_rfl) (by kernel_rfl) (by kernel_rfl) (fun _ _ _ h => h) rfl ?_ hHeld ?_
  · intro w' _; go_simp
  try simp only [Act.put, List.setIfInBounds_toArray, List.set_cons_zero, List.set_cons_succ]
  refine H_load 4 11 HL (b) o t.tg rfl (by kernel_rfl) (by kernel_rfl) (by kernel_rfl) (fun _ _ _ h => h) rfl rfl (fun w' k => HT.out.tg.below k) hHeld ?_
  try simp only [Act.put, List.setIfInBounds_toArray, List.set_cons_zero, List.set_cons_succ]
  refine H_move 5 12 (.pointer (some ⟨b, o, none⟩)) rfl (by kernel_rfl) (by kernel_rfl) (by kernel_rfl) (fun _ _ _ h => h) rfl rfl hHeld ?_
  try simp only [Act.put, List.setIfInBounds_toArray, List.set_cons_zero, List.set_cons_succ]
  refine H_take 6 13 (.pointer (some ⟨b, o, none⟩)) rfl rfl (by kernel_rfl) (by kernel_rfl) (by kernel_rfl) (fun _ _ _ h => h) rfl ?_ hHeld ?_
  · intro w' _; go_simp
  try simp only [Act.put, List.setIfInBounds_toArray, List.set_cons_zero, List.set_cons_succ]
  refine H_take 7 14 (.pointer (some ⟨b, o + 1024, none⟩)) rfl rfl (by kernel_rfl) (by kernel_rfl) (by kernel_rfl) (fun _ _ _ h => h) rfl ?_ hHeld ?_
  · intro w' _; go_simp
  try simp only [Act.put, List.setIfInBounds_toArray, List.set_cons_zero, List.set_cons_succ]
  refine H_take 8 15 (.pointer (some ⟨b, o + 1024, none⟩)) rfl rfl (by kernel_rfl) (by kernel_rfl) (by kernel_rfl) (fun _ _ _ h => h) rfl ?_ hHeld ?_
  · intro w' _; go_simp
  try simp only [Act.put, List.setIfInBounds_toArray, List.set_cons_zero, List.set_cons_succ]
  refine H_load 9 16 HL (b) (o + 1024) t.rc rfl (by kernel_rfl) (by kernel_rfl) (by kernel_rfl) (fun _ _ _ h => h) rfl rfl (fun w' k => HT.out.rc.below k) hHeld ?_
  try simp only [Act.put, List.setIfInBounds_toArray, List.set_cons_zero, List.set_cons_succ]
  refine H_move 10 17 (.pointer (some ⟨b, o, none⟩)) rfl (by kernel_rfl) (by kernel_rfl) (by kernel_rfl) (fun _ _ _ h => h) rfl rfl hHeld ?_
  try simp only [Act.put, List.setIfInBounds_toArray, List.set_cons_zero, List.set_cons_succ]
  refine H_take 11 18 (.pointer (some ⟨b, o, none⟩)) rfl rfl (by kernel_rfl) (by kernel_rfl) (by kernel_rfl) (fun _ _ _ h => h) rfl ?_ hHeld ?_
  · intro w' _; go_simp
  try simp only [Act.put, List.setIfInBounds_toArray, List.set_cons_zero, List.set_cons_succ]
  refine H_take 12 19 (.pointer (some ⟨b, o + 2048, none⟩)) rfl rfl (by kernel_rfl) (by kernel_rfl) (by kernel_rfl) (fun _ _ _ h => h) rfl ?_ hHeld ?_
  · intro w' _; go_simp
  try simp only [Act.put, List.setIfInBounds_toArray, List.set_cons_zero, List.set_cons_succ]
  refine H_take 13 20 (.pointer (some ⟨b, o + 2048, none⟩)) rfl rfl (by kernel_rfl) (by kernel_rfl) (by kernel_rfl) (fun _ _ _ h => h) rfl ?_ hHeld ?_
  · intro w' _; go_simp
  try simp only [Act.put, List.setIfInBounds_toArray, List.set_cons_zero, List.set_cons_succ]
  refine H_load2 14 21 (b) (o + 2048) (.int .u64 t.f0) (.int .u64 t.f1) rfl (by kernel_rfl) (by kernel_rfl) (by kernel_rfl) (fun _ _ _ h => h) rfl rfl (fun w' k => ⟨cell_below HT.out.f0 k, cell_below HT.out.f1 k⟩) hHeld ?_
  try simp only [Act.put, List.setIfInBounds_toArray, List.set_cons_zero, List.set_cons_succ]
  refine H_move 15 22 (.pointer (some ⟨b, o, none⟩)) rfl (by kernel_rfl) (by kernel_rfl) (by kernel_rfl) (fun _ _ _ h => h) rfl rfl hHeld ?_
  try simp only [Act.put, List.setIfInBounds_toArray, List.set_cons_zero, List.set_cons_succ]
  refine H_take 16 23 (.pointer (some ⟨b, o, none⟩)) rfl rfl (by kernel_rfl) (by kernel_rfl) (by kernel_rfl) (fun _ _ _ h => h) rfl ?_ hHeld ?_
  · intro w' _; go_simp
  try simp only [Act.put, List.setIfInBounds_toArray, List.set_cons_zero, List.set_cons_succ]
  refine H_take 17 24 (.pointer (some ⟨b, o + 2048, none⟩)) rfl rfl (by kernel_rfl) (by kernel_rfl) (by kernel_rfl) (fun _ _ _ h => h) rfl ?_ hHeld ?_
  · intro w' _; go_simp
  try simp only [Act.put, List.setIfInBounds_toArray, List.set_cons_zero, List.set_cons_succ]
  refine H_take 18 25 (.pointer (some ⟨b, o + 2050, none⟩)) rfl rfl (by kernel_rfl) (by kernel_rfl) (by kernel_rfl) (fun _ _ _ h => h) rfl ?_ hHeld ?_
  · intro w' _; go_simp
  try simp only [Act.put, List.setIfInBounds_toArray, List.set_cons_zero, List.set_cons_succ]
  refine H_take 19 26 (.int .i64 t.n) rfl rfl (by kernel_rfl) (by kernel_rfl) (by kernel_rfl) (fun _ _ _ h => h) rfl ?_ hHeld ?_
  · intro w' k; have hc := (cell_below HT.out.n k); go_simp
  try simp only [Act.put, List.setIfInBounds_toArray, List.set_cons_zero, List.set_cons_succ]
  refine H_move 20 27 (.pointer (some ⟨b, o, none⟩)) rfl (by kernel_rfl) (by kernel_rfl) (by kernel_rfl) (fun _ _ _ h => h) rfl rfl hHeld ?_
  try simp only [Act.put, List.setIfInBounds_toArray, List.set_cons_zero, List.set_cons_succ]
  refine H_take 21 28 (.pointer (some ⟨b, o, none⟩)) rfl rfl (by kernel_rfl) (by kernel_rfl) (by kernel_rfl) (fun _ _ _ h => h) rfl ?_ hHeld ?_
  · intro w' _; go_simp
  try simp only [Act.put, List.setIfInBounds_toArray, List.set_cons_zero, List.set_cons_succ]
  refine H_take 22 29 (.pointer (some ⟨b, o + 2051, none⟩)) rfl rfl (by kernel_rfl) (by kernel_rfl) (by kernel_rfl) (fun _ _ _ h => h) rfl ?_ hHeld ?_
  · intro w' _; go_simp
  try simp only [Act.put, List.setIfInBounds_toArray, List.set_cons_zero, List.set_cons_succ]
  refine H_take 23 30 (.int .u64 t.e) rfl rfl (by kernel_rfl) (by kernel_rfl) (by kernel_rfl) (fun _ _ _ h => h) rfl ?_ hHeld ?_
  · intro w' k; have hc := (cell_below HT.out.e k); go_simp
  try simp only [Act.put, List.setIfInBounds_toArray, List.set_cons_zero, List.set_cons_succ]
  refine H_store 24 2 11 HL w.heap.size 0 t.tg (fun _ => 0) rfl (by kernel_rfl) rfl rfl H0.out ?_
  intro w1 hr1 ho1
  have hb1 : Below w.heap.size w w1 := hHeld.trans (ho1.below (Nat.le_refl _) hHeld.size)
  refine ⟨hb1, ?_⟩
  try simp only [List.setIfInBounds_toArray, List.set_cons_zero, List.set_cons_succ]
  refine H_store 25 3 16 HL (w.heap.size + 1) 0 t.rc (fun _ => 0) rfl (by kernel_rfl) rfl rfl (H1.out.only H1.out.lt ho1 (by omega)) ?_
  intro w2 hr2 ho2
  have hb2 : Below w.heap.size w w2 := hb1.trans (ho2.below (by omega) hb1.size)
  refine ⟨hb2, ?_⟩
  try simp only [List.setIfInBounds_toArray, List.set_cons_zero, List.set_cons_succ]
  refine H_store2 26 4 21 (w.heap.size + 1 + 1) 0 t.f0 t.f1 0 0 rfl (by kernel_rfl) rfl rfl (cell_only (cell_only H2.out.1 ho1 (by omega)) ho2 (by omega)) (cell_only (cell_only H2.out.2.1 ho1 (by omega)) ho2 (by omega)) ?_ ?_
  · intro j; have hlt := World.block_lt_of_cell? _ _ H2.out.1; rw [ho2.frozen_far (b' := w.heap.size + 1 + 1) j (Nat.lt_of_lt_of_le hlt ho1.size) (by omega), ho1.frozen_far (b' := w.heap.size + 1 + 1) j hlt (by omega)]; exact H2.out.2.2 j
  intro w3 hc3 hc4 ho3
  have hb3 : Below w.heap.size w w3 := hb2.trans (ho3.below (by omega) hb2.size)
  refine ⟨hb3, ?_⟩
  try simp only [List.setIfInBounds_toArray, List.set_cons_zero, List.set_cons_succ]
  refine H_assign 27 5 (.int .i64 t.n) rfl (by kernel_rfl) (by kernel_rfl) (by kernel_rfl) (fun _ _ _ h => h) rfl rfl hb3 ?_
  try simp only [Act.put, List.setIfInBounds_toArray, List.set_cons_zero, List.set_cons_succ]
  refine H_assign 28 6 (.int .u64 t.e) rfl (by kernel_rfl) (by kernel_rfl) (by kernel_rfl) (fun _ _ _ h => h) rfl rfl hb3 ?_
  try simp only [Act.put, List.setIfInBounds_toArray, List.set_cons_zero, List.set_cons_succ]
  refine wpAnyH_done (by kernel_rfl) ?_ _
  have R1 : Hid (Regs w3 w.heap.size 0 t.tg) := (hr1.only hr1.lt ho2 (by omega)).only (hr1.only hr1.lt ho2 (by omega)).lt ho3 (by omega)
  have R2 : Hid (Regs w3 (w.heap.size + 1) 0 t.rc) := hr2.only hr2.lt ho3 (by omega)
  have R3 : Hid (Below w.heap.size w w3) := hb3
  have C3 : Hid (w3.cell? ⟨w.heap.size + 1 + 1, 0, none⟩ = some (.int .u64 t.f0) ∧ w3.cell? ⟨w.heap.size + 1 + 1, 1, none⟩ = some (.int .u64 t.f1)) := ⟨hc3, hc4⟩
  clear hb1 hb2 hb3 hr1 hr2 ho1 ho2 ho3 hHeld hc3 hc4
  go_wp2_with fail
  exact bodyPost_ret (L_results5 HL Try.results43 _ w3 w.heap.size (w.heap.size + 1) (w.heap.size + 1 + 1) t rfl rfl rfl rfl rfl R1.out R2.out C3.out.1 C3.out.2) rfl ⟨rfl, R3.out⟩
end Go.Proofs.Qxb6612204a
