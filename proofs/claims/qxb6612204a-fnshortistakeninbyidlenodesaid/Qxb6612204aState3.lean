import Derived.Test.Qxb6612204aState2
namespace Go.Proofs.Qxb6612204a
open Go.RowKit

theorem new_blk (W : World) (o : Obj) {n : Nat} (h : n = W.heap.size) : (W.alloc o).heap[n]? = some o := by subst h; exact heap_alloc_new W o

set_option maxHeartbeats 400000 in
theorem newState_any {L : (Nat → Int) → List Value} (HL : IsL L) (s : St) (w : World) :
    Calls Try.prog 10 #[.string s.node, .string s.set, .int .u64 s.rank, .int .i64 s.holds, .agg (L s.rg).toArray, .agg (L s.tb.tg).toArray, .agg (L s.tb.rc).toArray, .agg #[.int .u64 s.tb.f0, .int .u64 s.tb.f1], .int .i64 s.tb.n, .int .u64 s.tb.e] w
      fun e w' => ∃ B, e = .returned (.pointer (some ⟨B, 0, none⟩)) ∧ w.heap.size ≤ B ∧ StateAt w' B s ∧ Below w.heap.size w w' := by
  have HB1 : Hid (∀ o1 o2 o3, Regs ((((w.alloc (.cells (L s.rg).toArray 22)).alloc o1).alloc o2).alloc o3) w.heap.size 0 s.rg) := fun o1 o2 o3 => (L_new HL w s.rg 22 rfl).below ((((Below.refl _ _).alloc (Nat.le_refl _) _).alloc (by simp) _).alloc (by simp) _)
  have HB2 : Hid (∀ o0 o2 o3, Regs ((((w.alloc o0).alloc (.cells (L s.tb.tg).toArray 22)).alloc o2).alloc o3) (w.heap.size + 1) 0 s.tb.tg) := fun o0 o2 o3 => (L_new HL (w.alloc o0) s.tb.tg 22 (by simp)).below (((Below.refl _ _).alloc (Nat.le_refl _) _).alloc (by simp) _)
  have HB3 : Hid (∀ o0 o1 o3, Regs ((((w.alloc o0).alloc o1).alloc (.cells (L s.tb.rc).toArray 22)).alloc o3) (w.heap.size + 1 + 1) 0 s.tb.rc) := fun o0 o1 o3 => (L_new HL ((w.alloc o0).alloc o1) s.tb.rc 22 (by simp)).below ((Below.refl _ _).alloc (Nat.le_refl _) _)
  go_enter Try.func10, Try.ntmps10
  go_wp2_with (first | ((with_reducible refine D_load 25 HL w.heap.size 0 s.rg ?_ ?_ ?_); rfl; exact HB1.out _ _ _; refine D_build1 26 (.agg (L s.rg).toArray) ?_ (.agg (L s.rg).toArray) (L_build57 HL s.rg _) ?_; rfl; refine D_load 27 HL (w.heap.size + 1) 0 s.tb.tg ?_ ?_ ?_; rfl; exact HB2.out _ _ _; refine D_build1 28 (.agg (L s.tb.tg).toArray) ?_ (.agg (L s.tb.tg).toArray) (L_build57 HL s.tb.tg _) ?_; rfl; refine D_load 29 HL (w.heap.size + 1 + 1) 0 s.tb.rc ?_ ?_ ?_; rfl; exact HB3.out _ _ _; refine D_build1 30 (.agg (L s.tb.rc).toArray) ?_ (.agg (L s.tb.rc).toArray) (L_build57 HL s.tb.rc _) ?_; rfl) | ((with_reducible refine D_build4 35 (.agg (L s.tb.tg).toArray) (.agg (L s.tb.rc).toArray) (.agg #[.int .u64 s.tb.f0, .int .u64 s.tb.f1, .int .i64 s.tb.n]) (.int .u64 s.tb.e) ?_ ?_ ?_ ?_ (.agg (tombL L s.tb)) ?_ ?_); rfl; rfl; rfl; rfl; exact L_build61 HL s.tb _; refine D_build6 36 (.string s.node) (.string s.set) (.int .u64 s.rank) (.int .i64 s.holds) (.agg (L s.rg).toArray) (.agg (tombL L s.tb)) ?_ ?_ ?_ ?_ ?_ ?_ (.agg (stateL L s)) (L_build64 HL s _) ?_; rfl; rfl; rfl; rfl; rfl; rfl))
  go_ret
  exact ⟨w.heap.size + 1 + 1 + 1 + 1, rfl, by omega, StateAt.of_block HL (new_blk _ _ (by simp)), (((((Below.refl _ _).alloc (Nat.le_refl _) _).alloc (by simp) _).alloc (by simp; omega) _).alloc (by simp; omega) _).alloc (by simp; omega) _⟩

theorem record_any (B : Nat) (w : World) :
    Calls Try.prog 30 #[.pointer (some ⟨B, 0, none⟩)] w fun e w' => e = .returned (.pointer (some ⟨B, 4, none⟩)) ∧ w' = w := by
  go_enter Try.func30, Try.ntmps30
  go_wp2
  go_ret
  exact ⟨rfl, rfl⟩

theorem holdsTomb_any (B : Nat) (h : Int) (w : World) (hc : w.cell? ⟨B, 3, none⟩ = some (.int .i64 h)) :
    Calls Try.prog 17 #[.pointer (some ⟨B, 0, none⟩)] w fun e w' => e = .returned (.bool (h == 2)) ∧ w' = w := by
  go_enter Try.func17, Try.ntmps17
  go_wp2
  go_ret
  exact ⟨rfl, rfl⟩

theorem stateHolds_any (B : Nat) (h : Int) (w : World) (hc : w.cell? ⟨B, 3, none⟩ = some (.int .i64 h)) (_h0 : 0 ≤ h) (_h1 : h ≤ 2) :
    Calls Try.prog 18 #[.pointer (some ⟨B, 0, none⟩)] w fun e w' => e = .returned (.int .i64 h) ∧ w' = w := by
  go_enter Try.func18, Try.ntmps18
  go_wp2
  go_ret
  exact ⟨rfl, rfl⟩

theorem stateTomb_any (B : Nat) (w : World) :
    Calls Try.prog 19 #[.pointer (some ⟨B, 0, none⟩)] w fun e w' => e = .returned (.pointer (some ⟨B, 1028, none⟩)) ∧ w' = w := by
  go_enter Try.func19, Try.ntmps19
  go_wp2
  go_ret
  exact ⟨rfl, rfl⟩

theorem stateRecord_any {L : (Nat → Int) → List Value} (HL : IsL L) (B : Nat) (r : Nat → Int) (w : World) (hr : Hid (Regs w B 4 r)) :
    Calls Try.prog 16 #[.pointer (some ⟨B, 0, none⟩)] w fun e w' => e = .returned (.agg (L r).toArray) ∧ Below w.heap.size w w' := by
  go_enter Try.func16, Try.ntmps16
  go_wp2_with (first | ((with_reducible refine D_alloc 2 HL ?_)) | ((with_reducible refine D_load 7 HL B 4 r ?_ ?_ ?_); rfl; exact hr.out.below ((Below.refl _ _).alloc (Nat.le_refl _) _)) | ((with_reducible refine D_store 2 7 HL w.heap.size 0 r (fun _ => 0) ?_ ?_ ?_ ?_); rfl; rfl; exact L_new HL _ _ _ rfl; intro w2 hr2 ho2))
  exact bodyPost_ret (L_results HL Try.results16 _ _ w.heap.size 0 r rfl hr2) rfl ⟨rfl, ((Below.refl _ _).alloc (Nat.le_refl _) _).trans (ho2.below (Nat.le_refl _) (by simp))⟩
end Go.Proofs.Qxb6612204a
