import Derived.Test.Qxb6612204aReach
namespace Go.Proofs.Qxb6612204a
open Go.RowKit

set_option maxHeartbeats 4000000 in
set_option maxRecDepth 100000 in
/-- A node that holds none of the three. -/
theorem reach_out {L : (Nat → Int) → List Value} (HL : IsL L) (node : ByteArray) (r0 r1 r2 : Nat → Int) (f0 f1 n e : Int) (w : World) (hd : Int) (hh : hd < 0 ∨ 2 < hd) :
    Calls Try.prog 24 #[.string node, .int .i64 hd, .agg (L r0).toArray, .agg (L r1).toArray, .agg (L r2).toArray, .agg #[.int .u64 f0, .int .u64 f1], .int .i64 n, .int .u64 e] w
      (Truth w (False)) := by
  obtain ⟨W, hW⟩ : ∃ W, W = ((((((w.alloc (.cells (L r0).toArray 22)).alloc (.cells (L r1).toArray 22)).alloc (.cells (L r2).toArray 22)).alloc (.cells #[.int .u64 f0, .int .u64 f1] 24)).alloc (.cells (L (fun _ => 0)).toArray 22)).alloc (.cells #[.int .u64 0, .int .u64 0] 24)) := ⟨_, rfl⟩
  have HS : Hid (Six w W r0 r1 r2 f0 f1) := by rw [hW]; exact Six.mk' HL w r0 r1 r2 f0 f1
  have HW : Hid (W = ((((((w.alloc (.cells (L r0).toArray 22)).alloc (.cells (L r1).toArray 22)).alloc (.cells (L r2).toArray 22)).alloc (.cells #[.int .u64 f0, .int .u64 f1] 24)).alloc (.cells (L (fun _ => 0)).toArray 22)).alloc (.cells #[.int .u64 0, .int .u64 0] 24))) := hW
  clear hW
  have q1 := L_equal HL
  have q2 := run_equal24
  go_enter Try.func24, Try.ntmps24
  go_upto_region 3 with (first | ((with_reducible refine D_alloc 17 HL ?_)))
  rw [← HW.out]
  clear HW
  obtain ⟨c0, c1, z0, z1⟩ : W.cell? ⟨w.heap.size + 1 + 1 + 1, 0, none⟩ = some (.int .u64 f0) ∧ W.cell? ⟨w.heap.size + 1 + 1 + 1, 1, none⟩ = some (.int .u64 f1) ∧ W.cell? ⟨w.heap.size + 1 + 1 + 1 + 1 + 1, 0, none⟩ = some (.int .u64 0) ∧ W.cell? ⟨w.heap.size + 1 + 1 + 1 + 1 + 1, 1, none⟩ = some (.int .u64 0) := ⟨HS.out.c0, HS.out.c1, HS.out.z0, HS.out.z1⟩
  by_cases hl : hd < 0
  · go_wp2_with fail
    all_goals (go_ret; exact ⟨_, rfl, HS.out.bel, by simp⟩)
  · have hg : 2 < hd := by omega
    go_wp2_with fail
    all_goals (go_ret; exact ⟨_, rfl, HS.out.bel, by simp⟩)
end Go.Proofs.Qxb6612204a
