import Derived.Test.Qxb6612204aReach2
namespace Go.Proofs.Qxb6612204a
open Go.RowKit

set_option maxHeartbeats 4000000 in
set_option maxRecDepth 100000 in
/-- A node that holds the set. -/
theorem reach_one {L : (Nat → Int) → List Value} (HL : IsL L) (node : ByteArray) (r0 r1 r2 : Nat → Int) (f0 f1 n e : Int) (w : World) (hn : node.size ≤ maxLen) :
    Calls Try.prog 24 #[.string node, .int .i64 1, .agg (L r0).toArray, .agg (L r1).toArray, .agg (L r2).toArray, .agg #[.int .u64 f0, .int .u64 f1], .int .i64 n, .int .u64 e] w
      (Truth w (True)) := by
  obtain ⟨W, hW⟩ : ∃ W, W = ((((((w.alloc (.cells (L r0).toArray 22)).alloc (.cells (L r1).toArray 22)).alloc (.cells (L r2).toArray 22)).alloc (.cells #[.int .u64 f0, .int .u64 f1] 24)).alloc (.cells (L (fun _ => 0)).toArray 22)).alloc (.cells #[.int .u64 0, .int .u64 0] 24)) := ⟨_, rfl⟩
  have HS : Hid (Six w W r0 r1 r2 f0 f1) := by rw [hW]; exact Six.mk' HL w r0 r1 r2 f0 f1
  have HW : Hid (W = ((((((w.alloc (.cells (L r0).toArray 22)).alloc (.cells (L r1).toArray 22)).alloc (.cells (L r2).toArray 22)).alloc (.cells #[.int .u64 f0, .int .u64 f1] 24)).alloc (.cells (L (fun _ => 0)).toArray 22)).alloc (.cells #[.int .u64 0, .int .u64 0] 24))) := hW
  clear hW
  have q1 := L_equal HL
  have q2 := run_equal24
  go_enter Try.func24, Try.ntmps24
  go_upto_region 3 with (first | ((with_reducible refine D_alloc 17 HL ?_)))
  rw [← HW.out]
  clear HW
  obtain ⟨c0, c1, z0, z1⟩ : W.cell? ⟨w.heap.size + 1 + 1 + 1, 0, none⟩ = some (.int .u64 f0) ∧ W.cell? ⟨w.heap.size + 1 + 1 + 1, 1, none⟩ = some (.int .u64 f1) ∧ W.cell? ⟨w.heap.size + 1 + 1 + 1 + 1 + 1, 0, none⟩ = some (.int .u64 0) ∧ W.cell? ⟨w.heap.size + 1 + 1 + 1 + 1 + 1, 1, none⟩ = some (.int .u64 0) := ⟨HS.out.c0, HS.out.c1, HS.out.z0, HS.out.z1⟩
  rcases cases5 true (eqF r1 (fun _ => 0)) (eqF r2 (fun _ => 0)) (f0 == 0 && f1 == 0) (n == 0) (e == 0) with h | ⟨h, h1⟩ | ⟨h, h1, h2⟩ | ⟨h, h1, h2, h3⟩ | ⟨h, h1, h2, h3, h4⟩ | ⟨h, h1, h2, h3, h4, h5⟩ | ⟨h, h1, h2, h3, h4, h5⟩
  · cases h
  · go_wp2_with (first | ((with_reducible refine G_load 30 HL (w.heap.size) 0 r0 ?_ ?_ ?_ ?_); rfl; rfl; exact HS.out.r0) | ((with_reducible refine G_load 31 HL (w.heap.size + 1 + 1 + 1 + 1) 0 (fun _ => 0) ?_ ?_ ?_ ?_); rfl; rfl; exact HS.out.r4) | ((with_reducible refine G_load 37 HL (w.heap.size + 1) 0 r1 ?_ ?_ ?_ ?_); rfl; rfl; exact HS.out.r1) | ((with_reducible refine G_load 38 HL (w.heap.size + 1 + 1 + 1 + 1) 0 (fun _ => 0) ?_ ?_ ?_ ?_); rfl; rfl; exact HS.out.r4) | ((with_reducible refine G_load 41 HL (w.heap.size + 1 + 1) 0 r2 ?_ ?_ ?_ ?_); rfl; rfl; exact HS.out.r2) | ((with_reducible refine G_load 42 HL (w.heap.size + 1 + 1 + 1 + 1) 0 (fun _ => 0) ?_ ?_ ?_ ?_); rfl; rfl; exact HS.out.r4))
    all_goals (go_ret; exact ⟨_, rfl, HS.out.bel, fun _ => trivial⟩)
  · go_wp2_with (first | ((with_reducible refine G_load 30 HL (w.heap.size) 0 r0 ?_ ?_ ?_ ?_); rfl; rfl; exact HS.out.r0) | ((with_reducible refine G_load 31 HL (w.heap.size + 1 + 1 + 1 + 1) 0 (fun _ => 0) ?_ ?_ ?_ ?_); rfl; rfl; exact HS.out.r4) | ((with_reducible refine G_load 37 HL (w.heap.size + 1) 0 r1 ?_ ?_ ?_ ?_); rfl; rfl; exact HS.out.r1) | ((with_reducible refine G_load 38 HL (w.heap.size + 1 + 1 + 1 + 1) 0 (fun _ => 0) ?_ ?_ ?_ ?_); rfl; rfl; exact HS.out.r4) | ((with_reducible refine G_load 41 HL (w.heap.size + 1 + 1) 0 r2 ?_ ?_ ?_ ?_); rfl; rfl; exact HS.out.r2) | ((with_reducible refine G_load 42 HL (w.heap.size + 1 + 1 + 1 + 1) 0 (fun _ => 0) ?_ ?_ ?_ ?_); rfl; rfl; exact HS.out.r4))
    all_goals (go_ret; exact ⟨_, rfl, HS.out.bel, fun _ => trivial⟩)
  · go_wp2_with (first | ((with_reducible refine G_load 30 HL (w.heap.size) 0 r0 ?_ ?_ ?_ ?_); rfl; rfl; exact HS.out.r0) | ((with_reducible refine G_load 31 HL (w.heap.size + 1 + 1 + 1 + 1) 0 (fun _ => 0) ?_ ?_ ?_ ?_); rfl; rfl; exact HS.out.r4) | ((with_reducible refine G_load 37 HL (w.heap.size + 1) 0 r1 ?_ ?_ ?_ ?_); rfl; rfl; exact HS.out.r1) | ((with_reducible refine G_load 38 HL (w.heap.size + 1 + 1 + 1 + 1) 0 (fun _ => 0) ?_ ?_ ?_ ?_); rfl; rfl; exact HS.out.r4) | ((with_reducible refine G_load 41 HL (w.heap.size + 1 + 1) 0 r2 ?_ ?_ ?_ ?_); rfl; rfl; exact HS.out.r2) | ((with_reducible refine G_load 42 HL (w.heap.size + 1 + 1 + 1 + 1) 0 (fun _ => 0) ?_ ?_ ?_ ?_); rfl; rfl; exact HS.out.r4))
    all_goals (go_ret; exact ⟨_, rfl, HS.out.bel, fun _ => trivial⟩)
  · go_wp2_with (first | ((with_reducible refine G_load 30 HL (w.heap.size) 0 r0 ?_ ?_ ?_ ?_); rfl; rfl; exact HS.out.r0) | ((with_reducible refine G_load 31 HL (w.heap.size + 1 + 1 + 1 + 1) 0 (fun _ => 0) ?_ ?_ ?_ ?_); rfl; rfl; exact HS.out.r4) | ((with_reducible refine G_load 37 HL (w.heap.size + 1) 0 r1 ?_ ?_ ?_ ?_); rfl; rfl; exact HS.out.r1) | ((with_reducible refine G_load 38 HL (w.heap.size + 1 + 1 + 1 + 1) 0 (fun _ => 0) ?_ ?_ ?_ ?_); rfl; rfl; exact HS.out.r4) | ((with_reducible refine G_load 41 HL (w.heap.size + 1 + 1) 0 r2 ?_ ?_ ?_ ?_); rfl; rfl; exact HS.out.r2) | ((with_reducible refine G_load 42 HL (w.heap.size + 1 + 1 + 1 + 1) 0 (fun _ => 0) ?_ ?_ ?_ ?_); rfl; rfl; exact HS.out.r4))
    all_goals (go_ret; exact ⟨_, rfl, HS.out.bel, fun _ => trivial⟩)
  · go_wp2_with (first | ((with_reducible refine G_load 30 HL (w.heap.size) 0 r0 ?_ ?_ ?_ ?_); rfl; rfl; exact HS.out.r0) | ((with_reducible refine G_load 31 HL (w.heap.size + 1 + 1 + 1 + 1) 0 (fun _ => 0) ?_ ?_ ?_ ?_); rfl; rfl; exact HS.out.r4) | ((with_reducible refine G_load 37 HL (w.heap.size + 1) 0 r1 ?_ ?_ ?_ ?_); rfl; rfl; exact HS.out.r1) | ((with_reducible refine G_load 38 HL (w.heap.size + 1 + 1 + 1 + 1) 0 (fun _ => 0) ?_ ?_ ?_ ?_); rfl; rfl; exact HS.out.r4) | ((with_reducible refine G_load 41 HL (w.heap.size + 1 + 1) 0 r2 ?_ ?_ ?_ ?_); rfl; rfl; exact HS.out.r2) | ((with_reducible refine G_load 42 HL (w.heap.size + 1 + 1 + 1 + 1) 0 (fun _ => 0) ?_ ?_ ?_ ?_); rfl; rfl; exact HS.out.r4))
    all_goals (go_ret; exact ⟨_, rfl, HS.out.bel, fun _ => trivial⟩)
  · obtain rfl : n = 0 := by simpa using h4
    obtain rfl : e = 0 := by simpa using h5
    go_wp2_with (first | ((with_reducible refine G_load 30 HL (w.heap.size) 0 r0 ?_ ?_ ?_ ?_); rfl; rfl; exact HS.out.r0) | ((with_reducible refine G_load 31 HL (w.heap.size + 1 + 1 + 1 + 1) 0 (fun _ => 0) ?_ ?_ ?_ ?_); rfl; rfl; exact HS.out.r4) | ((with_reducible refine G_load 37 HL (w.heap.size + 1) 0 r1 ?_ ?_ ?_ ?_); rfl; rfl; exact HS.out.r1) | ((with_reducible refine G_load 38 HL (w.heap.size + 1 + 1 + 1 + 1) 0 (fun _ => 0) ?_ ?_ ?_ ?_); rfl; rfl; exact HS.out.r4) | ((with_reducible refine G_load 41 HL (w.heap.size + 1 + 1) 0 r2 ?_ ?_ ?_ ?_); rfl; rfl; exact HS.out.r2) | ((with_reducible refine G_load 42 HL (w.heap.size + 1 + 1 + 1 + 1) 0 (fun _ => 0) ?_ ?_ ?_ ?_); rfl; rfl; exact HS.out.r4) | ((with_reducible refine D_load 61 HL (w.heap.size) 0 r0 ?_ ?_ ?_); rfl; exact HS.out.r0; refine D_alloc 19 HL ?_; refine D_store 19 61 HL W.heap.size 0 r0 (fun _ => 0) ?_ ?_ ?_ ?_; rfl; rfl; exact L_new HL W _ 22 rfl; intro w2 hr2 ho2))
    have HB2 : Below W.heap.size W w2 := ((Below.refl _ _).alloc (Nat.le_refl _) _).trans (ho2.below (Nat.le_refl _) (by simp))
    have HR2 : Hid (Regs w2 (w.heap.size) 0 r0) := HS.out.r0.below HB2
    refine (zzAdd_any W.heap.size 0 node r0 w2 hn hr2).mono ?_
    rintro x w3 ⟨rfl, hr3, ho3⟩
    have HR3 : Hid (Regs w3 (w.heap.size) 0 r0) := HR2.out.only HR2.out.lt ho3 (.inl (Nat.ne_of_lt HS.out.r0.lt))
    have HF : Hid (Below w.heap.size w w3) := (HS.out.bel.trans (HB2.mono HS.out.bel.size)).trans (ho3.below HS.out.bel.size (Nat.le_trans HS.out.bel.size HB2.size))
    have Hr3 : Hid (Regs w3 W.heap.size 0 (addF r0 node.data.toList)) := hr3
    clear hr3 ho3 hr2 ho2 HR2 HB2
    obtain ⟨Z, hZ⟩ : ∃ Z, Z = addF r0 node.data.toList := ⟨_, rfl⟩
    rw [← hZ] at Hr3
    clear hZ
    cases hq : eqF Z r0
    · go_wp2_with (first | ((with_reducible refine D_load 64 HL W.heap.size 0 Z ?_ ?_ ?_); rfl; exact Hr3.out) | ((with_reducible refine D_load 65 HL (w.heap.size) 0 r0 ?_ ?_ ?_); rfl; exact HR3.out))
      all_goals (go_ret; exact ⟨_, rfl, HF.out, fun _ => trivial⟩)
    · go_wp2_with (first | ((with_reducible refine D_load 64 HL W.heap.size 0 Z ?_ ?_ ?_); rfl; exact Hr3.out) | ((with_reducible refine D_load 65 HL (w.heap.size) 0 r0 ?_ ?_ ?_); rfl; exact HR3.out))
      all_goals (go_ret; exact ⟨_, rfl, HF.out, fun _ => trivial⟩)
end Go.Proofs.Qxb6612204a
