import Derived.Test.Qxb6612204aFields
namespace Go.Proofs.Qxb6612204a
open Go.RowKit

section
variable {ops : Array Oper} {rest : List Oper} {a : Act} {w : World} {Q : Exit → Act → World → Prop}
/-- The store of two numbers. -/
theorem D_store2 (k k' : Nat) {ty : TypeId} {pos : String} {after : Array Edge} (b o : Nat) (u v u0 v0 : Int)
    (hx : a.eval (.tmp k) = .pointer (some ⟨b, o, none⟩)) (hy : a.eval (.tmp k') = .agg #[.int .u64 u, .int .u64 v]) (h0 : w.cell? ⟨b, o, none⟩ = some (.int .u64 u0)) (h1 : w.cell? ⟨b, o + 1, none⟩ = some (.int .u64 v0)) (hf : ∀ j, w.frozen? ⟨b, j, none⟩ = false)
    (h : ∀ w', w'.cell? ⟨b, o, none⟩ = some (.int .u64 u) → w'.cell? ⟨b, o + 1, none⟩ = some (.int .u64 v) → (∀ j, w'.frozen? ⟨b, j, none⟩ = false) → Only b o 2 w w' → wpList Try.prog ops Q rest (a.put none undef) w') :
    wpList Try.prog ops Q ({ dst := none, op := .store 24 (.tmp k) (.tmp k'), type := ty, pos := pos, after := after, guard := none } :: rest) a w := by
  have ht : w.there b o 2 := by
    intro j hj
    refine ⟨?_, hf _⟩
    match j, hj with
    | 0, _ => rw [Nat.add_zero, h0]; rfl
    | 1, _ => rw [h1]; rfl
  refine wpList_store_mid rfl 24 (.tmp k) (.tmp k') rfl b o #[.int .u64 u, .int .u64 v] hx hy ht (by kernel_rfl) (by simp [Value.oneCell']) ?_
  have h3 := World.rangeAt_setCells_same w b o [.int .u64 u, .int .u64 v] ht
  have h4 := Only.setCells b [.int .u64 u, .int .u64 v] o w
  exact h _ (h3 0 _ rfl) (h3 1 _ rfl) (fun j => (h4.frozen j).trans (hf j)) h4
end

/-- The three boxes of zzTombIs. -/
structure Three (w W : World) (r1 r2 : Nat → Int) (f0 f1 : Int) : Prop where
  r1 : Regs W w.heap.size 0 r1
  r2 : Regs W (w.heap.size + 1) 0 r2
  c0 : W.cell? ⟨w.heap.size + 1 + 1, 0, none⟩ = some (.int .u64 f0)
  c1 : W.cell? ⟨w.heap.size + 1 + 1, 1, none⟩ = some (.int .u64 f1)
  fr : ∀ j, W.frozen? ⟨w.heap.size + 1 + 1, j, none⟩ = false
  bel : Below w.heap.size w W

theorem Three.mk' {L : (Nat → Int) → List Value} (HL : IsL L) (w : World) (r1 r2 : Nat → Int) (f0 f1 : Int) :
    Three w (((w.alloc (.cells (L r1).toArray 22)).alloc (.cells (L r2).toArray 22)).alloc (.cells #[.int .u64 f0, .int .u64 f1] 24)) r1 r2 f0 f1 := by
  have b3 : (((w.alloc (.cells (L r1).toArray 22)).alloc (.cells (L r2).toArray 22)).alloc (.cells #[.int .u64 f0, .int .u64 f1] 24)).heap[w.heap.size + 1 + 1]? = some (.cells #[.int .u64 f0, .int .u64 f1] 24) := new_blk _ _ (by simp)
  refine ⟨?_, ?_, cell_of_row _ _ 0 _ _ _ b3, cell_of_row _ _ 1 _ _ _ b3, fun j => frozen_of_row _ _ j _ _ b3, ?_⟩
  · exact (L_new HL w r1 22 rfl).below (((Below.refl _ _).alloc (Nat.le_refl _) _).alloc (by simp) _)
  · exact (L_new HL _ r2 22 (by simp)).below ((Below.refl _ _).alloc (Nat.le_refl _) _)
  · exact (((Below.refl _ _).alloc (Nat.le_refl _) _).alloc (by simp) _).alloc (by simp; omega) _

theorem Three.below {w W W' : World} {r1 r2 : Nat → Int} {f0 f1 : Int} (h : Three w W r1 r2 f0 f1) (k : Below W.heap.size W W') : Three w W' r1 r2 f0 f1 :=
  have hlt : w.heap.size + 1 + 1 < W.heap.size := World.block_lt_of_cell? W _ h.c0
  ⟨h.r1.below k, h.r2.below k, cell_below h.c0 k, cell_below h.c1 k, fun j => (k.frozen (p := ⟨w.heap.size + 1 + 1, j, none⟩) hlt).trans (h.fr j), h.bel.trans (k.mono h.bel.size)⟩

set_option maxHeartbeats 4000000 in
set_option maxRecDepth 100000 in
/-- zzTombIs at a tombstone that is as it is asked: yes. -/
theorem tombIs_any {L : (Nat → Int) → List Value} (HL : IsL L) (b o : Nat) (t : Tb) (w : World) (HT : Hid (TombAt w b o t)) :
    Calls Try.prog 15 #[.pointer (some ⟨b, o, none⟩), .agg (L t.tg).toArray, .agg (L t.rc).toArray, .agg #[.int .u64 t.f0, .int .u64 t.f1], .int .i64 t.n, .int .u64 t.e] w fun x w' => x = .returned (.bool true) ∧ Below w.heap.size w w' := by
  obtain ⟨tg, rc, f0, f1, n, e⟩ := t
  dsimp only
  obtain ⟨W, hW⟩ : ∃ W, W = (((w.alloc (.cells (L tg).toArray 22)).alloc (.cells (L rc).toArray 22)).alloc (.cells #[.int .u64 f0, .int .u64 f1] 24)) := ⟨_, rfl⟩
  have H3 : Hid (Three w W tg rc f0 f1) := by rw [hW]; exact Three.mk' HL w tg rc f0 f1
  have HW : Hid (W = (((w.alloc (.cells (L tg).toArray 22)).alloc (.cells (L rc).toArray 22)).alloc (.cells #[.int .u64 f0, .int .u64 f1] 24))) := hW
  have HT1 : Hid (TombAt W b o ⟨tg, rc, f0, f1, n, e⟩) := HT.out.below H3.out.bel
  clear hW
  go_enter Try.func15, Try.ntmps15
  go_upto_region 3 with fail
  rw [← HW.out]
  clear HW
  go_wp2_with fail
  refine (tombFields_any HL b o ⟨tg, rc, f0, f1, n, e⟩ W HT1).mono ?_
  rintro x W1 ⟨rfl, hb1⟩
  have H31 : Hid (Three w W1 tg rc f0 f1) := H3.out.below hb1
  clear hb1 H3 HT1
  obtain ⟨V, hV⟩ : ∃ V, V = (((W1.alloc (.cells (L (fun _ => 0)).toArray 22)).alloc (.cells (L (fun _ => 0)).toArray 22)).alloc (.cells #[.int .u64 0, .int .u64 0] 24)) := ⟨_, rfl⟩
  have HV3 : Hid (Three W1 V (fun _ => 0) (fun _ => 0) 0 0) := by rw [hV]; exact Three.mk' HL W1 _ _ 0 0
  have HV : Hid (V = (((W1.alloc (.cells (L (fun _ => 0)).toArray 22)).alloc (.cells (L (fun _ => 0)).toArray 22)).alloc (.cells #[.int .u64 0, .int .u64 0] 24))) := hV
  have HV4 : Hid (Three w V tg rc f0 f1) := H31.out.below HV3.out.bel
  clear hV
  go_upto_region 4 with (first | ((with_reducible refine D_alloc 13 HL ?_)) | ((with_reducible refine D_alloc 14 HL ?_)) | ((with_reducible refine D_store 13 23 HL W1.heap.size 0 tg (fun _ => 0) ?_ ?_ ?_ ?_); rfl; rfl; (rw [← HV.out]; exact HV3.out.r1); intro V1 hr1 ho1) | ((with_reducible refine D_store 14 24 HL (W1.heap.size + 1) 0 rc (fun _ => 0) ?_ ?_ ?_ ?_); rfl; rfl; (rw [← HV.out] at ho1; exact HV3.out.r2.only HV3.out.r2.lt ho1 (by omega)); intro V2 hr2 ho2) | ((with_reducible refine D_store2 15 25 (W1.heap.size + 1 + 1) 0 f0 f1 0 0 ?_ ?_ ?_ ?_ ?_ ?_); rfl; rfl; (rw [← HV.out] at ho1; exact cell_only (cell_only HV3.out.c0 ho1 (by omega)) ho2 (by omega)); (rw [← HV.out] at ho1; exact cell_only (cell_only HV3.out.c1 ho1 (by omega)) ho2 (by omega)); (rw [← HV.out] at ho1; intro j; exact (ho2.frozen_far (b' := W1.heap.size + 1 + 1) j (Nat.lt_of_lt_of_le (World.block_lt_of_cell? _ _ HV3.out.c0) ho1.size) (by omega)).trans ((ho1.frozen_far (b' := W1.heap.size + 1 + 1) j (World.block_lt_of_cell? _ _ HV3.out.c0) (by omega)).trans (HV3.out.fr j))); intro V3 hc0 hc1 hf3 ho3))
  rw [← HV.out] at ho1
  have K1 : Below W1.heap.size V V1 := ho1.below (Nat.le_refl _) HV3.out.bel.size
  have K2 : Below W1.heap.size V V2 := K1.trans (ho2.below (by omega) (Nat.le_trans HV3.out.bel.size K1.size))
  have K3 : Below W1.heap.size V V3 := K2.trans (ho3.below (by omega) (Nat.le_trans HV3.out.bel.size K2.size))
  have K4 : Below W1.heap.size W1 V3 := HV3.out.bel.trans K3
  have R1 : Hid (Regs V3 W1.heap.size 0 tg) := (hr1.only hr1.lt ho2 (by omega)).only (hr1.only hr1.lt ho2 (by omega)).lt ho3 (by omega)
  have R2 : Hid (Regs V3 (W1.heap.size + 1) 0 rc) := hr2.only hr2.lt ho3 (by omega)
  have HX : Hid (Three w V3 tg rc f0 f1) := H31.out.below K4
  clear K1 K2 K3 K4 hr1 ho1 hr2 ho2 ho3 hf3 HV HV3 HV4 H31
  have q1 := L_equal HL
  have q2 := run_equal24
  have q3 := eqF_refl
  obtain ⟨d0, d1⟩ := And.intro HX.out.c0 HX.out.c1
  go_wp2_with (first | ((with_reducible refine D_load 28 HL (W1.heap.size) 0 tg ?_ ?_ ?_); rfl; exact R1.out) | ((with_reducible refine D_load 29 HL (w.heap.size) 0 tg ?_ ?_ ?_); rfl; exact HX.out.r1) | ((with_reducible refine G_load 32 HL (W1.heap.size + 1) 0 rc ?_ ?_ ?_ ?_); rfl; rfl; exact R2.out) | ((with_reducible refine G_load 33 HL (w.heap.size + 1) 0 rc ?_ ?_ ?_ ?_); rfl; rfl; exact HX.out.r2))
  go_ret
  exact ⟨rfl, HX.out.bel⟩
end Go.Proofs.Qxb6612204a
