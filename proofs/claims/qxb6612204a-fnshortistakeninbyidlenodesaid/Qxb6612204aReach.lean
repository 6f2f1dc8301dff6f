import Derived.Test.Qxb6612204aMax
import Derived.Deep.Cut
namespace Go.Proofs.Qxb6612204a
open Go.RowKit

theorem run_equal24 (a b c d : Int) (w : World) : (Op.equalIn 10000 24 (.agg #[.int .u64 a, .int .u64 b]) (.agg #[.int .u64 c, .int .u64 d])).run Try.prog w = .ok (a == c && b == d) w := by
  rw [Op.equalIn]
  simp only [Sem.run_bind, run_underlying Try.underlying24, Result.andThen_ok, Try.sizeOf23, Std.Legacy.Range.forIn_eq_forIn_range', Std.Legacy.Range.size, Nat.sub_zero, Nat.add_sub_cancel, Nat.div_one]
  have p0 : ∀ x y : Value, (part 23 #[x, y] (0 * 1)).run Try.prog w = .ok x w := fun x y => by simp [part, Try.isAgg23]
  have p1 : ∀ x y : Value, (part 23 #[x, y] (1 * 1)).run Try.prog w = .ok y w := fun x y => by simp [part, Try.isAgg23]
  have pe : ∀ x y, (Op.equalIn 9999 23 (.int .u64 x) (.int .u64 y)).run Try.prog w = .ok (x == y) w := fun x y => run_equalIn_int w 9998 23 .u64 .u64 _ _ Try.underlying23
  rw [show List.range' 0 2 1 = [0, 1] from rfl]
  simp only [List.forIn_cons, List.forIn_nil, Sem.run_bind, p0, pe, Result.andThen_ok]
  cases (a == c)
  · simp
  · cases hb : (b == d) <;> simp [p1, pe, hb]

theorem L_equal {L : (Nat → Int) → List Value} (HL : IsL L) (r s : Nat → Int) (w : World) : (Op.equalIn 10000 22 (.agg (L r).toArray) (.agg (L s).toArray)).run Try.prog w = .ok (eqF r s) w := by
  rw [HL r, HL s]; exact run_equal22 9998 r s w

section
variable {ops : Array Oper} {rest : List Oper} {a : Act} {w : World} {Q : Exit → Act → World → Prop}
/-- A guarded load whose guard says yes. -/
theorem G_load (k : Nat) {g : Nat × Bool} {x : Operand} {ty : TypeId} {pos : String} {after : Array Edge} {L : (Nat → Int) → List Value} (HL : IsL L) (b o : Nat) (r : Nat → Int)
    (hw : Region.wanted { dst := some k, op := .load 22 x, type := ty, pos := pos, after := after, guard := some g } (yielded ops a.tmps) = true) (hx : a.eval x = .pointer (some ⟨b, o, none⟩)) (hr : Regs w b o r)
    (h : wpList Try.prog ops Q rest (a.put (some k) (.agg (L r).toArray)) w) : wpList Try.prog ops Q ({ dst := some k, op := .load 22 x, type := ty, pos := pos, after := after, guard := some g } :: rest) a w := by
  refine wpList_step fun K hK => ?_
  rw [if_pos hw]
  rw [HL r] at h
  exact wp_load_mid 22 x rfl b o hx (lst r) (.array 1024 5) hr.range Try.underlying22 rfl (by rw [lst_length]; exact info22) (hK _ _ h)
end

theorem cases5 (a b c d e f : Bool) : a = false ∨ (a = true ∧ b = false) ∨ (a = true ∧ b = true ∧ c = false) ∨ (a = true ∧ b = true ∧ c = true ∧ d = false) ∨ (a = true ∧ b = true ∧ c = true ∧ d = true ∧ e = false) ∨ (a = true ∧ b = true ∧ c = true ∧ d = true ∧ e = true ∧ f = false) ∨ (a = true ∧ b = true ∧ c = true ∧ d = true ∧ e = true ∧ f = true) := by
  cases a <;> cases b <;> cases c <;> cases d <;> cases e <;> cases f <;> simp

/-- The six blocks that zzReachable lays. -/
structure Six (w W : World) (r0 r1 r2 : Nat → Int) (f0 f1 : Int) : Prop where
  r0 : Regs W w.heap.size 0 r0
  r1 : Regs W (w.heap.size + 1) 0 r1
  r2 : Regs W (w.heap.size + 1 + 1) 0 r2
  r4 : Regs W (w.heap.size + 1 + 1 + 1 + 1) 0 (fun _ => 0)
  c0 : W.cell? ⟨w.heap.size + 1 + 1 + 1, 0, none⟩ = some (.int .u64 f0)
  c1 : W.cell? ⟨w.heap.size + 1 + 1 + 1, 1, none⟩ = some (.int .u64 f1)
  z0 : W.cell? ⟨w.heap.size + 1 + 1 + 1 + 1 + 1, 0, none⟩ = some (.int .u64 0)
  z1 : W.cell? ⟨w.heap.size + 1 + 1 + 1 + 1 + 1, 1, none⟩ = some (.int .u64 0)
  bel : Below w.heap.size w W

theorem Six.mk' {L : (Nat → Int) → List Value} (HL : IsL L) (w : World) (r0 r1 r2 : Nat → Int) (f0 f1 : Int) :
    Six w ((((((w.alloc (.cells (L r0).toArray 22)).alloc (.cells (L r1).toArray 22)).alloc (.cells (L r2).toArray 22)).alloc (.cells #[.int .u64 f0, .int .u64 f1] 24)).alloc (.cells (L (fun _ => 0)).toArray 22)).alloc (.cells #[.int .u64 0, .int .u64 0] 24)) r0 r1 r2 f0 f1 := by
  have b3 : ((((((w.alloc (.cells (L r0).toArray 22)).alloc (.cells (L r1).toArray 22)).alloc (.cells (L r2).toArray 22)).alloc (.cells #[.int .u64 f0, .int .u64 f1] 24)).alloc (.cells (L (fun _ => 0)).toArray 22)).alloc (.cells #[.int .u64 0, .int .u64 0] 24)).heap[w.heap.size + 1 + 1 + 1]? = some (.cells #[.int .u64 f0, .int .u64 f1] 24) := by
    rw [Below.heap_alloc _ _ _ (by simp), Below.heap_alloc _ _ _ (by simp)]
    exact new_blk _ _ (by simp)
  have b5 : ((((((w.alloc (.cells (L r0).toArray 22)).alloc (.cells (L r1).toArray 22)).alloc (.cells (L r2).toArray 22)).alloc (.cells #[.int .u64 f0, .int .u64 f1] 24)).alloc (.cells (L (fun _ => 0)).toArray 22)).alloc (.cells #[.int .u64 0, .int .u64 0] 24)).heap[w.heap.size + 1 + 1 + 1 + 1 + 1]? = some (.cells #[.int .u64 0, .int .u64 0] 24) := new_blk _ _ (by simp)
  refine ⟨?_, ?_, ?_, ?_, cell_of_row _ _ 0 _ _ _ b3, cell_of_row _ _ 1 _ _ _ b3, cell_of_row _ _ 0 _ _ _ b5, cell_of_row _ _ 1 _ _ _ b5, ?_⟩
  · exact (L_new HL w r0 22 rfl).below ((((((Below.refl _ _).alloc (Nat.le_refl _) _).alloc (by simp) _).alloc (by simp) _).alloc (by simp) _).alloc (by simp) _)
  · exact (L_new HL _ r1 22 (by simp)).below (((((Below.refl _ _).alloc (Nat.le_refl _) _).alloc (by simp) _).alloc (by simp) _).alloc (by simp) _)
  · exact (L_new HL _ r2 22 (by simp)).below ((((Below.refl _ _).alloc (Nat.le_refl _) _).alloc (by simp) _).alloc (by simp) _)
  · exact (L_new HL _ _ 22 (by simp)).below ((Below.refl _ _).alloc (Nat.le_refl _) _)
  · exact ((((((Below.refl _ _).alloc (Nat.le_refl _) _).alloc (by simp) _).alloc (by simp; omega) _).alloc (by simp; omega) _).alloc (by simp; omega) _).alloc (by simp; omega) _

/-- A call that answers with a truth value, makes memory at most, and says yes only where P holds. -/
def Truth (w : World) (P : Prop) (x : Ending) (w' : World) : Prop := ∃ t : Bool, x = .returned (.bool t) ∧ Below w.heap.size w w' ∧ (t = true → P)

set_option maxHeartbeats 4000000 in
set_option maxRecDepth 100000 in
/-- A node that holds nothing. -/
theorem reach_zero {L : (Nat → Int) → List Value} (HL : IsL L) (node : ByteArray) (r0 r1 r2 : Nat → Int) (f0 f1 n e : Int) (w : World) :
    Calls Try.prog 24 #[.string node, .int .i64 0, .agg (L r0).toArray, .agg (L r1).toArray, .agg (L r2).toArray, .agg #[.int .u64 f0, .int .u64 f1], .int .i64 n, .int .u64 e] w
      (Truth w (eqF r0 (fun _ => 0) = true)) := by
  obtain ⟨W, hW⟩ : ∃ W, W = ((((((w.alloc (.cells (L r0).toArray 22)).alloc (.cells (L r1).toArray 22)).alloc (.cells (L r2).toArray 22)).alloc (.cells #[.int .u64 f0, .int .u64 f1] 24)).alloc (.cells (L (fun _ => 0)).toArray 22)).alloc (.cells #[.int .u64 0, .int .u64 0] 24)) := ⟨_, rfl⟩
  have HS : Hid (Six w W r0 r1 r2 f0 f1) := by rw [hW]; exact Six.mk' HL w r0 r1 r2 f0 f1
  have HW : Hid (W = ((((((w.alloc (.cells (L r0).toArray 22)).alloc (.cells (L r1).toArray 22)).alloc (.cells (L r2).toArray 22)).alloc (.cells #[.int .u64 f0, .int .u64 f1] 24)).alloc (.cells (L (fun _ => 0)).toArray 22)).alloc (.cells #[.int .u64 0, .int .u64 0] 24))) := hW
  clear hW
  have q1 := L_equal HL
  have q2 := run_equal24
  go_enter Try.func24, Try.ntmps24
  go_upto_region 3 with (first | ((with_reducible refine D_alloc 17 HL ?_)))
  rw [← HW.out]
  clear HW
  obtain ⟨c0, c1, z0, z1⟩ : W.cell? ⟨w.heap.size + 1 + 1 + 1, 0, none⟩ = some (.int .u64 f0) ∧ W.cell? ⟨w.heap.size + 1 + 1 + 1, 1, none⟩ = some (.int .u64 f1) ∧ W.cell? ⟨w.heap.size + 1 + 1 + 1 + 1 + 1, 0, none⟩ = some (.int .u64 0) ∧ W.cell? ⟨w.heap.size + 1 + 1 + 1 + 1 + 1, 1, none⟩ = some (.int .u64 0) := ⟨HS.out.c0, HS.out.c1, HS.out.z0, HS.out.z1⟩
  rcases cases5 (eqF r0 (fun _ => 0)) (eqF r1 (fun _ => 0)) (eqF r2 (fun _ => 0)) (f0 == 0 && f1 == 0) (n == 0) (e == 0) with h | ⟨h, h1⟩ | ⟨h, h1, h2⟩ | ⟨h, h1, h2, h3⟩ | ⟨h, h1, h2, h3, h4⟩ | ⟨h, h1, h2, h3, h4, h5⟩ | ⟨h, h1, h2, h3, h4, h5⟩
  · go_wp2_with (first | ((with_reducible refine G_load 30 HL (w.heap.size) 0 r0 ?_ ?_ ?_ ?_); rfl; rfl; exact HS.out.r0) | ((with_reducible refine G_load 31 HL (w.heap.size + 1 + 1 + 1 + 1) 0 (fun _ => 0) ?_ ?_ ?_ ?_); rfl; rfl; exact HS.out.r4) | ((with_reducible refine G_load 37 HL (w.heap.size + 1) 0 r1 ?_ ?_ ?_ ?_); rfl; rfl; exact HS.out.r1) | ((with_reducible refine G_load 38 HL (w.heap.size + 1 + 1 + 1 + 1) 0 (fun _ => 0) ?_ ?_ ?_ ?_); rfl; rfl; exact HS.out.r4) | ((with_reducible refine G_load 41 HL (w.heap.size + 1 + 1) 0 r2 ?_ ?_ ?_ ?_); rfl; rfl; exact HS.out.r2) | ((with_reducible refine G_load 42 HL (w.heap.size + 1 + 1 + 1 + 1) 0 (fun _ => 0) ?_ ?_ ?_ ?_); rfl; rfl; exact HS.out.r4))
    all_goals (go_ret; exact ⟨_, rfl, HS.out.bel, by simp [h]⟩)
  · go_wp2_with (first | ((with_reducible refine G_load 30 HL (w.heap.size) 0 r0 ?_ ?_ ?_ ?_); rfl; rfl; exact HS.out.r0) | ((with_reducible refine G_load 31 HL (w.heap.size + 1 + 1 + 1 + 1) 0 (fun _ => 0) ?_ ?_ ?_ ?_); rfl; rfl; exact HS.out.r4) | ((with_reducible refine G_load 37 HL (w.heap.size + 1) 0 r1 ?_ ?_ ?_ ?_); rfl; rfl; exact HS.out.r1) | ((with_reducible refine G_load 38 HL (w.heap.size + 1 + 1 + 1 + 1) 0 (fun _ => 0) ?_ ?_ ?_ ?_); rfl; rfl; exact HS.out.r4) | ((with_reducible refine G_load 41 HL (w.heap.size + 1 + 1) 0 r2 ?_ ?_ ?_ ?_); rfl; rfl; exact HS.out.r2) | ((with_reducible refine G_load 42 HL (w.heap.size + 1 + 1 + 1 + 1) 0 (fun _ => 0) ?_ ?_ ?_ ?_); rfl; rfl; exact HS.out.r4))
    all_goals (go_ret; exact ⟨_, rfl, HS.out.bel, by simp [h]⟩)
  · go_wp2_with (first | ((with_reducible refine G_load 30 HL (w.heap.size) 0 r0 ?_ ?_ ?_ ?_); rfl; rfl; exact HS.out.r0) | ((with_reducible refine G_load 31 HL (w.heap.size + 1 + 1 + 1 + 1) 0 (fun _ => 0) ?_ ?_ ?_ ?_); rfl; rfl; exact HS.out.r4) | ((with_reducible refine G_load 37 HL (w.heap.size + 1) 0 r1 ?_ ?_ ?_ ?_); rfl; rfl; exact HS.out.r1) | ((with_reducible refine G_load 38 HL (w.heap.size + 1 + 1 + 1 + 1) 0 (fun _ => 0) ?_ ?_ ?_ ?_); rfl; rfl; exact HS.out.r4) | ((with_reducible refine G_load 41 HL (w.heap.size + 1 + 1) 0 r2 ?_ ?_ ?_ ?_); rfl; rfl; exact HS.out.r2) | ((with_reducible refine G_load 42 HL (w.heap.size + 1 + 1 + 1 + 1) 0 (fun _ => 0) ?_ ?_ ?_ ?_); rfl; rfl; exact HS.out.r4))
    all_goals (go_ret; exact ⟨_, rfl, HS.out.bel, by simp [h]⟩)
  · go_wp2_with (first | ((with_reducible refine G_load 30 HL (w.heap.size) 0 r0 ?_ ?_ ?_ ?_); rfl; rfl; exact HS.out.r0) | ((with_reducible refine G_load 31 HL (w.heap.size + 1 + 1 + 1 + 1) 0 (fun _ => 0) ?_ ?_ ?_ ?_); rfl; rfl; exact HS.out.r4) | ((with_reducible refine G_load 37 HL (w.heap.size + 1) 0 r1 ?_ ?_ ?_ ?_); rfl; rfl; exact HS.out.r1) | ((with_reducible refine G_load 38 HL (w.heap.size + 1 + 1 + 1 + 1) 0 (fun _ => 0) ?_ ?_ ?_ ?_); rfl; rfl; exact HS.out.r4) | ((with_reducible refine G_load 41 HL (w.heap.size + 1 + 1) 0 r2 ?_ ?_ ?_ ?_); rfl; rfl; exact HS.out.r2) | ((with_reducible refine G_load 42 HL (w.heap.size + 1 + 1 + 1 + 1) 0 (fun _ => 0) ?_ ?_ ?_ ?_); rfl; rfl; exact HS.out.r4))
    all_goals (go_ret; exact ⟨_, rfl, HS.out.bel, by simp [h]⟩)
  · go_wp2_with (first | ((with_reducible refine G_load 30 HL (w.heap.size) 0 r0 ?_ ?_ ?_ ?_); rfl; rfl; exact HS.out.r0) | ((with_reducible refine G_load 31 HL (w.heap.size + 1 + 1 + 1 + 1) 0 (fun _ => 0) ?_ ?_ ?_ ?_); rfl; rfl; exact HS.out.r4) | ((with_reducible refine G_load 37 HL (w.heap.size + 1) 0 r1 ?_ ?_ ?_ ?_); rfl; rfl; exact HS.out.r1) | ((with_reducible refine G_load 38 HL (w.heap.size + 1 + 1 + 1 + 1) 0 (fun _ => 0) ?_ ?_ ?_ ?_); rfl; rfl; exact HS.out.r4) | ((with_reducible refine G_load 41 HL (w.heap.size + 1 + 1) 0 r2 ?_ ?_ ?_ ?_); rfl; rfl; exact HS.out.r2) | ((with_reducible refine G_load 42 HL (w.heap.size + 1 + 1 + 1 + 1) 0 (fun _ => 0) ?_ ?_ ?_ ?_); rfl; rfl; exact HS.out.r4))
    all_goals (go_ret; exact ⟨_, rfl, HS.out.bel, by simp [h]⟩)
  · go_wp2_with (first | ((with_reducible refine G_load 30 HL (w.heap.size) 0 r0 ?_ ?_ ?_ ?_); rfl; rfl; exact HS.out.r0) | ((with_reducible refine G_load 31 HL (w.heap.size + 1 + 1 + 1 + 1) 0 (fun _ => 0) ?_ ?_ ?_ ?_); rfl; rfl; exact HS.out.r4) | ((with_reducible refine G_load 37 HL (w.heap.size + 1) 0 r1 ?_ ?_ ?_ ?_); rfl; rfl; exact HS.out.r1) | ((with_reducible refine G_load 38 HL (w.heap.size + 1 + 1 + 1 + 1) 0 (fun _ => 0) ?_ ?_ ?_ ?_); rfl; rfl; exact HS.out.r4) | ((with_reducible refine G_load 41 HL (w.heap.size + 1 + 1) 0 r2 ?_ ?_ ?_ ?_); rfl; rfl; exact HS.out.r2) | ((with_reducible refine G_load 42 HL (w.heap.size + 1 + 1 + 1 + 1) 0 (fun _ => 0) ?_ ?_ ?_ ?_); rfl; rfl; exact HS.out.r4))
    all_goals (go_ret; exact ⟨_, rfl, HS.out.bel, by simp [h]⟩)
  · go_wp2_with (first | ((with_reducible refine G_load 30 HL (w.heap.size) 0 r0 ?_ ?_ ?_ ?_); rfl; rfl; exact HS.out.r0) | ((with_reducible refine G_load 31 HL (w.heap.size + 1 + 1 + 1 + 1) 0 (fun _ => 0) ?_ ?_ ?_ ?_); rfl; rfl; exact HS.out.r4) | ((with_reducible refine G_load 37 HL (w.heap.size + 1) 0 r1 ?_ ?_ ?_ ?_); rfl; rfl; exact HS.out.r1) | ((with_reducible refine G_load 38 HL (w.heap.size + 1 + 1 + 1 + 1) 0 (fun _ => 0) ?_ ?_ ?_ ?_); rfl; rfl; exact HS.out.r4) | ((with_reducible refine G_load 41 HL (w.heap.size + 1 + 1) 0 r2 ?_ ?_ ?_ ?_); rfl; rfl; exact HS.out.r2) | ((with_reducible refine G_load 42 HL (w.heap.size + 1 + 1 + 1 + 1) 0 (fun _ => 0) ?_ ?_ ?_ ?_); rfl; rfl; exact HS.out.r4))
    all_goals (go_ret; exact ⟨_, rfl, HS.out.bel, by simp [h]⟩)
end Go.Proofs.Qxb6612204a
