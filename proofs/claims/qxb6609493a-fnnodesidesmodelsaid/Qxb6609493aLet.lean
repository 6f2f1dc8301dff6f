import Derived.Test.Qxb6609493aBin
namespace Go.Proofs.Qxb6609493a
open Go.RowKit

theorem bl {W x y : World} (h : Below W.heap.size W x) (k : Below x.heap.size x y) : Below W.heap.size W y :=
  ⟨k.os.trans h.os, k.tape.trans h.tape, k.output.trans h.output, Nat.le_trans h.size k.size, fun i hi => (k.block i (Nat.lt_of_lt_of_le hi h.size)).trans (h.block i hi)⟩
theorem bo {W x y : World} {b o n : Nat} (h : Below W.heap.size W x) (k : Only b o n x y) (hb : W.heap.size ≤ b) : Below W.heap.size W y :=
  h.trans (k.below hb h.size)
theorem ob {x y z : World} {b o n : Nat} (h : Only b o n x y) (k : Below y.heap.size y z) (hb : b < x.heap.size) : Only b o n x z :=
  h.trans (Only.of_below o n k (Nat.lt_of_lt_of_le hb h.size))
/-- New blocks and a write into one of them are nothing to what was there. -/
theorem oo {W x y : World} {b o n c o' n' : Nat} (h : Only b o n W x) (k : Only c o' n' x y) (hc : W.heap.size ≤ c) (hb : b < W.heap.size) : Only b o n W y :=
  ⟨k.os.trans h.os, k.tape.trans h.tape, k.output.trans h.output, Nat.le_trans h.size k.size, fun i hi hne => (k.block i (Nat.lt_of_lt_of_le hi h.size) (by omega)).trans (h.block i hi hne),
    fun j hj => (k.cell_far (Nat.lt_of_lt_of_le hb h.size) (by omega)).trans (h.cell j hj), fun j => (k.frozen_far (Nat.lt_of_lt_of_le hb h.size) (by omega)).trans (h.frozen j)⟩

theorem new_block {w : World} {p : Nat} (t : TypeId) (vs : List Value) (hp : p = w.heap.size) : p < (w.alloc (.cells vs.toArray t)).heap.size ∧ Mem (w.alloc (.cells vs.toArray t)) p 0 vs ∧ Below w.heap.size w (w.alloc (.cells vs.toArray t)) := by
  subst hp
  exact ⟨by simp, Mem.new w vs t rfl, (Below.refl _ _).alloc (Nat.le_refl _) _⟩

section
variable {ops : Array Oper} {rest : List Oper} {a : Act} {w : World} {Q : Exit → Act → World → Prop} {K : Act → World → Prop}
/-- A new variable: the block, the world behind it: letters. -/
theorem S_new (t k : Nat) {ty : TypeId} {pos : String} {after : Array Edge} {g : Option (Nat × Bool)} (vs : List Value) (hz : ∀ w, (zeroValue t).run Try.prog w = .ok (.agg vs.toArray) w)
    (h : ∀ p w', w.heap.size ≤ p → p < w'.heap.size → Mem w' p 0 vs → Below w.heap.size w w' → K (a.put (some k) (.pointer (some ⟨p, 0, none⟩))) w') : Oper.wp Try.prog { dst := some k, op := .alloc t, type := ty, pos := pos, after := after, guard := g } a w K Q := by
  have hN := new_block (w := w) (p := w.heap.size) t vs rfl
  unfold Oper.wp
  simp only [execOp, Instr.alloc, Sem.run_bind, hz, Result.andThen_ok, newVar, newRow, Value.cells]
  exact h w.heap.size (w.alloc (.cells vs.toArray t)) (Nat.le_refl _) hN.1 hN.2.1 hN.2.2
theorem S_box (t k : Nat) {x : Operand} {ty : TypeId} {pos : String} {after : Array Edge} {g : Option (Nat × Bool)} (vs : List Value) (hx : a.eval x = .agg vs.toArray)
    (h : ∀ p w', w.heap.size ≤ p → p < w'.heap.size → Mem w' p 0 vs → Below w.heap.size w w' → K (a.put (some k) (.pointer (some ⟨p, 0, none⟩))) w') : Oper.wp Try.prog { dst := some k, op := .box t x, type := ty, pos := pos, after := after, guard := g } a w K Q := by
  have hN := new_block (w := w) (p := w.heap.size) t vs rfl
  unfold Oper.wp
  simp only [execOp, hx, Instr.box, Sem.run_bind, newVar, newRow, Value.cells]
  exact h w.heap.size (w.alloc (.cells vs.toArray t)) (Nat.le_refl _) hN.1 hN.2.1 hN.2.2
theorem D_new (t k : Nat) {ty : TypeId} {pos : String} {after : Array Edge} (vs : List Value) (hz : ∀ w, (zeroValue t).run Try.prog w = .ok (.agg vs.toArray) w)
    (h : ∀ p w', w.heap.size ≤ p → p < w'.heap.size → Mem w' p 0 vs → Below w.heap.size w w' → wpList Try.prog ops Q rest (a.put (some k) (.pointer (some ⟨p, 0, none⟩))) w') : wpList Try.prog ops Q ({ dst := some k, op := .alloc t, type := ty, pos := pos, after := after, guard := none } :: rest) a w :=
  wpList_plain rfl fun K' hK => by
    have hN := new_block (w := w) (p := w.heap.size) t vs rfl
    unfold Oper.wp
    simp only [execOp, Instr.alloc, Sem.run_bind, hz, Result.andThen_ok, newVar, newRow, Value.cells]
    exact hK _ _ (h w.heap.size (w.alloc (.cells vs.toArray t)) (Nat.le_refl _) hN.1 hN.2.1 hN.2.2)
theorem D_box (t k : Nat) {x : Operand} {ty : TypeId} {pos : String} {after : Array Edge} (vs : List Value) (hx : a.eval x = .agg vs.toArray)
    (h : ∀ p w', w.heap.size ≤ p → p < w'.heap.size → Mem w' p 0 vs → Below w.heap.size w w' → wpList Try.prog ops Q rest (a.put (some k) (.pointer (some ⟨p, 0, none⟩))) w') : wpList Try.prog ops Q ({ dst := some k, op := .box t x, type := ty, pos := pos, after := after, guard := none } :: rest) a w :=
  wpList_plain rfl fun K' hK => by
    refine S_box t k vs hx ?_
    intro p w' h1 h2 h3 h4
    exact hK _ _ (h p w' h1 h2 h3 h4)
/-- A store of one cell: the world behind it a letter. -/
theorem mem_one {b o : Nat} {v0 : Value} (hm : Mem w b o [v0]) (v : Value) : Mem (w.setCell ⟨b, o, none⟩ v) b o [v] ∧ Only b o 1 w (w.setCell ⟨b, o, none⟩ v) := by
  refine ⟨?_, Only.setCell o v (Nat.le_refl _) (by omega)⟩
  intro i u hu
  match i, hu with
  | 0, hu =>
    simp at hu; subst hu
    exact ⟨World.cell?_setCell_same _ _ _ (hm 0 _ rfl).1, (World.frozen?_setCell _ _ _ _).trans (hm 0 _ rfl).2⟩
  | i + 1, hu => simp at hu

/-- A drawn region in the midst of a body: what comes behind it is walked once, whatever the order. -/
theorem cut1 {c : Code} (f : Act → Nat → Act) (R : Nat → World → Prop) (h1 : c.wp Try.prog (fun e a' w' => ∃ p, e = .normal ∧ a' = f a p ∧ R p w') a w) (h2 : ∀ p w', R p w' → Q .normal (f a p) w') : c.wp Try.prog Q a w :=
  Code.wp_mono (fun _ _ _ ⟨p, he, ha, hR⟩ => by subst he; subst ha; exact h2 p _ hR) h1
theorem cut2 {c : Code} (f : Act → Nat → Nat → Act) (R : Nat → Nat → World → Prop) (h1 : c.wp Try.prog (fun e a' w' => ∃ p q, e = .normal ∧ a' = f a p q ∧ R p q w') a w) (h2 : ∀ p q w', R p q w' → Q .normal (f a p q) w') : c.wp Try.prog Q a w :=
  Code.wp_mono (fun _ _ _ ⟨p, q, he, ha, hR⟩ => by subst he; subst ha; exact h2 p q _ hR) h1
end
end Go.Proofs.Qxb6609493a
