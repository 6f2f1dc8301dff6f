import Derived.Test.Qxb6612204aState
namespace Go.Proofs.Qxb6612204a
open Go.RowKit

theorem cell_only {w w' : World} {b o n b' j : Nat} {v : Value} (h : w.cell? ⟨b', j, none⟩ = some v) (k : Only b o n w w') (hd : b' ≠ b ∨ j < o ∨ o + n ≤ j) : w'.cell? ⟨b', j, none⟩ = some v := by
  have hb : b' < w.heap.size := World.block_lt_of_cell? w _ h
  by_cases e : b' = b
  · subst e
    exact (k.cell _ (by omega)).trans h
  · exact (World.cell?_of_block (w := w) (a := ⟨b', j, none⟩) (k.block b' hb e)).trans h

theorem TombAt.only {w w' : World} {b o n b' o' : Nat} {t : Tb} (h : TombAt w b' o' t) (k : Only b o n w w') (hd : b' ≠ b ∨ o' + 2052 ≤ o ∨ o + n ≤ o') : TombAt w' b' o' t := by
  have hb := h.tg.lt
  refine ⟨h.tg.only hb k (by omega), h.rc.only hb k (by omega), cell_only h.f0 k (by omega), cell_only h.f1 k (by omega), cell_only h.n k (by omega), cell_only h.e k (by omega), fun j => ?_⟩
  by_cases e : b' = b
  · subst e; exact (k.frozen j).trans (h.fr j)
  · exact (World.frozen?_of_block (w := w) (a := ⟨b', j, none⟩) (k.block b' hb e)).trans (h.fr j)

theorem TombAt.below {w w' : World} {b o : Nat} {t : Tb} (h : TombAt w b o t) (k : Below w.heap.size w w') : TombAt w' b o t :=
  h.only (Only.of_below (b := b) 0 0 k h.tg.lt) (by omega)
theorem StateAt.below {w w' : World} {b : Nat} {s : St} (h : StateAt w b s) (k : Below w.heap.size w w') : StateAt w' b s := by
  have o := Only.of_below (b := b) 0 0 k h.rg.lt
  exact ⟨cell_only h.node o (by omega), cell_only h.set o (by omega), cell_only h.rank o (by omega), cell_only h.holds o (by omega), h.rg.below k, h.tb.below k⟩
theorem StateAt.other {w w' : World} {B b o n : Nat} {s : St} (h : StateAt w B s) (k : Only b o n w w') (hd : B ≠ b) : StateAt w' B s :=
  ⟨cell_only h.node k (by omega), cell_only h.set k (by omega), cell_only h.rank k (by omega), cell_only h.holds k (by omega), h.rg.only h.rg.lt k (by omega), h.tb.only k (by omega)⟩
theorem StateAt.lt {w : World} {B : Nat} {s : St} (h : StateAt w B s) : B < w.heap.size := h.rg.lt

theorem L_regs_old {L : (Nat → Int) → List Value} (HL : IsL L) (w : World) (r : Nat → Int) (o : Obj) {n : Nat} (hn : n = w.heap.size) : Regs ((w.alloc (.cells (L r).toArray 22)).alloc o) n 0 r :=
  (L_new HL w r 22 hn).below ((Below.refl _ _).alloc (Nat.le_refl _) _)

/-- The record laid into the state's own sketch. -/
theorem StateAt.rg_only {w w' : World} {B : Nat} {s : St} {r : Nat → Int} (h : StateAt w B s) (k : Only B 4 1024 w w') (hr : Regs w' B 4 r) : StateAt w' B { s with rg := r } :=
  ⟨cell_only h.node k (by omega), cell_only h.set k (by omega), cell_only h.rank k (by omega), cell_only h.holds k (by omega), hr, h.tb.only k (by omega)⟩
theorem StateAt.set_holds {w : World} {B : Nat} {s : St} (h : StateAt w B s) (v : Int) : StateAt (w.setCell ⟨B, 3, none⟩ (.int .i64 v)) B { s with holds := v } := by
  have k : Only B 3 1 w (w.setCell ⟨B, 3, none⟩ (.int .i64 v)) := Only.setCell 3 _ (by omega) (by omega)
  exact ⟨cell_only h.node k (by omega), cell_only h.set k (by omega), cell_only h.rank k (by omega), World.cell?_setCell_same _ _ _ h.holds, h.rg.only h.rg.lt k (by omega), h.tb.only k (by omega)⟩

end Go.Proofs.Qxb6612204a
