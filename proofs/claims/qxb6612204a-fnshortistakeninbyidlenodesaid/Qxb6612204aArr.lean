import Derived.Test.Qxb6612204aAdd2
import Derived.Deep.MidRow
import Derived.Deep.WholeRow
import Derived.Laws.StructEq
namespace Go.Proofs.Qxb6612204a
open Go.RowKit

/-- 1,024 registers as a value's cells. -/
def lst (r : Nat → Int) : List Value := (List.range 1024).map fun i => Value.int .u8 (r i)
theorem lst_length (r : Nat → Int) : (lst r).length = 1024 := by simp [lst]
theorem lst_get (r : Nat → Int) (i : Nat) (h : i < 1024) : (lst r)[i]? = some (.int .u8 (r i)) := by simp [lst, h]
theorem lst_one (r : Nat → Int) : ∀ v ∈ lst r, v.oneCell' = true := by
  intro v hv
  obtain ⟨i, _, rfl⟩ := List.mem_map.1 hv
  rfl
theorem lst_congr {r s : Nat → Int} (h : ∀ i, i < 1024 → r i = s i) : lst r = lst s :=
  List.map_congr_left fun i hi => by rw [h i (by simpa using hi)]
theorem lst_inv {r s : Nat → Int} (h : lst r = lst s) (i : Nat) (hi : i < 1024) : r i = s i := by
  have := lst_get r i hi
  rw [h, lst_get s i hi] at this
  simpa using this.symm

theorem info22 : (Try.prog.info? 22).map (·.size) = some 1024 := by kernel_rfl

theorem Regs.range {w : World} {b o : Nat} {r : Nat → Int} (h : Regs w b o r) : w.rangeAt b o (lst r) := by
  intro j v hv
  have hj : j < 1024 := by
    have := (List.getElem?_eq_some_iff.1 hv).1
    rwa [lst_length] at this
  rw [lst_get r j hj] at hv
  rw [(h j hj).1, ← hv]
theorem Regs.there {w : World} {b o : Nat} {r : Nat → Int} (h : Regs w b o r) : w.there b o 1024 := fun j hj => ⟨by rw [(h j hj).1]; rfl, (h j hj).2⟩
theorem Regs.mk {w : World} {b o : Nat} {r : Nat → Int} (h : w.rangeAt b o (lst r)) (k : w.there b o 1024) : Regs w b o r :=
  fun i hi => ⟨h i _ (lst_get r i hi), (k i hi).2⟩

/-- A block that holds the registers from its head. -/
theorem Regs.of_block {w : World} {b : Nat} {t : TypeId} {r : Nat → Int} (h : w.heap[b]? = some (.cells (lst r).toArray t)) : Regs w b 0 r := by
  intro i hi
  refine ⟨?_, frozen_of_row w b _ _ _ h⟩
  rw [cell_of_row w b _ _ _ _ h]
  simp [lst_get r i hi]
theorem Regs.new (w : World) (r : Nat → Int) (t : TypeId) : Regs (w.alloc (.cells (lst r).toArray t)) w.heap.size 0 r := Regs.of_block (heap_alloc_new w _)

section
variable {ops : Array Oper} {rest : List Oper} {op : Oper} {a : Act} {w : World} {Q : Exit → Act → World → Prop}

/-- The load of a whole array. -/
theorem wl_load (hgd : op.guard = none) (x : Operand) (ho : op.op = .load 22 x) (b o : Nat) (hx : a.eval x = .pointer (some ⟨b, o, none⟩)) (r : Nat → Int) (hr : Regs w b o r)
    (h : wpList Try.prog ops Q rest (a.put op.dst (.agg (lst r).toArray)) w) : wpList Try.prog ops Q (op :: rest) a w :=
  wpList_load_mid hgd 22 x ho b o hx (lst r) (.array 1024 5) hr.range Try.underlying22 rfl (by rw [lst_length]; exact info22) h

theorem Only.setCells (b : Nat) : ∀ (cs : List Value) (o : Nat) (w : World), Only b o cs.length w (w.setCells b o cs)
  | [], o, w => Only.refl _ _ _ _
  | v :: cs, o, w => by
    have h1 : Only b o (cs.length + 1) w (w.setCell ⟨b, o, none⟩ v) := Only.setCell o v (Nat.le_refl _) (by omega)
    have h2 := (Only.setCells b cs (o + 1) (w.setCell ⟨b, o, none⟩ v)).mono (o' := o) (n' := cs.length + 1) (by omega) (by omega)
    exact h1.trans h2

/-- The store of a whole array. -/
theorem wl_store (hgd : op.guard = none) (x y : Operand) (ho : op.op = .store 22 x y) (b o : Nat) (hx : a.eval x = .pointer (some ⟨b, o, none⟩)) (r r0 : Nat → Int) (hy : a.eval y = .agg (lst r).toArray) (h0 : Regs w b o r0)
    (h : ∀ w', Regs w' b o r → Only b o 1024 w w' → wpList Try.prog ops Q rest (a.put op.dst undef) w') : wpList Try.prog ops Q (op :: rest) a w := by
  have e1 : (lst r).toArray.toList = lst r := by simp
  have e2 : (lst r).toArray.size = 1024 := by rw [List.size_toArray, lst_length]
  refine wpList_store_mid hgd 22 x y ho b o (lst r).toArray hx hy ?_ ?_ (all_oneCell_toArray (lst_one r)) ?_
  · rw [e2]; exact h0.there
  · rw [e2]; exact info22
  · rw [e1]
    refine h _ ?_ ?_
    · have h3 := World.rangeAt_setCells_same w b o (lst r) (by rw [lst_length]; exact h0.there)
      exact Regs.mk h3 (World.there_setCells h0.there b o _)
    · have h4 := Only.setCells b (lst r) o w
      rw [lst_length] at h4
      exact h4
end
end Go.Proofs.Qxb6612204a
