import Derived.Test.Qxb6612204aArr
namespace Go.Proofs.Qxb6612204a
open Go.RowKit

/-! ### The zero array, the index, the equality -/
theorem zero22 (w : World) : (zeroValue 22).run Try.prog w = .ok (.agg (lst (fun _ => 0)).toArray) w := by kernel_rfl

section
variable {ops : Array Oper} {rest : List Oper} {op : Oper} {a : Act} {w : World} {Q : Exit → Act → World → Prop}

theorem wl_alloc (hgd : op.guard = none) (ho : op.op = .alloc 22)
    (h : wpList Try.prog ops Q rest (a.put op.dst (.pointer (some ⟨w.heap.size, 0, none⟩))) (w.alloc (.cells (lst (fun _ => 0)).toArray 22))) : wpList Try.prog ops Q (op :: rest) a w := by
  refine wpList_plain hgd fun K' hK' => ?_
  unfold Oper.wp
  simp only [execOp, ho, Instr.alloc, Sem.run_bind, zero22, Result.andThen_ok, newVar, newRow, Value.cells]
  exact hK' _ _ h
end

theorem run_index22 (r : Nat → Int) (k : Nat) (hk : k < 1024) (w : World) : (Instr.index 22 (.agg (lst r).toArray) (.int .i64 (k : Int))).run Try.prog w = .ok (.int .u8 (r k)) w := by
  have h0 : (0 : Int) ≤ (k : Int) ∧ (k : Int) < (1024 : Nat) := ⟨by omega, by omega⟩
  have hg : (lst r).toArray[k]? = some (.int .u8 (r k)) := by simp [lst_get r k hk]
  simp only [Instr.index, Sem.run_bind, run_underlying Try.underlying22, Result.andThen_ok, asIntOf, Sem.run_pure, if_pos h0, Try.sizeOf5, part, Try.isAgg5]
  simp [hg]

/-- Are the registers one? -/
def eqF (r s : Nat → Int) : Bool := (List.range 1024).all fun i => r i == s i
theorem eqF_true {r s : Nat → Int} (h : eqF r s = true) : ∀ i, i < 1024 → r i = s i := by
  intro i hi
  have := List.all_eq_true.1 h i (by simpa using hi)
  simpa using this
theorem eqF_mk {r s : Nat → Int} (h : ∀ i, i < 1024 → r i = s i) : eqF r s = true :=
  List.all_eq_true.2 fun i hi => by simpa using h i (by simpa using hi)
theorem eqF_refl (r : Nat → Int) : eqF r r = true := eqF_mk fun _ _ => rfl

theorem run_equal22 (d : Nat) (r s : Nat → Int) (w : World) : (Op.equalIn (d + 2) 22 (.agg (lst r).toArray) (.agg (lst s).toArray)).run Try.prog w = .ok (eqF r s) w := by
  unfold eqF
  rw [List.range_eq_range', Op.equalIn]
  simp only [Sem.run_bind, run_underlying Try.underlying22, Result.andThen_ok, Try.sizeOf5, Std.Legacy.Range.forIn_eq_forIn_range', Std.Legacy.Range.size, Nat.sub_zero, Nat.add_sub_cancel, Nat.div_one]
  have hl : ∀ i ∈ List.range' 0 1024 1, i < 1024 := fun i hi => by simpa using (List.mem_range'_1.1 hi).2
  generalize List.range' 0 1024 1 = l at hl ⊢
  induction l with
  | nil => simp
  | cons i l ih =>
    have hi : i < 1024 := hl i (by simp)
    have px : (part 5 (lst r).toArray (i * 1)).run Try.prog w = .ok (.int .u8 (r i)) w := by
      simp [part, Try.isAgg5, lst_get r i hi]
    have py : (part 5 (lst s).toArray (i * 1)).run Try.prog w = .ok (.int .u8 (s i)) w := by
      simp [part, Try.isAgg5, lst_get s i hi]
    have pe : (Op.equalIn (d + 1) 5 (.int .u8 (r i)) (.int .u8 (s i))).run Try.prog w = .ok (r i == s i) w := run_equalIn_int w d 5 .u8 .u8 _ _ Try.underlying5
    simp only [List.forIn_cons, Sem.run_bind, px, py, pe, Result.andThen_ok, List.all_cons]
    cases hb : (r i == s i)
    · simp
    · simp only [Bool.not_true, Bool.false_eq_true, if_false, Sem.run_pure, Result.andThen_ok, Bool.true_and]
      exact ih fun j hj => hl j (by simp [hj])

theorem run_eql22 (r s : Nat → Int) (w : World) : (binOp .eql 22 (.agg (lst r).toArray) (.agg (lst s).toArray)).run Try.prog w = .ok (.bool (eqF r s)) w := by
  rw [run_eql_struct, run_equal22 9998 r s w]; rfl
theorem run_neq22 (r s : Nat → Int) (w : World) : (binOp .neq 22 (.agg (lst r).toArray) (.agg (lst s).toArray)).run Try.prog w = .ok (.bool (!eqF r s)) w := by
  rw [run_neq_struct, run_equal22 9998 r s w]; rfl
end Go.Proofs.Qxb6612204a
