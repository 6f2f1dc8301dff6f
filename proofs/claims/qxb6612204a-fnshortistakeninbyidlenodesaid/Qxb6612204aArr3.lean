import Derived.Test.Qxb6612204aBuild2
namespace Go.Proofs.Qxb6612204a
open Go.RowKit

/-! ### The same laws, the list of cells kept behind a letter: 'L' is 'lst', but no tactic can lay it open -/
def IsL (L : (Nat → Int) → List Value) : Prop := ∀ r, L r = lst r

theorem L_new {L : (Nat → Int) → List Value} (HL : IsL L) (w : World) (r : Nat → Int) (t : TypeId) {n : Nat} (hn : n = w.heap.size) : Regs (w.alloc (.cells (L r).toArray t)) n 0 r := by
  rw [HL r, hn]; exact Regs.new w r t
theorem L_block {L : (Nat → Int) → List Value} (HL : IsL L) {w : World} {b : Nat} {t : TypeId} {r : Nat → Int} (h : w.heap[b]? = some (.cells (L r).toArray t)) : Regs w b 0 r := by
  rw [HL r] at h; exact Regs.of_block h

section
variable {ops : Array Oper} {rest : List Oper} {op : Oper} {a : Act} {w : World} {Q : Exit → Act → World → Prop}
theorem L_load {L : (Nat → Int) → List Value} (HL : IsL L) (hgd : op.guard = none) (x : Operand) (ho : op.op = .load 22 x) (b o : Nat) (hx : a.eval x = .pointer (some ⟨b, o, none⟩)) (r : Nat → Int) (hr : Regs w b o r)
    (h : wpList Try.prog ops Q rest (a.put op.dst (.agg (L r).toArray)) w) : wpList Try.prog ops Q (op :: rest) a w := by
  rw [HL r] at h; exact wl_load hgd x ho b o hx r hr h
theorem L_store {L : (Nat → Int) → List Value} (HL : IsL L) (hgd : op.guard = none) (x y : Operand) (ho : op.op = .store 22 x y) (b o : Nat) (hx : a.eval x = .pointer (some ⟨b, o, none⟩)) (r r0 : Nat → Int) (hy : a.eval y = .agg (L r).toArray) (h0 : Regs w b o r0)
    (h : ∀ w', Regs w' b o r → Only b o 1024 w w' → wpList Try.prog ops Q rest (a.put op.dst undef) w') : wpList Try.prog ops Q (op :: rest) a w := by
  rw [HL r] at hy; exact wl_store hgd x y ho b o hx r r0 hy h0 h
theorem L_alloc {L : (Nat → Int) → List Value} (HL : IsL L) (hgd : op.guard = none) (ho : op.op = .alloc 22)
    (h : wpList Try.prog ops Q rest (a.put op.dst (.pointer (some ⟨w.heap.size, 0, none⟩))) (w.alloc (.cells (L (fun _ => 0)).toArray 22))) : wpList Try.prog ops Q (op :: rest) a w := by
  rw [HL] at h; exact wl_alloc hgd ho h
/-- The same, over the operation written out: a law that is not meant fails at once. -/
theorem D_load (k : Nat) {x : Operand} {ty : TypeId} {pos : String} {after : Array Edge} {L : (Nat → Int) → List Value} (HL : IsL L) (b o : Nat) (r : Nat → Int) (hx : a.eval x = .pointer (some ⟨b, o, none⟩)) (hr : Regs w b o r)
    (h : wpList Try.prog ops Q rest (a.put (some k) (.agg (L r).toArray)) w) : wpList Try.prog ops Q ({ dst := some k, op := .load 22 x, type := ty, pos := pos, after := after, guard := none } :: rest) a w :=
  L_load HL rfl x rfl b o hx r hr h
theorem D_alloc (k : Nat) {ty : TypeId} {pos : String} {after : Array Edge} {L : (Nat → Int) → List Value} (HL : IsL L)
    (h : wpList Try.prog ops Q rest (a.put (some k) (.pointer (some ⟨w.heap.size, 0, none⟩))) (w.alloc (.cells (L (fun _ => 0)).toArray 22))) : wpList Try.prog ops Q ({ dst := some k, op := .alloc 22, type := ty, pos := pos, after := after, guard := none } :: rest) a w :=
  L_alloc HL rfl rfl h
theorem D_store (k k' : Nat) {ty : TypeId} {pos : String} {after : Array Edge} {L : (Nat → Int) → List Value} (HL : IsL L) (b o : Nat) (r r0 : Nat → Int) (hx : a.eval (.tmp k) = .pointer (some ⟨b, o, none⟩)) (hy : a.eval (.tmp k') = .agg (L r).toArray) (h0 : Regs w b o r0)
    (h : ∀ w', Regs w' b o r → Only b o 1024 w w' → wpList Try.prog ops Q rest (a.put none undef) w') : wpList Try.prog ops Q ({ dst := none, op := .store 22 (.tmp k) (.tmp k'), type := ty, pos := pos, after := after, guard := none } :: rest) a w :=
  L_store HL rfl _ _ rfl b o hx r r0 hy h0 h
/-- 'build', by the run's law: one part, four parts, six. -/
theorem D_build1 (k : Nat) {t : TypeId} {x0 : Operand} {ty : TypeId} {pos : String} {after : Array Edge} (v0 : Value) (h0 : a.eval x0 = v0) (v : Value) (hrun : (Instr.build t #[(0, v0)]).run Try.prog w = .ok v w)
    (h : wpList Try.prog ops Q rest (a.put (some k) v) w) : wpList Try.prog ops Q ({ dst := some k, op := .build t #[(0, x0)], type := ty, pos := pos, after := after, guard := none } :: rest) a w := by
  refine wpList_plain rfl fun K' hK' => ?_
  have e : (#[(0, x0)] : Array (Nat × Operand)).map (fun (i, x) => (i, a.eval x)) = #[(0, v0)] := by simp [h0]
  unfold Oper.wp
  simp only [execOp, e, hrun, Sem.run_bind, Result.andThen_ok, Sem.run_pure]
  exact hK' _ _ h
theorem D_build4 (k : Nat) {t : TypeId} {x0 x1 x2 x3 : Operand} {ty : TypeId} {pos : String} {after : Array Edge} (v0 v1 v2 v3 : Value) (h0 : a.eval x0 = v0) (h1 : a.eval x1 = v1) (h2 : a.eval x2 = v2) (h3 : a.eval x3 = v3)
    (v : Value) (hrun : (Instr.build t #[(0, v0), (1, v1), (2, v2), (3, v3)]).run Try.prog w = .ok v w) (h : wpList Try.prog ops Q rest (a.put (some k) v) w) :
    wpList Try.prog ops Q ({ dst := some k, op := .build t #[(0, x0), (1, x1), (2, x2), (3, x3)], type := ty, pos := pos, after := after, guard := none } :: rest) a w := by
  refine wpList_plain rfl fun K' hK' => ?_
  have e : (#[(0, x0), (1, x1), (2, x2), (3, x3)] : Array (Nat × Operand)).map (fun (i, x) => (i, a.eval x)) = #[(0, v0), (1, v1), (2, v2), (3, v3)] := by simp [h0, h1, h2, h3]
  unfold Oper.wp
  simp only [execOp, e, hrun, Sem.run_bind, Result.andThen_ok, Sem.run_pure]
  exact hK' _ _ h
theorem D_build6 (k : Nat) {t : TypeId} {x0 x1 x2 x3 x4 x5 : Operand} {ty : TypeId} {pos : String} {after : Array Edge} (v0 v1 v2 v3 v4 v5 : Value) (h0 : a.eval x0 = v0) (h1 : a.eval x1 = v1) (h2 : a.eval x2 = v2) (h3 : a.eval x3 = v3) (h4 : a.eval x4 = v4) (h5 : a.eval x5 = v5)
    (v : Value) (hrun : (Instr.build t #[(0, v0), (1, v1), (2, v2), (3, v3), (4, v4), (5, v5)]).run Try.prog w = .ok v w) (h : wpList Try.prog ops Q rest (a.put (some k) v) w) :
    wpList Try.prog ops Q ({ dst := some k, op := .build t #[(0, x0), (1, x1), (2, x2), (3, x3), (4, x4), (5, x5)], type := ty, pos := pos, after := after, guard := none } :: rest) a w := by
  refine wpList_plain rfl fun K' hK' => ?_
  have e : (#[(0, x0), (1, x1), (2, x2), (3, x3), (4, x4), (5, x5)] : Array (Nat × Operand)).map (fun (i, x) => (i, a.eval x)) = #[(0, v0), (1, v1), (2, v2), (3, v3), (4, v4), (5, v5)] := by simp [h0, h1, h2, h3, h4, h5]
  unfold Oper.wp
  simp only [execOp, e, hrun, Sem.run_bind, Result.andThen_ok, Sem.run_pure]
  exact hK' _ _ h
/-- A walk stands here. -/
theorem stop_at (k : Nat) {x : Op} {ty : TypeId} {pos : String} {after : Array Edge} {g : Option (Nat × Bool)} (h : Hid (wpList Try.prog ops Q ({ dst := some k, op := x, type := ty, pos := pos, after := after, guard := g } :: rest) a w)) :
    wpList Try.prog ops Q ({ dst := some k, op := x, type := ty, pos := pos, after := after, guard := g } :: rest) a w := h
end

theorem L_index {L : (Nat → Int) → List Value} (HL : IsL L) (r : Nat → Int) (k : Nat) (hk : k < 1024) (w : World) : (Instr.index 22 (.agg (L r).toArray) (.int .i64 (k : Int))).run Try.prog w = .ok (.int .u8 (r k)) w := by
  rw [HL r]; exact run_index22 r k hk w
theorem L_eql {L : (Nat → Int) → List Value} (HL : IsL L) (r s : Nat → Int) (w : World) : (binOp .eql 22 (.agg (L r).toArray) (.agg (L s).toArray)).run Try.prog w = .ok (.bool (eqF r s)) w := by
  rw [HL r, HL s]; exact run_eql22 r s w
theorem L_neq {L : (Nat → Int) → List Value} (HL : IsL L) (r s : Nat → Int) (w : World) : (binOp .neq 22 (.agg (L r).toArray) (.agg (L s).toArray)).run Try.prog w = .ok (.bool (!eqF r s)) w := by
  rw [HL r, HL s]; exact run_neq22 r s w
theorem L_build57 {L : (Nat → Int) → List Value} (HL : IsL L) (r : Nat → Int) (w : World) : (Instr.build 57 #[(0, .agg (L r).toArray)]).run Try.prog w = .ok (.agg (L r).toArray) w := by
  rw [HL r]; exact run_build57 r w
/-- A result that lies in memory as a whole array. -/
theorem L_results {L : (Nat → Int) → List Value} (HL : IsL L) {fn : Func} {p : Tmp} (h : fn.results = #[.cell p 22]) (tmps : Array Value) (w : World) (b o : Nat) (r : Nat → Int) (hp : tmps.getD p undef = .pointer (some ⟨b, o, none⟩)) (hr : Regs w b o r) : (results fn tmps).run Try.prog w = .ok (.agg (L r).toArray) w := by
  have hl := run_loadVar_mid (P := Try.prog) w b o 22 (lst r) (.array 1024 5) hr.range Try.underlying22 rfl (by rw [lst_length]; exact info22)
  have hp' : tmps[p]?.getD undef = .pointer (some ⟨b, o, none⟩) := by simpa using hp
  rw [HL r]
  generalize (lst r).toArray = A at hl
  simp [results, h, hp', asAddr, hl]

theorem newSketch_any {L : (Nat → Int) → List Value} (HL : IsL L) (r : Nat → Int) (w : World) :
    Calls Try.prog 25 #[.agg (L r).toArray] w fun e w' => ∃ B, e = .returned (.pointer (some ⟨B, 0, none⟩)) ∧ w.heap.size ≤ B ∧ Regs w' B 0 r ∧ Below w.heap.size w w' := by
  go_enter Try.func25, Try.ntmps25
  go_wp2_with (first | (refine D_load 3 HL w.heap.size 0 r ?_ ?_ ?_; rfl; exact L_new HL _ _ _ rfl) | (refine D_build1 4 (.agg (L r).toArray) ?_ (.agg (L r).toArray) (L_build57 HL r _) ?_; rfl))
  go_ret
  exact ⟨w.heap.size + 1, rfl, by omega, L_new HL _ r 57 (by simp), ((Below.refl _ _).alloc (Nat.le_refl _) _).alloc (by simp) _⟩

theorem sketchReg_any {L : (Nat → Int) → List Value} (HL : IsL L) (b o : Nat) (r : Nat → Int) (w : World) (hr : Hid (Regs w b o r)) :
    Calls Try.prog 27 #[.pointer (some ⟨b, o, none⟩)] w fun e w' => e = .returned (.agg (L r).toArray) ∧ Below w.heap.size w w' := by
  go_enter Try.func27, Try.ntmps27
  go_wp2_with (first | (refine D_alloc 2 HL ?_) | (refine D_load 6 HL b o r ?_ ?_ ?_; rfl; exact hr.out.below ((Below.refl _ _).alloc (Nat.le_refl _) _)) | (refine D_store 2 6 HL w.heap.size 0 r (fun _ => 0) ?_ ?_ ?_ ?_; rfl; rfl; exact L_new HL _ _ _ rfl; intro w2 hr2 ho2))
  exact bodyPost_ret (L_results HL Try.results27 _ _ w.heap.size 0 r rfl hr2) rfl ⟨rfl, ((Below.refl _ _).alloc (Nat.le_refl _) _).trans (ho2.below (Nat.le_refl _) (by simp))⟩
end Go.Proofs.Qxb6612204a
