import Derived.Test.Qxb6609493aCmp
import Derived.Laws.IdiomCopy
namespace Go.Proofs.Qxb6609493a
open Go.RowKit

/-! ### The equality of two addresses -/
def eqF (r s : Nat → Int) : Bool := (List.range 20).all fun i => r i == s i
theorem eqF_V {r s : Nat → Int} (hr : Ok r) (hs : Ok s) : eqF r s = decide (V r = V s) := by
  by_cases h : V r = V s
  · rw [decide_eq_true h]
    exact List.all_eq_true.2 fun i hi => by simpa using V_inj hr hs h i (by simpa using hi)
  · rw [decide_eq_false h]
    cases he : eqF r s with
    | false => rfl
    | true =>
      exact absurd (V_eq fun i hi => by
        have := List.all_eq_true.1 he i (by simpa using hi)
        simpa using this) h

theorem run_equal20 (t : TypeId) (ht : Try.prog.underlying t = some (.array 20 5)) (d : Nat) (r s : Nat → Int) (w : World) : (Op.equalIn (d + 2) t (.agg (lst r).toArray) (.agg (lst s).toArray)).run Try.prog w = .ok (eqF r s) w := by
  unfold eqF
  rw [List.range_eq_range', Op.equalIn]
  simp only [Sem.run_bind, run_underlying ht, Result.andThen_ok, Try.sizeOf5, Std.Legacy.Range.forIn_eq_forIn_range', Std.Legacy.Range.size, Nat.sub_zero, Nat.add_sub_cancel, Nat.div_one]
  have hl : ∀ i ∈ List.range' 0 20 1, i < 20 := fun i hi => by simpa using (List.mem_range'_1.1 hi).2
  generalize List.range' 0 20 1 = l at hl ⊢
  induction l with
  | nil => simp
  | cons i l ih =>
    have hi : i < 20 := hl i (by simp)
    have px : (part 5 (lst r).toArray (i * 1)).run Try.prog w = .ok (.int .u8 (r i)) w := by
      simp [part, Try.isAgg5, lst_get r i hi]
    have py : (part 5 (lst s).toArray (i * 1)).run Try.prog w = .ok (.int .u8 (s i)) w := by
      simp [part, Try.isAgg5, lst_get s i hi]
    have pe : (Op.equalIn (d + 1) 5 (.int .u8 (r i)) (.int .u8 (s i))).run Try.prog w = .ok (r i == s i) w := run_equalIn_int w d 5 .u8 .u8 _ _ Try.underlying5
    simp only [List.forIn_cons, Sem.run_bind, px, py, pe, Result.andThen_ok, List.all_cons]
    cases hb : (r i == s i)
    · simp
    · simp only [Bool.not_true, Bool.false_eq_true, if_false, Sem.run_pure, Result.andThen_ok, Bool.true_and]
      exact ih fun j hj => hl j (by simp [hj])
theorem L_eql51 {L : (Nat → Int) → List Value} (HL : IsL L) (r s : Nat → Int) (hr : Ok r) (hs : Ok s) (w : World) : (binOp .eql 51 (.agg (L r).toArray) (.agg (L s).toArray)).run Try.prog w = .ok (.bool (decide (V r = V s))) w := by
  rw [HL r, HL s, run_eql_struct, run_equal20 51 Try.underlying51 9998 r s w, eqF_V hr hs]; rfl
theorem L_neq30 {L : (Nat → Int) → List Value} (HL : IsL L) (r s : Nat → Int) (hr : Ok r) (hs : Ok s) (w : World) : (binOp .neq 30 (.agg (L r).toArray) (.agg (L s).toArray)).run Try.prog w = .ok (.bool (!decide (V r = V s))) w := by
  rw [HL r, HL s, run_neq_struct, run_equal20 30 Try.underlying30 9998 r s w, eqF_V hr hs]; rfl

/-! ### A side, as plain data and in memory -/
structure Nr where
  p : Nat → Value
  r : Nat → Nat → Int
  n : Nat
def Nr.zero : Nr := ⟨fun _ => .pointer none, fun _ _ => 0, 0⟩

structure NearAt (L : (Nat → Int) → List Value) (w : World) (b o : Nat) (s : Nr) : Prop where
  p : ∀ k, k < 2 → w.cell? ⟨b, o + k, none⟩ = some (s.p k)
  r : ∀ k, k < 2 → Mem w b (o + 2 + k * 20) (L (s.r k))
  n : w.cell? ⟨b, o + 42, none⟩ = some (.int .i64 s.n)
  fr : ∀ j, w.frozen? ⟨b, j, none⟩ = false

theorem NearAt.lt {L : (Nat → Int) → List Value} {w : World} {b o : Nat} {s : Nr} (h : NearAt L w b o s) : b < w.heap.size := World.block_lt_of_cell? w _ h.n
theorem NearAt.below {L : (Nat → Int) → List Value} {w w' : World} {b o B : Nat} {s : Nr} (h : NearAt L w b o s) (k : Below B w w') (hb : b < B) : NearAt L w' b o s :=
  ⟨fun i hi => (k.cell (p := ⟨b, o + i, none⟩) hb).trans (h.p i hi), fun i hi => (h.r i hi).below k hb, (k.cell (p := ⟨b, o + 42, none⟩) hb).trans h.n, fun j => (k.frozen (p := ⟨b, j, none⟩) hb).trans (h.fr j)⟩
theorem NearAt.only {L : (Nat → Int) → List Value} (HL : IsL L) {w w' : World} {b o c o' n' : Nat} {s : Nr} (h : NearAt L w b o s) (k : Only c o' n' w w') (hd : b ≠ c ∨ o + 43 ≤ o' ∨ o' + n' ≤ o) : NearAt L w' b o s := by
  have hb := h.lt
  by_cases e : b = c
  · subst e
    refine ⟨fun i hi => (k.cell _ (by omega)).trans (h.p i hi), fun i hi => (h.r i hi).only hb k (.inr ?_), (k.cell _ (by omega)).trans h.n, fun j => (k.frozen j).trans (h.fr j)⟩
    rw [L_len HL]
    omega
  · exact ⟨fun i hi => (k.cell_far hb e).trans (h.p i hi), fun i hi => (h.r i hi).only hb k (.inl e), (k.cell_far hb e).trans h.n, fun j => (k.frozen_far hb e).trans (h.fr j)⟩

def nearL (L : (Nat → Int) → List Value) (s : Nr) : List Value := [s.p 0, s.p 1] ++ (L (s.r 0) ++ (L (s.r 1) ++ [.int .i64 s.n]))
theorem nearL_len {L : (Nat → Int) → List Value} (HL : IsL L) (s : Nr) : (nearL L s).length = 43 := by simp [nearL, L_len HL]
theorem nearL_get {L : (Nat → Int) → List Value} (HL : IsL L) (s : Nr) : (∀ k, k < 2 → (nearL L s)[k]? = some (s.p k)) ∧ (∀ k, k < 2 → ∀ i, i < 20 → (nearL L s)[2 + k * 20 + i]? = some (.int .u8 (s.r k i))) ∧ (nearL L s)[42]? = some (.int .i64 s.n) := by
  refine ⟨fun k hk => ?_, fun k hk i hi => ?_, ?_⟩
  · rcases (by omega : k = 0 ∨ k = 1) with rfl | rfl <;> simp [nearL]
  · unfold nearL
    rcases (by omega : k = 0 ∨ k = 1) with rfl | rfl
    · rw [List.getElem?_append_right (by simp), List.getElem?_append_left (by simp [L_len HL]; omega)]
      simp only [List.length_cons, List.length_nil]
      rw [show 2 + 0 * 20 + i - (0 + 1 + 1) = i by omega]
      exact L_get HL _ _ hi
    · rw [List.getElem?_append_right (by simp; omega), List.getElem?_append_right (by simp [L_len HL]; omega), List.getElem?_append_left (by simp [L_len HL]; omega)]
      simp only [List.length_cons, List.length_nil, L_len HL]
      rw [show 2 + 1 * 20 + i - (0 + 1 + 1) - 20 = i by omega]
      exact L_get HL _ _ hi
  · unfold nearL
    rw [List.getElem?_append_right (by simp), List.getElem?_append_right (by simp [L_len HL]), List.getElem?_append_right (by simp [L_len HL])]
    simp [L_len HL]
theorem NearAt.of_mem {L : (Nat → Int) → List Value} (HL : IsL L) {w : World} {b o : Nat} {s : Nr} (h : Mem w b o (nearL L s)) (hf : ∀ j, w.frozen? ⟨b, j, none⟩ = false) : NearAt L w b o s := by
  obtain ⟨g0, g1, g2⟩ := nearL_get HL s
  refine ⟨fun k hk => (h k _ (g0 k hk)).1, fun k hk => L_mk HL fun i hi => ?_, (h 42 _ g2).1, hf⟩
  have := h _ _ (g1 k hk i hi)
  rw [show o + 2 + k * 20 + i = o + (2 + k * 20 + i) by omega]
  exact this
theorem NearAt.mem {L : (Nat → Int) → List Value} (HL : IsL L) {w : World} {b o : Nat} {s : Nr} (h : NearAt L w b o s) : Mem w b o (nearL L s) := by
  obtain ⟨g0, g1, g2⟩ := nearL_get HL s
  intro i v hv
  refine ⟨?_, h.fr _⟩
  have hi := (List.getElem?_eq_some_iff.1 hv).1
  rw [nearL_len HL] at hi
  rcases (by omega : i < 2 ∨ (2 ≤ i ∧ i < 22) ∨ (22 ≤ i ∧ i < 42) ∨ i = 42) with e | e | e | e
  · rw [← hv, g0 i e]; exact h.p i e
  · have := g1 0 (by omega) (i - 2) (by omega)
    rw [show 2 + 0 * 20 + (i - 2) = i by omega] at this
    rw [← hv, this]
    have h2 := (L_cell HL (h.r 0 (by omega)) (i - 2) (by omega)).1
    rwa [show o + 2 + 0 * 20 + (i - 2) = o + i by omega] at h2
  · have := g1 1 (by omega) (i - 22) (by omega)
    rw [show 2 + 1 * 20 + (i - 22) = i by omega] at this
    rw [← hv, this]
    have h2 := (L_cell HL (h.r 1 (by omega)) (i - 22) (by omega)).1
    rwa [show o + 2 + 1 * 20 + (i - 22) = o + i by omega] at h2
  · subst e
    rw [← hv, g2]; exact h.n
theorem nearL_one {L : (Nat → Int) → List Value} (HL : IsL L) (s : Nr) (h : ∀ k, k < 2 → (s.p k).oneCell' = true) : ∀ v ∈ nearL L s, v.oneCell' = true := by
  intro v hv
  unfold nearL at hv
  simp only [List.mem_append, List.mem_cons, List.not_mem_nil, or_false] at hv
  rcases hv with (e | e) | e | e | e
  · rw [e]; exact h 0 (by omega)
  · rw [e]; exact h 1 (by omega)
  · exact L_one HL _ v e
  · exact L_one HL _ v e
  · rw [e]; rfl
theorem zero54 {L : (Nat → Int) → List Value} (HL : IsL L) (w : World) : (zeroValue 54).run Try.prog w = .ok (.agg (nearL L Nr.zero).toArray) w := by
  obtain rfl : L = lst := funext HL
  kernel_rfl

/-! ### copy, by rows -/
theorem run_copy_rows (w : World) (dT sT ty elem : TypeId) (m b o dLen dCap b' o' sLen sCap : Nat) (cs : List Value) (hu : Try.prog.underlying dT = some (.slice elem)) (hs : (Try.prog.info? elem).map (·.size) = some m) (hn : cs.length = Nat.min sLen dLen * m)
    (hsrc : Mem w b' o' cs) (hd : w.there b o cs.length) (h1 : ∀ v ∈ cs, v.oneCell' = true) :
    (Builtin.copy_ #[dT, sT] ty #[.slice (some ⟨b, o, none⟩) dLen dCap, .slice (some ⟨b', o', none⟩) sLen sCap]).run Try.prog w = .ok (goInt (Nat.min sLen dLen)) (w.setCells b o cs) := by
  have hl := run_loadCells_list (P := Try.prog) w ⟨b', o', none⟩ cs (fun j v hv => by rw [Addr.add_mid]; exact (hsrc j v hv).1)
  have hst := run_storeCells_cells (P := Try.prog) b o cs 0 w (fun j hj => by simpa using (hd j hj).1) (fun j hj => by simpa using (hd j hj).2) h1
  cases hq : Try.prog.info? elem with
  | none => simp [hq] at hs
  | some i =>
    have hi : i.size = m := by simpa [hq] using hs
    simp [Builtin.copy_, run_underlying hu, Builtin.lenOf, Builtin.firstCells, sizeOf, typeInfo, hq, hi, ← hn, hl, hst]
theorem run_copy_zero (w : World) (dT sT ty elem : TypeId) (m b o dCap b' o' sLen sCap : Nat) (hu : Try.prog.underlying dT = some (.slice elem)) (hs : (Try.prog.info? elem).map (·.size) = some m) :
    (Builtin.copy_ #[dT, sT] ty #[.slice (some ⟨b, o, none⟩) 0 dCap, .slice (some ⟨b', o', none⟩) sLen sCap]).run Try.prog w = .ok (goInt 0) w := by
  have e : Nat.min sLen 0 = 0 := Nat.min_zero _
  have := run_copy_rows w dT sT ty elem m b o 0 dCap b' o' sLen sCap [] hu hs (by simp) (fun i v hv => by simp at hv) (fun j hj => by simp at hj) (by simp)
  rw [e] at this
  exact this

section
variable {a : Act} {w : World} {Q : Exit → Act → World → Prop} {K : Act → World → Prop}
/-- 'copy' at its step. -/
theorem S_copy (k : Nat) {d s : Operand} {t t' ty : TypeId} {pos : String} {after : Array Edge} {g : Option (Nat × Bool)} (v u : Value) (hd : a.eval d = v) (hs : a.eval s = u) {v' : Value} {w' : World} (hr : (Builtin.copy_ #[t, t'] ty #[v, u]).run Try.prog w = .ok v' w') (h : K (a.put (some k) v') w') :
    Oper.wp Try.prog { dst := some k, op := .call { callee := .builtin .copy, args := #[d, s], argTypes := #[t, t'] }, type := ty, pos := pos, after := after, guard := g } a w K Q := by
  unfold Oper.wp execOp
  simp only [resolve, invoke, builtin, Sem.run_bind, Sem.run_pure, Result.andThen_ok, List.map_toArray, List.map_cons, List.map_nil, hd, hs, hr]
  exact h
end
end Go.Proofs.Qxb6609493a
