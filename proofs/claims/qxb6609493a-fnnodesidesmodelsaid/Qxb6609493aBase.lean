import Derived.Test.Qxb6609493aProg
import Derived.WalkKit
import Derived.WalkSpells
import Derived.WalkLawsBesides
import Derived.OpenShut
import Derived.Deep.MidRow
import Derived.Deep.WholeRow
import Derived.Laws.StructEq
import Derived.Deep.RegionHeld3
import Derived.LaidEqlPtr
import Derived.LoopN
import Derived.Deep.QuietTactic
import Derived.BigQuiet
import Derived.Below
namespace Go.Proofs.Qxb6609493a
open Go.RowKit

/-- A hypothesis that no tactic looks into. -/
def Hid (p : Prop) : Prop := p
theorem Hid.out {p : Prop} (h : Hid p) : p := h

theorem below_drewN (n : Nat) (w : World) (k : Nat) : Below n w (w.drewN k) := ⟨rfl, rfl, rfl, Nat.le_refl _, fun _ _ => rfl⟩
theorem below_drew (n : Nat) (w : World) : Below n w w.drew := ⟨rfl, rfl, rfl, Nat.le_refl _, fun _ _ => rfl⟩

/-- A type that is a row of n cells. -/
structure TA (t : TypeId) (n : Nat) : Prop where
  row : ∃ d, Try.prog.underlying t = some d ∧ d.isRow = true
  size : (Try.prog.info? t).map (·.size) = some n

theorem ta30 : TA 30 20 := ⟨⟨_, Try.underlying30, rfl⟩, by kernel_rfl⟩
theorem ta51 : TA 51 20 := ⟨⟨_, Try.underlying51, rfl⟩, by kernel_rfl⟩
theorem ta54 : TA 54 43 := ⟨⟨_, Try.underlying54, rfl⟩, by kernel_rfl⟩
theorem ta74 : TA 74 86 := ⟨⟨_, Try.underlying74, rfl⟩, by kernel_rfl⟩
theorem ta93 : TA 93 3 := ⟨⟨_, Try.underlying93, rfl⟩, by kernel_rfl⟩
theorem ta101 : TA 101 0 := ⟨⟨_, Try.underlying101, rfl⟩, by kernel_rfl⟩

/-- Cells that lie in memory, none frozen. -/
def Mem (w : World) (b o : Nat) (vs : List Value) : Prop := ∀ i v, vs[i]? = some v → w.cell? ⟨b, o + i, none⟩ = some v ∧ w.frozen? ⟨b, o + i, none⟩ = false

theorem Mem.range {w : World} {b o : Nat} {vs : List Value} (h : Mem w b o vs) : w.rangeAt b o vs := fun j v hv => (h j v hv).1
theorem Mem.there {w : World} {b o : Nat} {vs : List Value} (h : Mem w b o vs) : w.there b o vs.length := fun j hj => by
  obtain ⟨v, hv⟩ : ∃ v, vs[j]? = some v := ⟨_, List.getElem?_eq_getElem hj⟩
  exact ⟨by rw [(h j v hv).1]; rfl, (h j v hv).2⟩
theorem Mem.mk {w : World} {b o : Nat} {vs : List Value} (h : w.rangeAt b o vs) (k : w.there b o vs.length) : Mem w b o vs :=
  fun i v hv => ⟨h i v hv, (k i (List.getElem?_eq_some_iff.1 hv).1).2⟩
theorem Mem.of_block {w : World} {b : Nat} {t : TypeId} {vs : List Value} (h : w.heap[b]? = some (.cells vs.toArray t)) : Mem w b 0 vs := by
  intro i v hv
  refine ⟨?_, frozen_of_row w b _ _ _ h⟩
  rw [cell_of_row w b _ _ _ _ h]
  simp [hv]
theorem Mem.new (w : World) (vs : List Value) (t : TypeId) {n : Nat} (hn : n = w.heap.size) : Mem (w.alloc (.cells vs.toArray t)) n 0 vs := by
  subst hn
  exact Mem.of_block (heap_alloc_new w _)
theorem Mem.below {w w' : World} {b o B : Nat} {vs : List Value} (h : Mem w b o vs) (k : Below B w w') (hb : b < B) : Mem w' b o vs :=
  fun i v hv => ⟨(k.cell (p := ⟨b, o + i, none⟩) hb).trans (h i v hv).1, (k.frozen (p := ⟨b, o + i, none⟩) hb).trans (h i v hv).2⟩
theorem Mem.lt {w : World} {b o : Nat} {vs : List Value} (h : Mem w b o vs) (hn : 0 < vs.length) : b < w.heap.size := by
  obtain ⟨v, hv⟩ : ∃ v, vs[0]? = some v := ⟨_, List.getElem?_eq_getElem hn⟩
  exact World.block_lt_of_cell? w _ (h 0 v hv).1

/-- w' is w with new blocks, and with writes to the n cells from o on of block b alone. -/
structure Only (b o n : Nat) (w w' : World) : Prop where
  os : w'.os = w.os
  tape : w'.tape = w.tape
  output : w'.output = w.output
  size : w.heap.size ≤ w'.heap.size
  block : ∀ k, k < w.heap.size → k ≠ b → w'.heap[k]? = w.heap[k]?
  cell : ∀ j, (j < o ∨ o + n ≤ j) → w'.cell? ⟨b, j, none⟩ = w.cell? ⟨b, j, none⟩
  frozen : ∀ j, w'.frozen? ⟨b, j, none⟩ = w.frozen? ⟨b, j, none⟩

theorem Only.refl (b o n : Nat) (w : World) : Only b o n w w := ⟨rfl, rfl, rfl, Nat.le_refl _, fun _ _ _ => rfl, fun _ _ => rfl, fun _ => rfl⟩
theorem Only.trans {b o n : Nat} {w x y : World} (h : Only b o n w x) (k : Only b o n x y) : Only b o n w y :=
  ⟨k.os.trans h.os, k.tape.trans h.tape, k.output.trans h.output, Nat.le_trans h.size k.size, fun i hi hb => (k.block i (Nat.lt_of_lt_of_le hi h.size) hb).trans (h.block i hi hb),
    fun j hj => (k.cell j hj).trans (h.cell j hj), fun j => (k.frozen j).trans (h.frozen j)⟩
theorem Only.of_below {b : Nat} {w w' : World} (o n : Nat) (h : Below w.heap.size w w') (hb : b < w.heap.size) : Only b o n w w' :=
  ⟨h.os, h.tape, h.output, h.size, fun k hk _ => h.block k hk, fun j _ => h.cell (p := ⟨b, j, none⟩) hb, fun j => h.frozen (p := ⟨b, j, none⟩) hb⟩
theorem Only.setCell {b o n : Nat} {w : World} (j : Nat) (v : Value) (h0 : o ≤ j) (h1 : j < o + n) : Only b o n w (w.setCell ⟨b, j, none⟩ v) :=
  ⟨rfl, rfl, rfl, by simp [World.setCell], fun k _ hk => Below.heap_setCell _ _ _ _ hk, fun i hi => World.cell?_setCell_other _ _ _ _ (by intro e; injection e; omega), fun i => World.frozen?_setCell _ _ _ _⟩
theorem Only.below {b o n B : Nat} {w w' : World} (h : Only b o n w w') (hb : B ≤ b) (hB : B ≤ w.heap.size) : Below B w w' :=
  ⟨h.os, h.tape, h.output, h.size, fun k hk => h.block k (by omega) (by omega)⟩
theorem Only.mono {b o n o' n' : Nat} {w w' : World} (h : Only b o n w w') (h0 : o' ≤ o) (h1 : o + n ≤ o' + n') : Only b o' n' w w' :=
  ⟨h.os, h.tape, h.output, h.size, h.block, fun j hj => h.cell j (by omega), h.frozen⟩
theorem Only.cell_far {b o n : Nat} {w w' : World} (h : Only b o n w w') {c j : Nat} (hc : c < w.heap.size) (hne : c ≠ b) : w'.cell? ⟨c, j, none⟩ = w.cell? ⟨c, j, none⟩ :=
  World.cell?_of_block (a := ⟨c, j, none⟩) (h.block c hc hne)
theorem Only.frozen_far {b o n : Nat} {w w' : World} (h : Only b o n w w') {c j : Nat} (hc : c < w.heap.size) (hne : c ≠ b) : w'.frozen? ⟨c, j, none⟩ = w.frozen? ⟨c, j, none⟩ :=
  World.frozen?_of_block (a := ⟨c, j, none⟩) (h.block c hc hne)
theorem Only.setCells (b : Nat) : ∀ (cs : List Value) (o : Nat) (w : World), Only b o cs.length w (w.setCells b o cs)
  | [], o, w => Only.refl _ _ _ _
  | v :: cs, o, w => by
    have h1 : Only b o (cs.length + 1) w (w.setCell ⟨b, o, none⟩ v) := Only.setCell o v (Nat.le_refl _) (by omega)
    have h2 := (Only.setCells b cs (o + 1) (w.setCell ⟨b, o, none⟩ v)).mono (o' := o) (n' := cs.length + 1) (by omega) (by omega)
    exact h1.trans h2
theorem Mem.only {w w' : World} {b o n b' o' : Nat} {vs : List Value} (h : Mem w b' o' vs) (hb : b' < w.heap.size) (k : Only b o n w w') (hd : b' ≠ b ∨ o' + vs.length ≤ o ∨ o + n ≤ o') : Mem w' b' o' vs := by
  intro i v hi
  obtain ⟨h0, h1⟩ := h i v hi
  have hl := (List.getElem?_eq_some_iff.1 hi).1
  by_cases e : b' = b
  · subst e
    exact ⟨(k.cell _ (by omega)).trans h0, (k.frozen _).trans h1⟩
  · exact ⟨(k.cell_far hb e).trans h0, (k.frozen_far hb e).trans h1⟩

/-! ### An address: twenty bytes -/
def lst (r : Nat → Int) : List Value := (List.range 20).map fun i => Value.int .u8 (r i)
theorem lst_length (r : Nat → Int) : (lst r).length = 20 := by simp [lst]
theorem lst_get (r : Nat → Int) (i : Nat) (h : i < 20) : (lst r)[i]? = some (.int .u8 (r i)) := by simp [lst, h]
theorem lst_one (r : Nat → Int) : ∀ v ∈ lst r, v.oneCell' = true := by
  intro v hv
  obtain ⟨i, _, rfl⟩ := List.mem_map.1 hv
  rfl
theorem lst_congr {r s : Nat → Int} (h : ∀ i, i < 20 → r i = s i) : lst r = lst s :=
  List.map_congr_left fun i hi => by rw [h i (by simpa using hi)]
theorem lst_inv {r s : Nat → Int} (h : lst r = lst s) (i : Nat) (hi : i < 20) : r i = s i := by
  have := lst_get r i hi
  rw [h, lst_get s i hi] at this
  simpa using this.symm

/-- 'L' is 'lst', but no tactic can lay it open. -/
def IsL (L : (Nat → Int) → List Value) : Prop := ∀ r, L r = lst r
theorem L_len {L : (Nat → Int) → List Value} (HL : IsL L) (r : Nat → Int) : (L r).length = 20 := by rw [HL]; exact lst_length r
theorem L_one {L : (Nat → Int) → List Value} (HL : IsL L) (r : Nat → Int) : ∀ v ∈ L r, v.oneCell' = true := by rw [HL]; exact lst_one r
theorem L_get {L : (Nat → Int) → List Value} (HL : IsL L) (r : Nat → Int) (i : Nat) (h : i < 20) : (L r)[i]? = some (.int .u8 (r i)) := by rw [HL]; exact lst_get r i h
theorem L_cell {L : (Nat → Int) → List Value} (HL : IsL L) {w : World} {b o : Nat} {r : Nat → Int} (h : Mem w b o (L r)) (i : Nat) (hi : i < 20) : w.cell? ⟨b, o + i, none⟩ = some (.int .u8 (r i)) ∧ w.frozen? ⟨b, o + i, none⟩ = false := h i _ (L_get HL r i hi)
theorem L_mk {L : (Nat → Int) → List Value} (HL : IsL L) {w : World} {b o : Nat} {r : Nat → Int} (h : ∀ i, i < 20 → w.cell? ⟨b, o + i, none⟩ = some (.int .u8 (r i)) ∧ w.frozen? ⟨b, o + i, none⟩ = false) : Mem w b o (L r) := by
  intro i v hv
  have hi := (List.getElem?_eq_some_iff.1 hv).1
  rw [L_len HL] at hi
  rw [L_get HL r i hi] at hv
  rw [← hv]
  exact h i hi
theorem L_lt {L : (Nat → Int) → List Value} (HL : IsL L) {w : World} {b o : Nat} {r : Nat → Int} (h : Mem w b o (L r)) : b < w.heap.size := h.lt (by rw [L_len HL]; omega)
theorem L_congr {L : (Nat → Int) → List Value} (HL : IsL L) {r s : Nat → Int} (h : ∀ i, i < 20 → r i = s i) : L r = L s := by rw [HL, HL]; exact lst_congr h

/-! ### The laws of loads, stores, allocs of whole rows -/
section
variable {ops : Array Oper} {rest : List Oper} {a : Act} {w : World} {Q : Exit → Act → World → Prop}
theorem D_load (t k : Nat) {n : Nat} (hT : TA t n) {x : Operand} {ty : TypeId} {pos : String} {after : Array Edge} (vs : List Value) (hn : vs.length = n) (b o : Nat) (hx : a.eval x = .pointer (some ⟨b, o, none⟩)) (hr : Mem w b o vs)
    (h : wpList Try.prog ops Q rest (a.put (some k) (.agg vs.toArray)) w) : wpList Try.prog ops Q ({ dst := some k, op := .load t x, type := ty, pos := pos, after := after, guard := none } :: rest) a w := by
  obtain ⟨⟨d, hd, hrow⟩, hs⟩ := hT
  exact wpList_load_mid rfl t x rfl b o hx vs d hr.range hd hrow (by rw [hn]; exact hs) h
theorem D_store (t k k' : Nat) {n : Nat} (hT : TA t n) {ty : TypeId} {pos : String} {after : Array Edge} (vs vs0 : List Value) (hn : vs.length = n) (hn0 : vs0.length = n) (h1 : ∀ v ∈ vs, v.oneCell' = true) (b o : Nat) (hx : a.eval (.tmp k) = .pointer (some ⟨b, o, none⟩)) (hy : a.eval (.tmp k') = .agg vs.toArray) (h0 : Mem w b o vs0)
    (h : ∀ w', Mem w' b o vs → Only b o n w w' → wpList Try.prog ops Q rest (a.put none undef) w') : wpList Try.prog ops Q ({ dst := none, op := .store t (.tmp k) (.tmp k'), type := ty, pos := pos, after := after, guard := none } :: rest) a w := by
  have e1 : vs.toArray.toList = vs := by simp
  have e2 : vs.toArray.size = n := by rw [List.size_toArray, hn]
  have ht : w.there b o n := hn0 ▸ h0.there
  refine wpList_store_mid rfl t (.tmp k) (.tmp k') rfl b o vs.toArray hx hy (by rw [e2]; exact ht) (by rw [e2]; exact hT.size) (all_oneCell_toArray h1) ?_
  rw [e1]
  have h3 := World.rangeAt_setCells_same w b o vs (by rw [hn]; exact ht)
  have h4 := Only.setCells b vs o w
  rw [hn] at h4
  exact h _ (Mem.mk h3 (by rw [hn]; exact World.there_setCells ht b o _)) h4
theorem D_alloc (t k : Nat) {ty : TypeId} {pos : String} {after : Array Edge} (vs : List Value) (hz : ∀ w, (zeroValue t).run Try.prog w = .ok (.agg vs.toArray) w)
    (h : wpList Try.prog ops Q rest (a.put (some k) (.pointer (some ⟨w.heap.size, 0, none⟩))) (w.alloc (.cells vs.toArray t))) : wpList Try.prog ops Q ({ dst := some k, op := .alloc t, type := ty, pos := pos, after := after, guard := none } :: rest) a w := by
  refine wpList_plain rfl fun K' hK' => ?_
  unfold Oper.wp
  simp only [execOp, Instr.alloc, Sem.run_bind, hz, Result.andThen_ok, newVar, newRow, Value.cells]
  exact hK' _ _ h
end
theorem L_zero {L : (Nat → Int) → List Value} (HL : IsL L) : (∀ w, (zeroValue 30).run Try.prog w = .ok (.agg (L fun _ => 0).toArray) w) ∧ ∀ w, (zeroValue 51).run Try.prog w = .ok (.agg (L fun _ => 0).toArray) w := by
  rw [HL]
  exact ⟨fun w => by kernel_rfl, fun w => by kernel_rfl⟩

/-- A result that lies in memory as a whole row. -/
theorem R_results {fn : Func} {t : TypeId} {n : Nat} (hT : TA t n) {p : Tmp} (h : fn.results = #[.cell p t]) (tmps : Array Value) (w : World) (b o : Nat) (vs : List Value) (hn : vs.length = n) (hp : tmps.getD p undef = .pointer (some ⟨b, o, none⟩)) (hr : Mem w b o vs) : (results fn tmps).run Try.prog w = .ok (.agg vs.toArray) w := by
  obtain ⟨⟨d, hd, hrow⟩, hs⟩ := hT
  have hl := run_loadVar_mid (P := Try.prog) w b o t vs d hr.range hd hrow (by rw [hn]; exact hs)
  have hp' : tmps[p]?.getD undef = .pointer (some ⟨b, o, none⟩) := by simpa using hp
  generalize vs.toArray = A at hl
  simp [results, h, hp', asAddr, hl]
end Go.Proofs.Qxb6609493a
