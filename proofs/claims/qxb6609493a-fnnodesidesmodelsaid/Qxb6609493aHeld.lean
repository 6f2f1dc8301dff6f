import Derived.Test.Qxb6609493aBase
namespace Go.Proofs.Qxb6609493a
open Go.RowKit

section
variable {ops : Array Oper} {Q : Exit → Act → World → Prop} {S : World → Prop} {fuel : Nat} {listed : Array Bool} {a : Act} {w : World}

/-- Any operation that yields its value in every world that meets S is taken first. -/
theorem H_take (i k : Nat) {oi : Oper} (v : Value) (hi : ops[i]? = some oi) (hk : oi.dst = some k) (hs : Region.noSelect ops = true) (hf : Region.free .any ops listed i = true) (hr : (Region.ready .any ops listed).contains i = true)
    (hQ : ∀ c a w, Q (.panic c) (a.put (some k) v) w → Q (.panic c) a w) (hw : Region.wanted oi (yielded ops a.tmps) = true) (hy : ∀ w, S w → (execOp a.eval oi).run Try.prog w = .ok (.value v) w) (hS : S w)
    (h : wpAnyH Try.prog .any ops Q S fuel (listed.setIfInBounds i true) (a.put (some k) v) w) : wpAnyH Try.prog .any ops Q S (fuel + 1) listed a w := by
  rw [← hk] at hQ h
  exact wpAnyH_take hi hs hf hr hQ (.inl ⟨hw, hy⟩) hS h

/-- One whose guard says no. -/
theorem H_skip (i k : Nat) {oi : Oper} (hi : ops[i]? = some oi) (hk : oi.dst = some k) (hs : Region.noSelect ops = true) (hf : Region.free .any ops listed i = true) (hr : (Region.ready .any ops listed).contains i = true)
    (hQ : ∀ c a w, Q (.panic c) (a.put (some k) undef) w → Q (.panic c) a w) (hw : Region.wanted oi (yielded ops a.tmps) = false) (hS : S w)
    (h : wpAnyH Try.prog .any ops Q S fuel (listed.setIfInBounds i true) (a.put (some k) undef) w) : wpAnyH Try.prog .any ops Q S (fuel + 1) listed a w := by
  rw [← hk] at hQ h
  exact wpAnyH_take hi hs hf hr hQ (.inr ⟨hw, rfl⟩) hS h

theorem H_load (t i k : Nat) {n : Nat} (hT : TA t n) {x : Operand} {ty : TypeId} {pos : String} {after : Array Edge} {g : Option (Nat × Bool)} (vs : List Value) (hn : vs.length = n) (b o : Nat)
    (hi : ops[i]? = some { dst := some k, op := .load t x, type := ty, pos := pos, after := after, guard := g }) (hs : Region.noSelect ops = true) (hf : Region.free .any ops listed i = true) (hr : (Region.ready .any ops listed).contains i = true)
    (hQ : ∀ c a w, Q (.panic c) (a.put (some k) (.agg vs.toArray)) w → Q (.panic c) a w) (hw : Region.wanted { dst := some k, op := .load t x, type := ty, pos := pos, after := after, guard := g } (yielded ops a.tmps) = true)
    (hx : a.eval x = .pointer (some ⟨b, o, none⟩)) (hR : ∀ w, S w → Mem w b o vs) (hS : S w)
    (h : wpAnyH Try.prog .any ops Q S fuel (listed.setIfInBounds i true) (a.put (some k) (.agg vs.toArray)) w) : wpAnyH Try.prog .any ops Q S (fuel + 1) listed a w := by
  obtain ⟨⟨d, hd, hrow⟩, hsz⟩ := hT
  exact wpAnyH_take hi hs hf hr hQ (yieldsIf_load_mid hw t x rfl b o hx vs d (fun w hw' => (hR w hw').range) hd hrow (by rw [hn]; exact hsz)) hS h

theorem H_move (i k : Nat) (v : Value) {x : Operand} {ty : TypeId} {pos : String} {after : Array Edge} {g : Option (Nat × Bool)}
    (hi : ops[i]? = some { dst := some k, op := .move x, type := ty, pos := pos, after := after, guard := g }) (hs : Region.noSelect ops = true) (hf : Region.free .any ops listed i = true) (hr : (Region.ready .any ops listed).contains i = true)
    (hQ : ∀ c a' w, Q (.panic c) (a'.put (some k) v) w → Q (.panic c) a' w) (hw : Region.wanted { dst := some k, op := .move x, type := ty, pos := pos, after := after, guard := g } (yielded ops a.tmps) = true) (hv : a.eval x = v) (hS : S w)
    (h : wpAnyH Try.prog .any ops Q S fuel (listed.setIfInBounds i true) (a.put (some k) v) w) : wpAnyH Try.prog .any ops Q S (fuel + 1) listed a w :=
  wpAnyH_take hi hs hf hr hQ (.inl ⟨hw, fun _ _ => by subst hv; rfl⟩) hS h

theorem H_assign (i k : Nat) (v : Value) {x : Operand} {ty : TypeId} {pos : String} {after : Array Edge} {g : Option (Nat × Bool)}
    (hi : ops[i]? = some { dst := some k, op := .assign x, type := ty, pos := pos, after := after, guard := g }) (hs : Region.noSelect ops = true) (hf : Region.free .any ops listed i = true) (hr : (Region.ready .any ops listed).contains i = true)
    (hQ : ∀ c a' w, Q (.panic c) (a'.put (some k) v) w → Q (.panic c) a' w) (hw : Region.wanted { dst := some k, op := .assign x, type := ty, pos := pos, after := after, guard := g } (yielded ops a.tmps) = true) (hv : a.eval x = v) (hS : S w)
    (h : wpAnyH Try.prog .any ops Q S fuel (listed.setIfInBounds i true) (a.put (some k) v) w) : wpAnyH Try.prog .any ops Q S (fuel + 1) listed a w :=
  wpAnyH_take hi hs hf hr hQ (.inl ⟨hw, fun _ _ => by subst hv; rfl⟩) hS h

/-- A pointer to a field. -/
theorem H_one (i k : Nat) {oi : Oper} (v : Value) (hi : ops[i]? = some oi) (hk : oi.dst = some k) (hs : Region.noSelect ops = true) (hf : Region.free .any ops listed i = true) (hr : (Region.ready .any ops listed).contains i = true)
    (hQ : ∀ c a w, Q (.panic c) (a.put (some k) v) w → Q (.panic c) a w) (hw : Region.wanted oi (yielded ops a.tmps) = true) (hy : ∀ w, (execOp a.eval oi).run Try.prog w = .ok (.value v) w) (hS : S w)
    (h : wpAnyH Try.prog .any ops Q S fuel (listed.setIfInBounds i true) (a.put (some k) v) w) : wpAnyH Try.prog .any ops Q S (fuel + 1) listed a w :=
  H_take i k v hi hk hs hf hr hQ hw (fun w _ => hy w) hS h

variable {K : Act → World → Prop}
/-- A store of a whole row, at its step. -/
theorem S_store (t k k' : Nat) {n : Nat} (hT : TA t n) {ty : TypeId} {pos : String} {after : Array Edge} {g : Option (Nat × Bool)} (vs vs0 : List Value) (hn : vs.length = n) (hn0 : vs0.length = n) (h1 : ∀ v ∈ vs, v.oneCell' = true) (b o : Nat) (hx : a.eval (.tmp k) = .pointer (some ⟨b, o, none⟩)) (hy : a.eval (.tmp k') = .agg vs.toArray) (h0 : Mem w b o vs0)
    (h : ∀ w', Mem w' b o vs → Only b o n w w' → K (a.put none undef) w') : Oper.wp Try.prog { dst := none, op := .store t (.tmp k) (.tmp k'), type := ty, pos := pos, after := after, guard := g } a w K Q := by
  have e1 : vs.toArray.toList = vs := by simp
  have e2 : vs.toArray.size = n := by rw [List.size_toArray, hn]
  have ht : w.there b o n := hn0 ▸ h0.there
  refine wp_store_mid t (.tmp k) (.tmp k') rfl b o vs.toArray hx hy (by rw [e2]; exact ht) (by rw [e2]; exact hT.size) (all_oneCell_toArray h1) ?_
  rw [e1]
  have h3 := World.rangeAt_setCells_same w b o vs (by rw [hn]; exact ht)
  have h4 := Only.setCells b vs o w
  rw [hn] at h4
  exact h _ (Mem.mk h3 (by rw [hn]; exact World.there_setCells ht b o _)) h4
/-- An alloc of a whole row, at its step. -/
theorem S_alloc (t k : Nat) {ty : TypeId} {pos : String} {after : Array Edge} {g : Option (Nat × Bool)} (vs : List Value) (hz : ∀ w, (zeroValue t).run Try.prog w = .ok (.agg vs.toArray) w)
    (h : K (a.put (some k) (.pointer (some ⟨w.heap.size, 0, none⟩))) (w.alloc (.cells vs.toArray t))) : Oper.wp Try.prog { dst := some k, op := .alloc t, type := ty, pos := pos, after := after, guard := g } a w K Q := by
  unfold Oper.wp
  simp only [execOp, Instr.alloc, Sem.run_bind, hz, Result.andThen_ok, newVar, newRow, Value.cells]
  exact h
end
end Go.Proofs.Qxb6609493a
