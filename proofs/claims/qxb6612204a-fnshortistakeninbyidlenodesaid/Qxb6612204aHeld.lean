import Derived.Test.Qxb6612204aReach4
import Derived.Deep.RegionHeld3
import Derived.LaidEqlPtr
namespace Go.Proofs.Qxb6612204a
open Go.RowKit

section
variable {ops : Array Oper} {Q : Exit → Act → World → Prop} {S : World → Prop} {fuel : Nat} {listed : Array Bool} {a : Act} {w : World}

/-- Any operation that yields its value in every world that meets S is taken first. -/
theorem H_take (i k : Nat) {oi : Oper} (v : Value) (hi : ops[i]? = some oi) (hk : oi.dst = some k) (hs : Region.noSelect ops = true) (hf : Region.free .any ops listed i = true) (hr : (Region.ready .any ops listed).contains i = true)
    (hQ : ∀ c a w, Q (.panic c) (a.put (some k) v) w → Q (.panic c) a w) (hw : Region.wanted oi (yielded ops a.tmps) = true) (hy : ∀ w, S w → (execOp a.eval oi).run Try.prog w = .ok (.value v) w) (hS : S w)
    (h : wpAnyH Try.prog .any ops Q S fuel (listed.setIfInBounds i true) (a.put (some k) v) w) : wpAnyH Try.prog .any ops Q S (fuel + 1) listed a w := by
  rw [← hk] at hQ h
  exact wpAnyH_take hi hs hf hr hQ (.inl ⟨hw, hy⟩) hS h

/-- One whose guard says no. -/
theorem H_skip (i k : Nat) {oi : Oper} (hi : ops[i]? = some oi) (hk : oi.dst = some k) (hs : Region.noSelect ops = true) (hf : Region.free .any ops listed i = true) (hr : (Region.ready .any ops listed).contains i = true)
    (hQ : ∀ c a w, Q (.panic c) (a.put (some k) undef) w → Q (.panic c) a w) (hw : Region.wanted oi (yielded ops a.tmps) = false) (hS : S w)
    (h : wpAnyH Try.prog .any ops Q S fuel (listed.setIfInBounds i true) (a.put (some k) undef) w) : wpAnyH Try.prog .any ops Q S (fuel + 1) listed a w := by
  rw [← hk] at hQ h
  exact wpAnyH_take hi hs hf hr hQ (.inr ⟨hw, rfl⟩) hS h

theorem H_load (i k : Nat) {x : Operand} {ty : TypeId} {pos : String} {after : Array Edge} {g : Option (Nat × Bool)} {L : (Nat → Int) → List Value} (HL : IsL L) (b o : Nat) (r : Nat → Int)
    (hi : ops[i]? = some { dst := some k, op := .load 22 x, type := ty, pos := pos, after := after, guard := g }) (hs : Region.noSelect ops = true) (hf : Region.free .any ops listed i = true) (hr : (Region.ready .any ops listed).contains i = true)
    (hQ : ∀ c a w, Q (.panic c) (a.put (some k) (.agg (L r).toArray)) w → Q (.panic c) a w) (hw : Region.wanted { dst := some k, op := .load 22 x, type := ty, pos := pos, after := after, guard := g } (yielded ops a.tmps) = true)
    (hx : a.eval x = .pointer (some ⟨b, o, none⟩)) (hR : ∀ w, S w → Regs w b o r) (hS : S w)
    (h : wpAnyH Try.prog .any ops Q S fuel (listed.setIfInBounds i true) (a.put (some k) (.agg (L r).toArray)) w) : wpAnyH Try.prog .any ops Q S (fuel + 1) listed a w := by
  have e : (.agg (L r).toArray : Value) = .agg (lst r).toArray := by rw [HL r]
  rw [e] at hQ h
  exact wpAnyH_take hi hs hf hr hQ (yieldsIf_load_mid hw 22 x rfl b o hx (lst r) (.array 1024 5) (fun w hw' => (hR w hw').range) Try.underlying22 rfl (by rw [lst_length]; exact info22)) hS h

/-- A load of two numbers. -/
theorem H_load2 (i k : Nat) {x : Operand} {ty : TypeId} {pos : String} {after : Array Edge} {g : Option (Nat × Bool)} (b o : Nat) (u v : Value)
    (hi : ops[i]? = some { dst := some k, op := .load 24 x, type := ty, pos := pos, after := after, guard := g }) (hs : Region.noSelect ops = true) (hf : Region.free .any ops listed i = true) (hr : (Region.ready .any ops listed).contains i = true)
    (hQ : ∀ c a w, Q (.panic c) (a.put (some k) (.agg #[u, v])) w → Q (.panic c) a w) (hw : Region.wanted { dst := some k, op := .load 24 x, type := ty, pos := pos, after := after, guard := g } (yielded ops a.tmps) = true)
    (hx : a.eval x = .pointer (some ⟨b, o, none⟩)) (hR : ∀ w, S w → w.cell? ⟨b, o, none⟩ = some u ∧ w.cell? ⟨b, o + 1, none⟩ = some v) (hS : S w)
    (h : wpAnyH Try.prog .any ops Q S fuel (listed.setIfInBounds i true) (a.put (some k) (.agg #[u, v])) w) : wpAnyH Try.prog .any ops Q S (fuel + 1) listed a w := by
  have := yieldsIf_load_mid (P := Try.prog) (ops := ops) (S := S) hw 24 x rfl b o hx [u, v] (.array 2 23) (fun w hw' j c hc => by
    obtain ⟨h0, h1⟩ := hR w hw'
    match j, hc with
    | 0, hc => simp at hc; subst hc; exact h0
    | 1, hc => simp at hc; subst hc; exact h1
    | j + 2, hc => simp at hc) Try.underlying24 rfl (by kernel_rfl)
  exact wpAnyH_take hi hs hf hr hQ this hS h

theorem H_move (i k : Nat) (v : Value) {x : Operand} {ty : TypeId} {pos : String} {after : Array Edge} {g : Option (Nat × Bool)}
    (hi : ops[i]? = some { dst := some k, op := .move x, type := ty, pos := pos, after := after, guard := g }) (hs : Region.noSelect ops = true) (hf : Region.free .any ops listed i = true) (hr : (Region.ready .any ops listed).contains i = true)
    (hQ : ∀ c a' w, Q (.panic c) (a'.put (some k) v) w → Q (.panic c) a' w) (hw : Region.wanted { dst := some k, op := .move x, type := ty, pos := pos, after := after, guard := g } (yielded ops a.tmps) = true) (hv : a.eval x = v) (hS : S w)
    (h : wpAnyH Try.prog .any ops Q S fuel (listed.setIfInBounds i true) (a.put (some k) v) w) : wpAnyH Try.prog .any ops Q S (fuel + 1) listed a w :=
  wpAnyH_take hi hs hf hr hQ (.inl ⟨hw, fun _ _ => by subst hv; rfl⟩) hS h

theorem H_assign (i k : Nat) (v : Value) {x : Operand} {ty : TypeId} {pos : String} {after : Array Edge} {g : Option (Nat × Bool)}
    (hi : ops[i]? = some { dst := some k, op := .assign x, type := ty, pos := pos, after := after, guard := g }) (hs : Region.noSelect ops = true) (hf : Region.free .any ops listed i = true) (hr : (Region.ready .any ops listed).contains i = true)
    (hQ : ∀ c a' w, Q (.panic c) (a'.put (some k) v) w → Q (.panic c) a' w) (hw : Region.wanted { dst := some k, op := .assign x, type := ty, pos := pos, after := after, guard := g } (yielded ops a.tmps) = true) (hv : a.eval x = v) (hS : S w)
    (h : wpAnyH Try.prog .any ops Q S fuel (listed.setIfInBounds i true) (a.put (some k) v) w) : wpAnyH Try.prog .any ops Q S (fuel + 1) listed a w :=
  wpAnyH_take hi hs hf hr hQ (.inl ⟨hw, fun _ _ => by subst hv; rfl⟩) hS h

end

theorem neq47 (a : Addr) (w : World) : (binOp .neq 47 (.pointer (some a)) (.pointer (some a))).run Try.prog w = .ok (.bool false) w := by
  obtain ⟨j, hj⟩ : ∃ j, Try.prog.info? 57 = some j := Option.isSome_iff_exists.1 (by kernel_rfl)
  have hp : Try.prog.underlying 47 = some (.pointer 57) := by kernel_rfl
  have h : ∀ d : Nat, (Op.equalIn (d + 1) 47 (.pointer (some a)) (.pointer (some a))).run Try.prog w = .ok true w := fun d => by
    simp [Op.equalIn, run_underlying hp, sizeOf, typeInfo, hj, run_sameAddr_same]
  simp only [binOp]
  simp [Op.equal, Op.maxDepth, h 9999]
end Go.Proofs.Qxb6612204a
