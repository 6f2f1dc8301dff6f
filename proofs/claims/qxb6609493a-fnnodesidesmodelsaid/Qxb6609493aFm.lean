import Derived.Test.Qxb6609493aSmall
namespace Go.Proofs.Qxb6609493a
open Go.RowKit

/-- The first of the least, among those that p takes, below k. -/
def fmin (p : Nat → Bool) (v : Nat → Int) : Nat → Option Nat
  | 0 => none
  | k + 1 => if p k = true then (match fmin p v k with | none => some k | some j => if v k < v j then some k else some j) else fmin p v k

theorem fmin_none {p : Nat → Bool} {v : Nat → Int} : ∀ {k : Nat}, fmin p v k = none → ∀ i, i < k → p i = false
  | 0, _, i, hi => by omega
  | k + 1, h, i, hi => by
    unfold fmin at h
    by_cases hp : p k = true
    · rw [if_pos hp] at h
      exfalso
      cases hf : fmin p v k with
      | none => rw [hf] at h; simp at h
      | some j => rw [hf] at h; simp only at h; split at h <;> simp at h
    · rw [if_neg hp] at h
      by_cases e : i = k
      · subst e; simpa using hp
      · exact fmin_none h i (by omega)
theorem fmin_some {p : Nat → Bool} {v : Nat → Int} : ∀ {k j : Nat}, fmin p v k = some j → j < k ∧ p j = true ∧ ∀ i, i < k → p i = true → v j ≤ v i
  | 0, j, h => by simp [fmin] at h
  | k + 1, j, h => by
    unfold fmin at h
    by_cases hp : p k = true
    · rw [if_pos hp] at h
      cases hf : fmin p v k with
      | none =>
        rw [hf] at h
        simp only [Option.some.injEq] at h
        subst h
        refine ⟨by omega, hp, fun i hi hpi => ?_⟩
        by_cases e : i = k
        · subst e; omega
        · have := fmin_none hf i (by omega); rw [this] at hpi; simp at hpi
      | some j0 =>
        rw [hf] at h
        obtain ⟨a, b, c⟩ := fmin_some hf
        simp only at h
        by_cases hl : v k < v j0
        · rw [if_pos hl, Option.some.injEq] at h
          subst h
          refine ⟨by omega, hp, fun i hi hpi => ?_⟩
          by_cases e : i = k
          · subst e; omega
          · have := c i (by omega) hpi; omega
        · rw [if_neg hl, Option.some.injEq] at h
          subst h
          refine ⟨by omega, b, fun i hi hpi => ?_⟩
          by_cases e : i = k
          · subst e; omega
          · exact c i (by omega) hpi
    · rw [if_neg hp] at h
      obtain ⟨a, b, c⟩ := fmin_some h
      refine ⟨by omega, b, fun i hi hpi => ?_⟩
      by_cases e : i = k
      · subst e; exact absurd hpi hp
      · exact c i (by omega) hpi
theorem fmin_congr {p p' : Nat → Bool} {v : Nat → Int} : ∀ k, (∀ i, i < k → p i = p' i) → fmin p v k = fmin p' v k
  | 0, _ => rfl
  | k + 1, h => by unfold fmin; rw [fmin_congr k fun i hi => h i (by omega), h k (by omega)]
theorem fmin_nil {p : Nat → Bool} {v : Nat → Int} : ∀ k, (∀ i, i < k → p i = false) → fmin p v k = none
  | 0, _ => rfl
  | k + 1, h => by unfold fmin; rw [if_neg (by rw [h k (by omega)]; simp)]; exact fmin_nil k fun i hi => h i (by omega)
theorem fmin_yes_none {p : Nat → Bool} {v : Nat → Int} {k : Nat} (hp : p k = true) (h : fmin p v k = none) : fmin p v (k + 1) = some k := by
  rw [fmin, if_pos hp, h]
theorem fmin_yes_lt {p : Nat → Bool} {v : Nat → Int} {k j : Nat} (hp : p k = true) (h : fmin p v k = some j) (hl : v k < v j) : fmin p v (k + 1) = some k := by
  rw [fmin, if_pos hp, h]; simp [hl]
theorem fmin_yes_ge {p : Nat → Bool} {v : Nat → Int} {k j : Nat} (hp : p k = true) (h : fmin p v k = some j) (hl : ¬ v k < v j) : fmin p v (k + 1) = some j := by
  rw [fmin, if_pos hp, h]; simp only [if_neg hl]
theorem fmin_no {p : Nat → Bool} {v : Nat → Int} {k : Nat} (hp : p k = false) : fmin p v (k + 1) = fmin p v k := by
  rw [fmin, if_neg (by rw [hp]; simp)]

/-- The second among those that lie above the first. -/
def above (el : Nat → Bool) (v : Nat → Int) (j : Nat) : Nat → Bool := fun i => el i && decide (v j < v i)

def Spec (el : Nat → Bool) (off : Nat → Nat → Int) (q : Nat → Nat) (k : Nat) (s : Nr) : Prop :=
  (fmin el (fun i => V (off i)) k = none ∧ s.n = 0) ∨
  ∃ j, fmin el (fun i => V (off i)) k = some j ∧ s.p 0 = .pointer (some ⟨q j, 0, none⟩) ∧ s.r 0 = off j ∧
    ((fmin (above el (fun i => V (off i)) j) (fun i => V (off i)) k = none ∧ s.n = 1) ∨
     ∃ j', fmin (above el (fun i => V (off i)) j) (fun i => V (off i)) k = some j' ∧ s.n = 2 ∧ s.p 1 = .pointer (some ⟨q j', 0, none⟩) ∧ s.r 1 = off j')

theorem run_spec {el : Nat → Bool} {off : Nat → Nat → Int} {q : Nat → Nat} : ∀ (k : Nat) (s : Nr), Run el off q k s → Spec el off q k s
  | 0, s, h => by
    have h : s = Nr.zero := h
    subst h
    exact .inl ⟨rfl, rfl⟩
  | k + 1, s', ⟨s, h, e⟩ => by
    have ih := run_spec k s h
    by_cases hc : el k = true
    · rw [if_pos hc] at e
      obtain ⟨t, ht, hlt, hge, hE⟩ := e
      rcases ih with ⟨f1, hn⟩ | ⟨j, f1, hp, hr, ih⟩
      · obtain rfl : t = 0 := by omega
        rcases hE with ⟨e | e, _⟩ | ⟨_, _, rfl⟩
        · omega
        · omega
        · refine .inr ⟨k, fmin_yes_none hc f1, by simp [insAt], by simp [insAt], .inl ⟨?_, by simp [insAt, hn]⟩⟩
          refine fmin_nil _ fun i hi => ?_
          unfold above
          by_cases c : i = k
          · subst c; simp
          · rw [fmin_none f1 i (by omega)]; rfl
      · have hn1 : 1 ≤ s.n := by rcases ih with ⟨_, h⟩ | ⟨_, _, h, _⟩ <;> omega
        have hr0 : V (s.r 0) = V (off j) := by rw [hr]
        obtain ⟨_, _, hmin⟩ := fmin_some f1
        rcases (by omega : V (off k) < V (off j) ∨ V (off k) = V (off j) ∨ V (off j) < V (off k)) with l | l | l
        · obtain rfl : t = 0 := by
            rcases (by omega : t = 0 ∨ 0 < t) with c | c
            · exact c
            · have := hlt 0 c; omega
          rcases hE with ⟨c | ⟨_, c⟩, _⟩ | ⟨_, _, rfl⟩
          · omega
          · omega
          · refine .inr ⟨k, fmin_yes_lt hc f1 l, by simp [insAt], by simp [insAt], .inr ⟨j, ?_, by simp [insAt]; omega, by simp [insAt, hn1, hp], by simp [insAt, hn1, hr]⟩⟩
            rw [fmin_no (by simp [above]), ← f1]
            refine fmin_congr k fun i hi => ?_
            unfold above
            cases hi2 : el i with
            | false => rfl
            | true =>
              have := hmin i hi hi2
              have : V (off k) < V (off i) := by omega
              simp [this]
        · obtain rfl : t = 0 := by
            rcases (by omega : t = 0 ∨ 0 < t) with c | c
            · exact c
            · have := hlt 0 c; omega
          rcases hE with ⟨_, rfl⟩ | ⟨_, c, _⟩
          · refine .inr ⟨j, fmin_yes_ge hc f1 (by omega), hp, hr, ?_⟩
            rw [fmin_no (p := above el (fun i => V (off i)) j) (by simp [above]; intro _; omega)]
            exact ih
          · exact absurd ⟨by omega, by omega⟩ c
        · have ht0 : 1 ≤ t := by
            rcases (by omega : t = 0 ∨ 0 < t) with c | c
            · subst c
              rcases hge with c | c
              · omega
              · omega
            · omega
          have hab : above el (fun i => V (off i)) j k = true := by simp [above, hc, l]
          have hf1 := fmin_yes_ge hc f1 (show ¬ V (off k) < V (off j) by omega)
          rcases ih with ⟨f2, hn⟩ | ⟨j', f2, hn, hp1, hr1⟩
          · obtain rfl : t = 1 := by omega
            rcases hE with ⟨c | ⟨c, _⟩, _⟩ | ⟨_, _, rfl⟩
            · omega
            · omega
            · exact .inr ⟨j, hf1, by simp [insAt, hp], by simp [insAt, hr], .inr ⟨k, fmin_yes_none hab f2, by simp [insAt, hn], by simp [insAt], by simp [insAt]⟩⟩
          · have hr1' : V (s.r 1) = V (off j') := by rw [hr1]
            rcases (by omega : V (off k) < V (off j') ∨ V (off k) = V (off j') ∨ V (off j') < V (off k)) with m | m | m
            · obtain rfl : t = 1 := by
                rcases (by omega : t = 1 ∨ t = 2) with c | c
                · exact c
                · have := hlt 1 (by omega); omega
              rcases hE with ⟨c | ⟨_, c⟩, _⟩ | ⟨_, _, rfl⟩
              · omega
              · omega
              · exact .inr ⟨j, hf1, by simp [insAt, hp], by simp [insAt, hr], .inr ⟨k, fmin_yes_lt hab f2 m, by simp [insAt, hn], by simp [insAt], by simp [insAt]⟩⟩
            · obtain rfl : t = 1 := by
                rcases (by omega : t = 1 ∨ t = 2) with c | c
                · exact c
                · have := hlt 1 (by omega); omega
              rcases hE with ⟨_, rfl⟩ | ⟨_, c, _⟩
              · exact .inr ⟨j, hf1, hp, hr, .inr ⟨j', fmin_yes_ge hab f2 (by omega), hn, hp1, hr1⟩⟩
              · exact absurd ⟨by omega, by omega⟩ c
            · obtain rfl : t = 2 := by
                rcases (by omega : t = 1 ∨ t = 2) with c | c
                · subst c
                  rcases hge with c | c
                  · omega
                  · omega
                · exact c
              rcases hE with ⟨_, rfl⟩ | ⟨c, _⟩
              · exact .inr ⟨j, hf1, hp, hr, .inr ⟨j', fmin_yes_ge hab f2 (by omega), hn, hp1, hr1⟩⟩
              · omega
    · rw [if_neg hc] at e
      subst e
      have hc' : el k = false := by simpa using hc
      rcases ih with ⟨f1, hn⟩ | ⟨j, f1, hp, hr, ih⟩
      · exact .inl ⟨by rw [fmin_no hc']; exact f1, hn⟩
      · refine .inr ⟨j, by rw [fmin_no hc']; exact f1, hp, hr, ?_⟩
        rw [fmin_no (p := above el (fun i => V (off i)) j) (by simp [above, hc'])]
        exact ih

/-! ### What the law's arguments lie like -/
structure Ins (w : World) (n : Nat) (aA kA sA : Option Addr) (ad : Nat → Nat → Int) (kn : Nat → Bool) (st : Nat → Int) : Prop where
  a : 0 < n → ∃ b o, aA = some ⟨b, o, none⟩ ∧ ∀ i, i < n → w.rangeAt b (o + i * 20) (lst (ad i))
  k : 0 < n → ∃ b o, kA = some ⟨b, o, none⟩ ∧ ∀ i, i < n → w.cell? ⟨b, o + i, none⟩ = some (.bool (kn i))
  s : 0 < n → ∃ b o, sA = some ⟨b, o, none⟩ ∧ ∀ i, i < n → w.cell? ⟨b, o + i, none⟩ = some (.int .u8 (st i))
theorem Ins.below {w w' : World} {n : Nat} {aA kA sA : Option Addr} {ad : Nat → Nat → Int} {kn : Nat → Bool} {st : Nat → Int} (h : Ins w n aA kA sA ad kn st) (e : Below w.heap.size w w') : Ins w' n aA kA sA ad kn st := by
  refine ⟨fun hn => ?_, fun hn => ?_, fun hn => ?_⟩
  · obtain ⟨b, o, h1, h2⟩ := h.a hn
    refine ⟨b, o, h1, fun i hi j v hv => ?_⟩
    have hc := h2 i hi j v hv
    exact (e.cell (p := ⟨b, o + i * 20 + j, none⟩) (World.block_lt_of_cell? w _ hc)).trans hc
  · obtain ⟨b, o, h1, h2⟩ := h.k hn
    refine ⟨b, o, h1, fun i hi => ?_⟩
    have hc := h2 i hi
    exact (e.cell (p := ⟨b, o + i, none⟩) (World.block_lt_of_cell? w _ hc)).trans hc
  · obtain ⟨b, o, h1, h2⟩ := h.s hn
    refine ⟨b, o, h1, fun i hi => ?_⟩
    have hc := h2 i hi
    exact (e.cell (p := ⟨b, o + i, none⟩) (World.block_lt_of_cell? w _ hc)).trans hc

section
variable {ops : Array Oper} {rest : List Oper} {a : Act} {w : World} {Q : Exit → Act → World → Prop} {S : World → Prop} {fuel : Nat} {listed : Array Bool}
/-- A guarded load of a whole row, the guard saying yes. -/
theorem G_load (t k : Nat) {n : Nat} (hT : TA t n) {g : Nat × Bool} {x : Operand} {ty : TypeId} {pos : String} {after : Array Edge} (vs : List Value) (hn : vs.length = n) (b o : Nat)
    (hw : Region.wanted { dst := some k, op := .load t x, type := ty, pos := pos, after := after, guard := some g } (yielded ops a.tmps) = true) (hx : a.eval x = .pointer (some ⟨b, o, none⟩)) (hr : Mem w b o vs)
    (h : wpList Try.prog ops Q rest (a.put (some k) (.agg vs.toArray)) w) : wpList Try.prog ops Q ({ dst := some k, op := .load t x, type := ty, pos := pos, after := after, guard := some g } :: rest) a w := by
  obtain ⟨⟨d, hd, hrow⟩, hs⟩ := hT
  refine wpList_step fun K hK => ?_
  rw [if_pos hw]
  exact wp_load_mid t x rfl b o hx vs d hr.range hd hrow (by rw [hn]; exact hs) (hK _ _ h)
/-- A load of a row that came in, in a drawn region. -/
theorem H_loadR (t i k : Nat) {n : Nat} (hT : TA t n) {x : Operand} {ty : TypeId} {pos : String} {after : Array Edge} {g : Option (Nat × Bool)} (vs : List Value) (hn : vs.length = n) (b o : Nat)
    (hi : ops[i]? = some { dst := some k, op := .load t x, type := ty, pos := pos, after := after, guard := g }) (hs : Region.noSelect ops = true) (hf : Region.free .any ops listed i = true) (hr : (Region.ready .any ops listed).contains i = true)
    (hQ : ∀ c a w, Q (.panic c) (a.put (some k) (.agg vs.toArray)) w → Q (.panic c) a w) (hw : Region.wanted { dst := some k, op := .load t x, type := ty, pos := pos, after := after, guard := g } (yielded ops a.tmps) = true)
    (hx : a.eval x = .pointer (some ⟨b, o, none⟩)) (hR : ∀ w, S w → w.rangeAt b o vs) (hS : S w)
    (h : wpAnyH Try.prog .any ops Q S fuel (listed.setIfInBounds i true) (a.put (some k) (.agg vs.toArray)) w) : wpAnyH Try.prog .any ops Q S (fuel + 1) listed a w := by
  obtain ⟨⟨d, hd, hrow⟩, hsz⟩ := hT
  exact wpAnyH_take hi hs hf hr hQ (yieldsIf_load_mid hw t x rfl b o hx vs d hR hd hrow (by rw [hn]; exact hsz)) hS h
end
end Go.Proofs.Qxb6609493a
