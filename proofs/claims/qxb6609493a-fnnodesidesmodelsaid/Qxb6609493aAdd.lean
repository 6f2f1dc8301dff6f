import Derived.Test.Qxb6609493aNode
namespace Go.Proofs.Qxb6609493a
open Go.RowKit

theorem cells_slice (a : Option Addr) (n c : Nat) : (Value.slice a n c).cells = #[.slice a n c] := rfl
theorem one_slice (a : Option Addr) (n c : Nat) : (Value.slice a n c).oneCell' = true := rfl

theorem exec_build64 {L : (Nat → Int) → List Value} (HL : IsL L) (a : Act) {oi : Oper} (x2 x3 x4 x5 : Operand) (i : Int) (r : Nat → Int) (k : Bool) (s : Int) (ho : oi.op = .build 64 #[(2, x2), (3, x3), (4, x4), (5, x5)]) (h2 : a.eval x2 = .int .u64 i) (h3 : a.eval x3 = .agg (L r).toArray) (h4 : a.eval x4 = .bool k) (h5 : a.eval x5 = .int .i64 s) (w : World) :
    (execOp a.eval oi).run Try.prog w = .ok (.value (.agg (linkL L i r k s).toArray)) w := by
  have e : (#[(2, x2), (3, x3), (4, x4), (5, x5)] : Array (Nat × Operand)).map (fun (i, x) => (i, a.eval x)) = #[(2, .int .u64 i), (3, .agg (L r).toArray), (4, .bool k), (5, .int .i64 s)] := by simp [h2, h3, h4, h5]
  unfold execOp
  simp only [ho, e, run_build64 HL, Sem.run_bind, Result.andThen_ok, Sem.run_pure]

section
variable {a : Act} {w : World} {Q : Exit → Act → World → Prop} {K : Act → World → Prop}
/-- A load of a whole row, at its step. -/
theorem S_ld (t k : Nat) {n : Nat} (hT : TA t n) {x : Operand} {ty : TypeId} {pos : String} {after : Array Edge} {g : Option (Nat × Bool)} (vs : List Value) (hn : vs.length = n) (b o : Nat) (hx : a.eval x = .pointer (some ⟨b, o, none⟩)) (hr : Mem w b o vs)
    (h : K (a.put (some k) (.agg vs.toArray)) w) : Oper.wp Try.prog { dst := some k, op := .load t x, type := ty, pos := pos, after := after, guard := g } a w K Q := by
  obtain ⟨⟨d, hd, hrow⟩, hs⟩ := hT
  exact wp_load_mid t x rfl b o hx vs d hr.range hd hrow (by rw [hn]; exact hs) h
theorem run_bslice (v : Addr) (w : World) : (Instr.buildSlice 70 1 #[(0, .pointer (some v))]).run Try.prog w = .ok (.slice (some ⟨w.heap.size, 0, none⟩) 1 1) (w.alloc (.cells ([.pointer (some v)] : List Value).toArray 49)) := by
  kernel_rfl
theorem S_bslice (k : Nat) {x : Operand} {ty : TypeId} {pos : String} {after : Array Edge} {g : Option (Nat × Bool)} (v : Addr) (hx : a.eval x = .pointer (some v))
    (h : ∀ p w', w.heap.size ≤ p → p < w'.heap.size → Mem w' p 0 [.pointer (some v)] → Below w.heap.size w w' → K (a.put (some k) (.slice (some ⟨p, 0, none⟩) 1 1)) w') : Oper.wp Try.prog { dst := some k, op := .buildSlice 70 1 #[(0, x)], type := ty, pos := pos, after := after, guard := g } a w K Q := by
  have hN := new_block (w := w) (p := w.heap.size) 49 ([.pointer (some v)] : List Value) rfl
  have e : (#[(0, x)] : Array (Nat × Operand)).map (fun (i, x) => (i, a.eval x)) = #[(0, .pointer (some v))] := by simp [hx]
  unfold Oper.wp
  simp only [execOp, e, run_bslice, Sem.run_bind, Result.andThen_ok, Sem.run_pure]
  exact h w.heap.size (w.alloc (.cells ([.pointer (some v)] : List Value).toArray 49)) (Nat.le_refl _) hN.1 hN.2.1 hN.2.2
theorem info49 : (Try.prog.info? 49).map (fun i => (i.zero, i.size, i.bytes)) = some (some (.pointer none), 1, 8) := by kernel_rfl
theorem S_append (k : Nat) {s x : Operand} {ty : TypeId} {pos : String} {after : Array Edge} {gd : Option (Nat × Bool)} (B n : Nat) (la : Option Addr) (lc : Nat) (q : Nat → Nat) (hs : a.eval s = .slice la n lc) (hown : w.ownsRow B 49 1 (.slice la n lc) n (ptrs q n)) (p : Nat) (hx : a.eval x = .slice (some ⟨p, 0, none⟩) 1 1) (v : Value) (hm : Mem w p 0 [v]) (hv : v.oneCell' = true) (hn : n ≤ 20000) (hB : B ≤ w.heap.size)
    (h : ∀ g cap w', w'.ownsRow B 49 1 (.slice (some ⟨g, 0, none⟩) (n + 1) cap) (n + 1) (ptrs q n ++ [v]) → w.grownBy w' (Value.slice la n lc).ownBlock → ((Value.slice la n lc).ownBlock = some g ∨ g = w.heap.size) → g < w'.heap.size → K (a.put (some k) (.slice (some ⟨g, 0, none⟩) (n + 1) cap)) w') :
    Oper.wp Try.prog { dst := some k, op := .call { callee := .builtin .append, args := #[s, x], argTypes := #[70, 70] }, type := ty, pos := pos, after := after, guard := gd } a w K Q := by
  have hI := info49
  obtain ⟨i, hi, hz⟩ : ∃ i, Try.prog.info? 49 = some i ∧ (i.zero, i.size, i.bytes) = (some (.pointer none), 1, 8) := Option.map_eq_some_iff.1 hI
  simp only [Prod.mk.injEq] at hz
  have hml : maxLen = 9223372036854775807 := rfl
  exact wp_append_lies w s x 70 rfl B 49 i (.pointer none) 1 8 Try.underlying70 hi hz.1 hz.2.1 hz.2.2 rfl (by omega) (.slice la n lc) n (ptrs q n) hs hown ⟨p, 0, none⟩ 1 1 [v] hx rfl (fun j u hj => by rw [Addr.add_mid]; exact (hm j u hj).1) (by simpa using hv) (by omega) (by omega) (by omega) hB w.heap.size rfl h
/-- A drawn region in the midst of a body, over whatever the orders leave open. -/
theorem cutG {α : Type} {c : Code} (f : Act → α → Act) (R : α → World → Prop) (h1 : c.wp Try.prog (fun e a' w' => ∃ x, e = .normal ∧ a' = f a x ∧ R x w') a w) (h2 : ∀ x w', R x w' → Q .normal (f a x) w') : c.wp Try.prog Q a w :=
  Code.wp_mono (fun _ _ _ ⟨x, he, ha, hR⟩ => by subst he; subst ha; exact h2 x _ hR) h1
end

/-- All that a call of AddLink knows. -/
structure Tot (L : (Nat → Int) → List Value) (w0 : World) (B N : Nat) (sf : Nat → Int) (la : Option Addr) (n lc : Nat) (q : Nat → Nat) (ad : Nat → Nat → Int) (kn : Nat → Bool) (st : Nat → Int) (p5 : Nat) (r : Nat → Int) (w : World) : Prop where
  bel : Below B w0 w
  hB : B ≤ w.heap.size
  hN : B ≤ N
  node : NodeM L w N sf (.slice la n lc)
  links : Links L w B N (.slice la n lc) n q ad kn st
  m5 : Mem w p5 0 (L r)
  l5 : p5 < w.heap.size
section
variable {L : (Nat → Int) → List Value} {w0 w w' : World} {B N : Nat} {sf : Nat → Int} {la : Option Addr} {n lc : Nat} {q : Nat → Nat} {ad : Nat → Nat → Int} {kn : Nat → Bool} {st : Nat → Int} {p5 : Nat} {r : Nat → Int}
theorem Tot.below (h : Tot L w0 B N sf la n lc q ad kn st p5 r w) (k : Below w.heap.size w w') : Tot L w0 B N sf la n lc q ad kn st p5 r w' :=
  ⟨⟨k.os.trans h.bel.os, k.tape.trans h.bel.tape, k.output.trans h.bel.output, Nat.le_trans h.bel.size k.size, fun i hi => (k.block i (Nat.lt_of_lt_of_le hi h.hB)).trans (h.bel.block i hi)⟩, Nat.le_trans h.hB k.size, h.hN, h.node.below k h.node.lt, h.links.below k, h.m5.below k h.l5, Nat.lt_of_lt_of_le h.l5 k.size⟩
theorem Tot.fresh (h : Tot L w0 B N sf la n lc q ad kn st p5 r w) {p : Nat} (hp : w.heap.size ≤ p) : p ≠ N ∧ some p ≠ (Value.slice la n lc).ownBlock ∧ B ≤ p := by
  refine ⟨by have := h.node.lt; omega, fun e => ?_, Nat.le_trans h.hB hp⟩
  have := (h.links.own.lt p e.symm).2
  omega
/-- Behind the append, ahead of the store. -/
structure Tot1 (L : (Nat → Int) → List Value) (w0 : World) (B N : Nat) (sf : Nat → Int) (la : Option Addr) (n lc g cap : Nat) (q : Nat → Nat) (ad : Nat → Nat → Int) (kn : Nat → Bool) (st : Nat → Int) (w : World) : Prop where
  bel : Below B w0 w
  hB : B ≤ w.heap.size
  hN : B ≤ N
  node : NodeM L w N sf (.slice la n lc)
  links : Links L w B N (.slice (some ⟨g, 0, none⟩) (n + 1) cap) (n + 1) q ad kn st
theorem Tot.append {p23 g cap : Nat} {k : Bool} {s : Int} (HL : IsL L) (h : Tot L w0 B N sf la n lc q ad kn st p5 r w) (own : w'.ownsRow B 49 1 (.slice (some ⟨g, 0, none⟩) (n + 1) cap) (n + 1) (ptrs q n ++ [.pointer (some ⟨p23, 0, none⟩)])) (grow : w.grownBy w' (Value.slice la n lc).ownBlock)
    (hg : (Value.slice la n lc).ownBlock = some g ∨ g = w.heap.size) (_lg : g < w'.heap.size) (e23 : p23 ≠ N ∧ some p23 ≠ (Value.slice la n lc).ownBlock ∧ B ≤ p23) (l23 : p23 < w.heap.size) (m23 : Mem w p23 0 (linkL L n r k s)) (er : r = ad n) (ek : k = kn n) (es : s = st n) :
    Tot1 L w0 B N sf la n lc g cap (upd q n p23) ad kn st w' := by
  have hb : ∀ b, b < w.heap.size → some b ≠ (Value.slice la n lc).ownBlock → w'.heap[b]? = w.heap[b]? := fun b h1 h2 => grow.block b h1 h2
  have hNl := h.node.lt
  have hNo : some N ≠ (Value.slice la n lc).ownBlock := fun e => h.links.far e.symm
  have hO : Below B w0 w' := ⟨grow.os.trans h.bel.os, grow.tape.trans h.bel.tape, grow.output.trans h.bel.output, Nat.le_trans h.bel.size grow.size, fun i hi => (hb i (Nat.lt_of_lt_of_le hi h.hB) (fun e => by have := (h.links.own.lt i e.symm).1; omega)).trans (h.bel.block i hi)⟩
  have hNc : ∀ j, w'.cell? ⟨N, j, none⟩ = w.cell? ⟨N, j, none⟩ := fun j => World.cell?_of_block (a := ⟨N, j, none⟩) (hb N hNl hNo)
  have hNf : ∀ j, w'.frozen? ⟨N, j, none⟩ = w.frozen? ⟨N, j, none⟩ := fun j => World.frozen?_of_block (a := ⟨N, j, none⟩) (hb N hNl hNo)
  have hM : ∀ o vs, Mem w N o vs → Mem w' N o vs := fun o vs hm i v hv => ⟨(hNc _).trans (hm i v hv).1, (hNf _).trans (hm i v hv).2⟩
  have hgN : g ≠ N := by
    rcases hg with e | e
    · intro c; subst c; exact h.links.far e
    · omega
  refine ⟨hO, Nat.le_trans h.hB grow.size, h.hN, ⟨hM _ _ h.node.slf, (hNc _).trans h.node.lk, hM _ _ h.node.z, (hNc _).trans h.node.fd, fun j => (hNf j).trans (h.node.fr j)⟩, ⟨?_, ?_, fun i hi => ?_, fun i hi => ?_⟩⟩
  · rw [ptrs_succ, show ptrs (upd q n p23) n = ptrs q n from ptrs_congr n fun i hi => by unfold upd; rw [if_neg (by omega)], show upd q n p23 n = p23 from by simp [upd]]
    exact own
  · simpa [Value.ownBlock] using hgN
  · by_cases e : i = n
    · subst e
      rw [show upd q i p23 i = p23 from by simp [upd], ← er, ← ek, ← es]
      exact (LinkAt.of_mem HL m23).same (hb p23 l23 e23.2.1)
    · rw [show upd q n p23 i = q i from by simp [upd, e]]
      exact (h.links.lk i (by omega)).same (hb _ (h.links.lk i (by omega)).lt (h.links.ne i (by omega)).2.1)
  · by_cases e : i = n
    · subst e
      rw [show upd q i p23 i = p23 from by simp [upd]]
      refine ⟨e23.1, ?_, e23.2.2⟩
      rcases hg with c | c
      · rw [show (Value.slice (some ⟨g, 0, none⟩) (i + 1) cap).ownBlock = some g from rfl, ← c]; exact e23.2.1
      · simp [Value.ownBlock]; omega
    · rw [show upd q n p23 i = q i from by simp [upd, e]]
      have hi' : i < n := by omega
      refine ⟨(h.links.ne i hi').1, ?_, (h.links.ne i hi').2.2⟩
      rcases hg with c | c
      · rw [show (Value.slice (some ⟨g, 0, none⟩) (n + 1) cap).ownBlock = some g from rfl, ← c]; exact (h.links.ne i hi').2.1
      · have := (h.links.lk i hi').lt
        simp [Value.ownBlock]; omega
theorem Tot1.cell25 {g cap : Nat} (h : Tot1 L w0 B N sf la n lc g cap q ad kn st w) : Mem w N 25 [.slice la n lc] := by
  intro i v hv
  match i, hv with
  | 0, hv => simp at hv; subst hv; exact ⟨h.node.lk, h.node.fr _⟩
  | i + 1, hv => simp at hv
theorem Tot1.stored {g cap : Nat} (HL : IsL L) (h : Tot1 L w0 B N sf la n lc g cap q ad kn st w) (m : Mem w' N 25 [.slice (some ⟨g, 0, none⟩) (n + 1) cap]) (o : Only N 25 1 w w') :
    Below B w0 w' ∧ NodeM L w' N sf (.slice (some ⟨g, 0, none⟩) (n + 1) cap) ∧ Links L w' B N (.slice (some ⟨g, 0, none⟩) (n + 1) cap) (n + 1) q ad kn st := by
  have hl := h.node.lt
  refine ⟨h.bel.trans (o.below h.hN h.hB), ⟨h.node.slf.only hl o (.inr (by rw [L_len HL]; omega)), (m 0 _ rfl).1, h.node.z.only hl o (.inr (by omega)), (o.cell _ (by omega)).trans h.node.fd, fun j => (o.frozen j).trans (h.node.fr j)⟩, h.links.only o⟩
end

set_option maxHeartbeats 4000000 in
theorem addLink_any {L : (Nat → Int) → List Value} (HL : IsL L) (B N : Nat) (sf : Nat → Int) (lv : Value) (n : Nat) (q : Nat → Nat) (ad : Nat → Nat → Int) (kn : Nat → Bool) (st : Nat → Int) (r : Nat → Int) (k : Bool) (s : Int) (w : World) (hn : n ≤ 20000) (hBw : B ≤ w.heap.size) (hBN : B ≤ N)
    (hM : Hid (NodeM L w N sf lv)) (hK : Hid (Links L w B N lv n q ad kn st)) (er : r = ad n) (ek : k = kn n) (es : s = st n) :
    Calls Try.prog 19 #[.pointer (some ⟨N, 0, none⟩), .agg (L r).toArray, .bool k, .int .i64 s] w fun e w' => e = .returned (.tuple #[]) ∧ ∃ lv' p, Below B w w' ∧ NodeM L w' N sf lv' ∧ Links L w' B N lv' (n + 1) (upd q n p) ad kn st := by
  obtain ⟨la, lc, hlv⟩ : ∃ la lc, lv = .slice la n lc := by
    rcases hK.out.own.2 with ⟨a, b⟩ | ⟨g, cap, cur, a, b⟩
    · exact ⟨none, 0, by rw [a, b]⟩
    · exact ⟨_, _, a⟩
  subst hlv
  have HR : Hid (r = ad n) := er
  have HK : Hid (k = kn n) := ek
  have HS : Hid (s = st n) := es
  clear er ek es
  have hw64 : IntKind.u64.wrap (n : Int) = (n : Int) := by simp only [IntKind.wrap, IntKind.signed, IntKind.bits]; simp; omega
  have h0 : (0 : Int) ≤ (n : Int) := by omega
  go_enter Try.func19, Try.ntmps19
  go_wp2_with ((with_reducible refine D_box 30 5 (L r) ?_ ?_); (rfl); (intro p5 w5 g5 l5 m5 B5))
  have T : Tot L w B N sf la n lc q ad kn st p5 r w5 := ⟨⟨B5.os, B5.tape, B5.output, B5.size, fun i hi => B5.block i (Nat.lt_of_lt_of_le hi hBw)⟩, Nat.le_trans hBw B5.size, hBN, hM.out.below B5 hM.out.lt, hK.out.below B5, m5, l5⟩
  clear B5 m5 l5 g5 hM hK
  refine cutG (α := Nat × Nat × Nat × Nat) (fun a' x => ((((((((((((((((((((a'.put (some 8) (.pointer (some ⟨N, 0, none⟩))).put (some 9) (.pointer (some ⟨N, 0, none⟩))).put (some 10) (.pointer (some ⟨N, 0, none⟩))).put (some 11) (.pointer (some ⟨N, 25, none⟩))).put (some 12) (.slice la n lc)).put (some 13) (.pointer (some ⟨N, 0, none⟩))).put (some 14) (.pointer (some ⟨N, 0, none⟩))).put (some 15) (.pointer (some ⟨N, 25, none⟩))).put (some 16) (.slice la n lc)).put (some 17) (.int .i64 n)).put (some 18) (.int .u64 n)).put (some 19) (.agg (L r).toArray)).put (some 20) (.bool k)).put (some 21) (.int .i64 s)).put (some 22) (.agg (linkL L n r k s).toArray)).put (some 23) (.pointer (some ⟨x.1, 0, none⟩))).put (some 24) (.slice (some ⟨x.2.1, 0, none⟩) 1 1)).put (some 25) (.slice (some ⟨x.2.2.1, 0, none⟩) (n + 1) x.2.2.2)).put (some 26) (.pointer (some ⟨N, 0, none⟩))).put (some 27) (.pointer (some ⟨N, 25, none⟩)))) (fun x w' => Below B w w' ∧ NodeM L w' N sf (.slice (some ⟨x.2.2.1, 0, none⟩) (n + 1) x.2.2.2) ∧ Links L w' B N (.slice (some ⟨x.2.2.1, 0, none⟩) (n + 1) x.2.2.2) (n + 1) (upd q n x.1) ad kn st) ?_ ?_
  · try simp only [Act.put, List.setIfInBounds_toArray, List.set_cons_zero, List.set_cons_succ]
    refine wp_region_held_drew (S := fun _ => True) (by kernel_rfl) (trivial) (fun hHeld => ?_)
    obtain ⟨D, hD⟩ : ∃ D, D = w5.drew := ⟨_, rfl⟩
    rw [← hD]
    have T := T.below (hD ▸ below_drew _ w5)
    clear hD
    refine H_move 0 8 (.pointer (some ⟨N, 0, none⟩)) rfl (by kernel_rfl) (by kernel_rfl) (by kernel_rfl) (fun _ _ _ ⟨_, h, _⟩ => nomatch h) rfl rfl hHeld ?_
    try simp only [Act.put, List.setIfInBounds_toArray, List.set_cons_zero, List.set_cons_succ]
    refine H_move 1 9 (.pointer (some ⟨N, 0, none⟩)) rfl (by kernel_rfl) (by kernel_rfl) (by kernel_rfl) (fun _ _ _ ⟨_, h, _⟩ => nomatch h) rfl rfl hHeld ?_
    try simp only [Act.put, List.setIfInBounds_toArray, List.set_cons_zero, List.set_cons_succ]
    refine H_take 2 10 (.pointer (some ⟨N, 0, none⟩)) rfl rfl (by kernel_rfl) (by kernel_rfl) (by kernel_rfl) (fun _ _ _ ⟨_, h, _⟩ => nomatch h) rfl ?_ hHeld ?_
    · intro _ _; go_simp
    try simp only [Act.put, List.setIfInBounds_toArray, List.set_cons_zero, List.set_cons_succ]
    refine H_take 3 11 (.pointer (some ⟨N, 25, none⟩)) rfl rfl (by kernel_rfl) (by kernel_rfl) (by kernel_rfl) (fun _ _ _ ⟨_, h, _⟩ => nomatch h) rfl ?_ hHeld ?_
    · intro _ _; go_simp
    try simp only [Act.put, List.setIfInBounds_toArray, List.set_cons_zero, List.set_cons_succ]
    refine H_move 5 13 (.pointer (some ⟨N, 0, none⟩)) rfl (by kernel_rfl) (by kernel_rfl) (by kernel_rfl) (fun _ _ _ ⟨_, h, _⟩ => nomatch h) rfl rfl hHeld ?_
    try simp only [Act.put, List.setIfInBounds_toArray, List.set_cons_zero, List.set_cons_succ]
    refine H_take 6 14 (.pointer (some ⟨N, 0, none⟩)) rfl rfl (by kernel_rfl) (by kernel_rfl) (by kernel_rfl) (fun _ _ _ ⟨_, h, _⟩ => nomatch h) rfl ?_ hHeld ?_
    · intro _ _; go_simp
    try simp only [Act.put, List.setIfInBounds_toArray, List.set_cons_zero, List.set_cons_succ]
    refine H_take 7 15 (.pointer (some ⟨N, 25, none⟩)) rfl rfl (by kernel_rfl) (by kernel_rfl) (by kernel_rfl) (fun _ _ _ ⟨_, h, _⟩ => nomatch h) rfl ?_ hHeld ?_
    · intro _ _; go_simp
    try simp only [Act.put, List.setIfInBounds_toArray, List.set_cons_zero, List.set_cons_succ]
    refine H_move 12 20 (.bool k) rfl (by kernel_rfl) (by kernel_rfl) (by kernel_rfl) (fun _ _ _ ⟨_, h, _⟩ => nomatch h) rfl rfl hHeld ?_
    try simp only [Act.put, List.setIfInBounds_toArray, List.set_cons_zero, List.set_cons_succ]
    refine H_move 13 21 (.int .i64 s) rfl (by kernel_rfl) (by kernel_rfl) (by kernel_rfl) (fun _ _ _ ⟨_, h, _⟩ => nomatch h) rfl rfl hHeld ?_
    try simp only [Act.put, List.setIfInBounds_toArray, List.set_cons_zero, List.set_cons_succ]
    refine wpAnyH_ready (rs := [4, 8, 11]) (by kernel_rfl) (by simp) ?_
    refine (AllReadyH.cons rfl (fun K hK => ?_) (AllReadyH.cons rfl (fun K hK => ?_) (AllReadyH.cons rfl (fun K hK => ?_) AllReadyH.nil)))
    · have hcl := T.node.lk
      go_simp
      clear hcl
      refine hK.out _ _ trivial (fun hHeld => ?_)
      clear hK K
      try simp only [Act.put, List.setIfInBounds_toArray, List.set_cons_zero, List.set_cons_succ]
      refine wpAnyH_ready (rs := [8, 11]) (by kernel_rfl) (by simp) ?_
      refine (AllReadyH.cons rfl (fun K hK => ?_) (AllReadyH.cons rfl (fun K hK => ?_) AllReadyH.nil))
      · have hcl := T.node.lk
        go_simp
        clear hcl
        refine hK.out _ _ trivial (fun hHeld => ?_)
        clear hK K
        try simp only [Act.put, List.setIfInBounds_toArray, List.set_cons_zero, List.set_cons_succ]
        refine H_take 9 17 (.int .i64 n) rfl rfl (by kernel_rfl) (by kernel_rfl) (by kernel_rfl) (fun _ _ _ ⟨_, h, _⟩ => nomatch h) rfl ?_ hHeld ?_
        · intro _ _; go_simp
        try simp only [Act.put, List.setIfInBounds_toArray, List.set_cons_zero, List.set_cons_succ]
        refine H_take 10 18 (.int .u64 n) rfl rfl (by kernel_rfl) (by kernel_rfl) (by kernel_rfl) (fun _ _ _ ⟨_, h, _⟩ => nomatch h) rfl ?_ hHeld ?_
        · intro _ _; go_simp
        try simp only [Act.put, List.setIfInBounds_toArray, List.set_cons_zero, List.set_cons_succ]
        refine wpAnyH_ready (rs := [11]) (by kernel_rfl) (by simp) ?_
        refine (AllReadyH.cons rfl (fun K hK => ?_) AllReadyH.nil)
        rw [if_pos (by rfl)]
        simp only [List.getElem_toArray, List.getElem_cons_zero, List.getElem_cons_succ]
        with_reducible refine S_ld 30 19 ta30 (L r) (L_len HL _) p5 0 ?_ T.m5 ?_
        · rfl
        refine hK.out _ _ trivial (fun hHeld => ?_)
        clear hK K
        try simp only [Act.put, List.setIfInBounds_toArray, List.set_cons_zero, List.set_cons_succ]
        refine H_take 14 22 (.agg (linkL L n r k s).toArray) rfl rfl (by kernel_rfl) (by kernel_rfl) (by kernel_rfl) (fun _ _ _ ⟨_, h, _⟩ => nomatch h) rfl ?_ hHeld ?_
        · intro w' _; exact exec_build64 HL _ (.tmp 18) (.tmp 19) (.tmp 20) (.tmp 21) n r k s rfl rfl rfl rfl rfl w'
        try simp only [Act.put, List.setIfInBounds_toArray, List.set_cons_zero, List.set_cons_succ]
        refine wpAnyH_ready (rs := [15]) (by kernel_rfl) (by simp) ?_
        refine (AllReadyH.cons rfl (fun K hK => ?_) AllReadyH.nil)
        rw [if_pos (by rfl)]
        simp only [List.getElem_toArray, List.getElem_cons_zero, List.getElem_cons_succ]
        with_reducible refine S_box 64 23 (linkL L n r k s) ?_ ?_
        · rfl
        intro p23 v4 g23 l23 m23 hB4
        have e23 := T.fresh g23
        have T := T.below hB4
        clear hB4 g23
        refine hK.out _ _ trivial (fun hHeld => ?_)
        clear hK K
        try simp only [Act.put, List.setIfInBounds_toArray, List.set_cons_zero, List.set_cons_succ]
        refine wpAnyH_ready (rs := [16]) (by kernel_rfl) (by simp) ?_
        refine (AllReadyH.cons rfl (fun K hK => ?_) AllReadyH.nil)
        rw [if_pos (by rfl)]
        simp only [List.getElem_toArray, List.getElem_cons_zero, List.getElem_cons_succ]
        with_reducible refine S_bslice 24 (⟨p23, 0, none⟩) ?_ ?_
        · rfl
        intro p24 v5 g24 l24 m24 hB5
        have T := T.below hB5
        have m23 := m23.below hB5 l23
        have l23 := Nat.lt_of_lt_of_le l23 hB5.size
        clear hB5 g24 l24
        refine hK.out _ _ trivial (fun hHeld => ?_)
        clear hK K
        try simp only [Act.put, List.setIfInBounds_toArray, List.set_cons_zero, List.set_cons_succ]
        refine wpAnyH_ready (rs := [17]) (by kernel_rfl) (by simp) ?_
        refine (AllReadyH.cons rfl (fun K hK => ?_) AllReadyH.nil)
        rw [if_pos (by rfl)]
        simp only [List.getElem_toArray, List.getElem_cons_zero, List.getElem_cons_succ]
        with_reducible refine S_append 25 B n la lc q ?_ T.links.own p24 ?_ (.pointer (some ⟨p23, 0, none⟩)) m24 (one_ptr _) hn T.hB ?_
        · rfl
        · rfl
        intro g cap v6 own grow hg lg
        have T1 := T.append HL own grow hg lg e23 l23 m23 HR.out HK.out HS.out
        refine hK.out _ _ trivial (fun hHeld => ?_)
        clear hK K
        try simp only [Act.put, List.setIfInBounds_toArray, List.set_cons_zero, List.set_cons_succ]
        refine H_take 18 26 (.pointer (some ⟨N, 0, none⟩)) rfl rfl (by kernel_rfl) (by kernel_rfl) (by kernel_rfl) (fun _ _ _ ⟨_, h, _⟩ => nomatch h) rfl ?_ hHeld ?_
        · intro _ _; go_simp
        try simp only [Act.put, List.setIfInBounds_toArray, List.set_cons_zero, List.set_cons_succ]
        refine H_take 19 27 (.pointer (some ⟨N, 25, none⟩)) rfl rfl (by kernel_rfl) (by kernel_rfl) (by kernel_rfl) (fun _ _ _ ⟨_, h, _⟩ => nomatch h) rfl ?_ hHeld ?_
        · intro _ _; go_simp
        try simp only [Act.put, List.setIfInBounds_toArray, List.set_cons_zero, List.set_cons_succ]
        refine wpAnyH_ready (rs := [20]) (by kernel_rfl) (by simp) ?_
        refine (AllReadyH.cons rfl (fun K hK => ?_) AllReadyH.nil)
        rw [if_pos (by rfl)]
        simp only [List.getElem_toArray, List.getElem_cons_zero, List.getElem_cons_succ]
        with_reducible refine S_cell 70 27 (.slice (some ⟨g, 0, none⟩) (n + 1) cap) (.slice la n lc) Try.sizeOf70 (cells_slice _ _ _) (one_slice _ _ _) N 25 ?_ ?_ T1.cell25 ?_
        · rfl
        · rfl
        intro v7 m25 o25
        have T2 := T1.stored HL m25 o25
        refine hK.out _ _ trivial (fun hHeld => ?_)
        clear hK K
        try simp only [Act.put]
        refine wpAnyH_done (by kernel_rfl) ?_ _
        exact ⟨(p23, p24, g, cap), rfl, rfl, T2⟩
      · rw [if_pos (by rfl)]
        simp only [List.getElem_toArray, List.getElem_cons_zero, List.getElem_cons_succ]
        with_reducible refine S_ld 30 19 ta30 (L r) (L_len HL _) p5 0 ?_ T.m5 ?_
        · rfl
        refine hK.out _ _ trivial (fun hHeld => ?_)
        clear hK K
        try simp only [Act.put, List.setIfInBounds_toArray, List.set_cons_zero, List.set_cons_succ]
        refine wpAnyH_ready (rs := [8]) (by kernel_rfl) (by simp) ?_
        refine (AllReadyH.cons rfl (fun K hK => ?_) AllReadyH.nil)
        have hcl := T.node.lk
        go_simp
        clear hcl
        refine hK.out _ _ trivial (fun hHeld => ?_)
        clear hK K
        try simp only [Act.put, List.setIfInBounds_toArray, List.set_cons_zero, List.set_cons_succ]
        refine H_take 9 17 (.int .i64 n) rfl rfl (by kernel_rfl) (by kernel_rfl) (by kernel_rfl) (fun _ _ _ ⟨_, h, _⟩ => nomatch h) rfl ?_ hHeld ?_
        · intro _ _; go_simp
        try simp only [Act.put, List.setIfInBounds_toArray, List.set_cons_zero, List.set_cons_succ]
        refine H_take 10 18 (.int .u64 n) rfl rfl (by kernel_rfl) (by kernel_rfl) (by kernel_rfl) (fun _ _ _ ⟨_, h, _⟩ => nomatch h) rfl ?_ hHeld ?_
        · intro _ _; go_simp
        try simp only [Act.put, List.setIfInBounds_toArray, List.set_cons_zero, List.set_cons_succ]
        refine H_take 14 22 (.agg (linkL L n r k s).toArray) rfl rfl (by kernel_rfl) (by kernel_rfl) (by kernel_rfl) (fun _ _ _ ⟨_, h, _⟩ => nomatch h) rfl ?_ hHeld ?_
        · intro w' _; exact exec_build64 HL _ (.tmp 18) (.tmp 19) (.tmp 20) (.tmp 21) n r k s rfl rfl rfl rfl rfl w'
        try simp only [Act.put, List.setIfInBounds_toArray, List.set_cons_zero, List.set_cons_succ]
        refine wpAnyH_ready (rs := [15]) (by kernel_rfl) (by simp) ?_
        refine (AllReadyH.cons rfl (fun K hK => ?_) AllReadyH.nil)
        rw [if_pos (by rfl)]
        simp only [List.getElem_toArray, List.getElem_cons_zero, List.getElem_cons_succ]
        with_reducible refine S_box 64 23 (linkL L n r k s) ?_ ?_
        · rfl
        intro p23 v10 g23 l23 m23 hB10
        have e23 := T.fresh g23
        have T := T.below hB10
        clear hB10 g23
        refine hK.out _ _ trivial (fun hHeld => ?_)
        clear hK K
        try simp only [Act.put, List.setIfInBounds_toArray, List.set_cons_zero, List.set_cons_succ]
        refine wpAnyH_ready (rs := [16]) (by kernel_rfl) (by simp) ?_
        refine (AllReadyH.cons rfl (fun K hK => ?_) AllReadyH.nil)
        rw [if_pos (by rfl)]
        simp only [List.getElem_toArray, List.getElem_cons_zero, List.getElem_cons_succ]
        with_reducible refine S_bslice 24 (⟨p23, 0, none⟩) ?_ ?_
        · rfl
        intro p24 v11 g24 l24 m24 hB11
        have T := T.below hB11
        have m23 := m23.below hB11 l23
        have l23 := Nat.lt_of_lt_of_le l23 hB11.size
        clear hB11 g24 l24
        refine hK.out _ _ trivial (fun hHeld => ?_)
        clear hK K
        try simp only [Act.put, List.setIfInBounds_toArray, List.set_cons_zero, List.set_cons_succ]
        refine wpAnyH_ready (rs := [17]) (by kernel_rfl) (by simp) ?_
        refine (AllReadyH.cons rfl (fun K hK => ?_) AllReadyH.nil)
        rw [if_pos (by rfl)]
        simp only [List.getElem_toArray, List.getElem_cons_zero, List.getElem_cons_succ]
        with_reducible refine S_append 25 B n la lc q ?_ T.links.own p24 ?_ (.pointer (some ⟨p23, 0, none⟩)) m24 (one_ptr _) hn T.hB ?_
        · rfl
        · rfl
        intro g cap v12 own grow hg lg
        have T1 := T.append HL own grow hg lg e23 l23 m23 HR.out HK.out HS.out
        refine hK.out _ _ trivial (fun hHeld => ?_)
        clear hK K
        try simp only [Act.put, List.setIfInBounds_toArray, List.set_cons_zero, List.set_cons_succ]
        refine H_take 18 26 (.pointer (some ⟨N, 0, none⟩)) rfl rfl (by kernel_rfl) (by kernel_rfl) (by kernel_rfl) (fun _ _ _ ⟨_, h, _⟩ => nomatch h) rfl ?_ hHeld ?_
        · intro _ _; go_simp
        try simp only [Act.put, List.setIfInBounds_toArray, List.set_cons_zero, List.set_cons_succ]
        refine H_take 19 27 (.pointer (some ⟨N, 25, none⟩)) rfl rfl (by kernel_rfl) (by kernel_rfl) (by kernel_rfl) (fun _ _ _ ⟨_, h, _⟩ => nomatch h) rfl ?_ hHeld ?_
        · intro _ _; go_simp
        try simp only [Act.put, List.setIfInBounds_toArray, List.set_cons_zero, List.set_cons_succ]
        refine wpAnyH_ready (rs := [20]) (by kernel_rfl) (by simp) ?_
        refine (AllReadyH.cons rfl (fun K hK => ?_) AllReadyH.nil)
        rw [if_pos (by rfl)]
        simp only [List.getElem_toArray, List.getElem_cons_zero, List.getElem_cons_succ]
        with_reducible refine S_cell 70 27 (.slice (some ⟨g, 0, none⟩) (n + 1) cap) (.slice la n lc) Try.sizeOf70 (cells_slice _ _ _) (one_slice _ _ _) N 25 ?_ ?_ T1.cell25 ?_
        · rfl
        · rfl
        intro v13 m25 o25
        have T2 := T1.stored HL m25 o25
        refine hK.out _ _ trivial (fun hHeld => ?_)
        clear hK K
        try simp only [Act.put]
        refine wpAnyH_done (by kernel_rfl) ?_ _
        exact ⟨(p23, p24, g, cap), rfl, rfl, T2⟩
    · have hcl := T.node.lk
      go_simp
      clear hcl
      refine hK.out _ _ trivial (fun hHeld => ?_)
      clear hK K
      try simp only [Act.put, List.setIfInBounds_toArray, List.set_cons_zero, List.set_cons_succ]
      refine H_take 9 17 (.int .i64 n) rfl rfl (by kernel_rfl) (by kernel_rfl) (by kernel_rfl) (fun _ _ _ ⟨_, h, _⟩ => nomatch h) rfl ?_ hHeld ?_
      · intro _ _; go_simp
      try simp only [Act.put, List.setIfInBounds_toArray, List.set_cons_zero, List.set_cons_succ]
      refine H_take 10 18 (.int .u64 n) rfl rfl (by kernel_rfl) (by kernel_rfl) (by kernel_rfl) (fun _ _ _ ⟨_, h, _⟩ => nomatch h) rfl ?_ hHeld ?_
      · intro _ _; go_simp
      try simp only [Act.put, List.setIfInBounds_toArray, List.set_cons_zero, List.set_cons_succ]
      refine wpAnyH_ready (rs := [4, 11]) (by kernel_rfl) (by simp) ?_
      refine (AllReadyH.cons rfl (fun K hK => ?_) (AllReadyH.cons rfl (fun K hK => ?_) AllReadyH.nil))
      · have hcl := T.node.lk
        go_simp
        clear hcl
        refine hK.out _ _ trivial (fun hHeld => ?_)
        clear hK K
        try simp only [Act.put, List.setIfInBounds_toArray, List.set_cons_zero, List.set_cons_succ]
        refine wpAnyH_ready (rs := [11]) (by kernel_rfl) (by simp) ?_
        refine (AllReadyH.cons rfl (fun K hK => ?_) AllReadyH.nil)
        rw [if_pos (by rfl)]
        simp only [List.getElem_toArray, List.getElem_cons_zero, List.getElem_cons_succ]
        with_reducible refine S_ld 30 19 ta30 (L r) (L_len HL _) p5 0 ?_ T.m5 ?_
        · rfl
        refine hK.out _ _ trivial (fun hHeld => ?_)
        clear hK K
        try simp only [Act.put, List.setIfInBounds_toArray, List.set_cons_zero, List.set_cons_succ]
        refine H_take 14 22 (.agg (linkL L n r k s).toArray) rfl rfl (by kernel_rfl) (by kernel_rfl) (by kernel_rfl) (fun _ _ _ ⟨_, h, _⟩ => nomatch h) rfl ?_ hHeld ?_
        · intro w' _; exact exec_build64 HL _ (.tmp 18) (.tmp 19) (.tmp 20) (.tmp 21) n r k s rfl rfl rfl rfl rfl w'
        try simp only [Act.put, List.setIfInBounds_toArray, List.set_cons_zero, List.set_cons_succ]
        refine wpAnyH_ready (rs := [15]) (by kernel_rfl) (by simp) ?_
        refine (AllReadyH.cons rfl (fun K hK => ?_) AllReadyH.nil)
        rw [if_pos (by rfl)]
        simp only [List.getElem_toArray, List.getElem_cons_zero, List.getElem_cons_succ]
        with_reducible refine S_box 64 23 (linkL L n r k s) ?_ ?_
        · rfl
        intro p23 v17 g23 l23 m23 hB17
        have e23 := T.fresh g23
        have T := T.below hB17
        clear hB17 g23
        refine hK.out _ _ trivial (fun hHeld => ?_)
        clear hK K
        try simp only [Act.put, List.setIfInBounds_toArray, List.set_cons_zero, List.set_cons_succ]
        refine wpAnyH_ready (rs := [16]) (by kernel_rfl) (by simp) ?_
        refine (AllReadyH.cons rfl (fun K hK => ?_) AllReadyH.nil)
        rw [if_pos (by rfl)]
        simp only [List.getElem_toArray, List.getElem_cons_zero, List.getElem_cons_succ]
        with_reducible refine S_bslice 24 (⟨p23, 0, none⟩) ?_ ?_
        · rfl
        intro p24 v18 g24 l24 m24 hB18
        have T := T.below hB18
        have m23 := m23.below hB18 l23
        have l23 := Nat.lt_of_lt_of_le l23 hB18.size
        clear hB18 g24 l24
        refine hK.out _ _ trivial (fun hHeld => ?_)
        clear hK K
        try simp only [Act.put, List.setIfInBounds_toArray, List.set_cons_zero, List.set_cons_succ]
        refine wpAnyH_ready (rs := [17]) (by kernel_rfl) (by simp) ?_
        refine (AllReadyH.cons rfl (fun K hK => ?_) AllReadyH.nil)
        rw [if_pos (by rfl)]
        simp only [List.getElem_toArray, List.getElem_cons_zero, List.getElem_cons_succ]
        with_reducible refine S_append 25 B n la lc q ?_ T.links.own p24 ?_ (.pointer (some ⟨p23, 0, none⟩)) m24 (one_ptr _) hn T.hB ?_
        · rfl
        · rfl
        intro g cap v19 own grow hg lg
        have T1 := T.append HL own grow hg lg e23 l23 m23 HR.out HK.out HS.out
        refine hK.out _ _ trivial (fun hHeld => ?_)
        clear hK K
        try simp only [Act.put, List.setIfInBounds_toArray, List.set_cons_zero, List.set_cons_succ]
        refine H_take 18 26 (.pointer (some ⟨N, 0, none⟩)) rfl rfl (by kernel_rfl) (by kernel_rfl) (by kernel_rfl) (fun _ _ _ ⟨_, h, _⟩ => nomatch h) rfl ?_ hHeld ?_
        · intro _ _; go_simp
        try simp only [Act.put, List.setIfInBounds_toArray, List.set_cons_zero, List.set_cons_succ]
        refine H_take 19 27 (.pointer (some ⟨N, 25, none⟩)) rfl rfl (by kernel_rfl) (by kernel_rfl) (by kernel_rfl) (fun _ _ _ ⟨_, h, _⟩ => nomatch h) rfl ?_ hHeld ?_
        · intro _ _; go_simp
        try simp only [Act.put, List.setIfInBounds_toArray, List.set_cons_zero, List.set_cons_succ]
        refine wpAnyH_ready (rs := [20]) (by kernel_rfl) (by simp) ?_
        refine (AllReadyH.cons rfl (fun K hK => ?_) AllReadyH.nil)
        rw [if_pos (by rfl)]
        simp only [List.getElem_toArray, List.getElem_cons_zero, List.getElem_cons_succ]
        with_reducible refine S_cell 70 27 (.slice (some ⟨g, 0, none⟩) (n + 1) cap) (.slice la n lc) Try.sizeOf70 (cells_slice _ _ _) (one_slice _ _ _) N 25 ?_ ?_ T1.cell25 ?_
        · rfl
        · rfl
        intro v20 m25 o25
        have T2 := T1.stored HL m25 o25
        refine hK.out _ _ trivial (fun hHeld => ?_)
        clear hK K
        try simp only [Act.put]
        refine wpAnyH_done (by kernel_rfl) ?_ _
        exact ⟨(p23, p24, g, cap), rfl, rfl, T2⟩
      · rw [if_pos (by rfl)]
        simp only [List.getElem_toArray, List.getElem_cons_zero, List.getElem_cons_succ]
        with_reducible refine S_ld 30 19 ta30 (L r) (L_len HL _) p5 0 ?_ T.m5 ?_
        · rfl
        refine hK.out _ _ trivial (fun hHeld => ?_)
        clear hK K
        try simp only [Act.put, List.setIfInBounds_toArray, List.set_cons_zero, List.set_cons_succ]
        refine H_take 14 22 (.agg (linkL L n r k s).toArray) rfl rfl (by kernel_rfl) (by kernel_rfl) (by kernel_rfl) (fun _ _ _ ⟨_, h, _⟩ => nomatch h) rfl ?_ hHeld ?_
        · intro w' _; exact exec_build64 HL _ (.tmp 18) (.tmp 19) (.tmp 20) (.tmp 21) n r k s rfl rfl rfl rfl rfl w'
        try simp only [Act.put, List.setIfInBounds_toArray, List.set_cons_zero, List.set_cons_succ]
        refine wpAnyH_ready (rs := [4, 15]) (by kernel_rfl) (by simp) ?_
        refine (AllReadyH.cons rfl (fun K hK => ?_) (AllReadyH.cons rfl (fun K hK => ?_) AllReadyH.nil))
        · have hcl := T.node.lk
          go_simp
          clear hcl
          refine hK.out _ _ trivial (fun hHeld => ?_)
          clear hK K
          try simp only [Act.put, List.setIfInBounds_toArray, List.set_cons_zero, List.set_cons_succ]
          refine wpAnyH_ready (rs := [15]) (by kernel_rfl) (by simp) ?_
          refine (AllReadyH.cons rfl (fun K hK => ?_) AllReadyH.nil)
          rw [if_pos (by rfl)]
          simp only [List.getElem_toArray, List.getElem_cons_zero, List.getElem_cons_succ]
          with_reducible refine S_box 64 23 (linkL L n r k s) ?_ ?_
          · rfl
          intro p23 v23 g23 l23 m23 hB23
          have e23 := T.fresh g23
          have T := T.below hB23
          clear hB23 g23
          refine hK.out _ _ trivial (fun hHeld => ?_)
          clear hK K
          try simp only [Act.put, List.setIfInBounds_toArray, List.set_cons_zero, List.set_cons_succ]
          refine wpAnyH_ready (rs := [16]) (by kernel_rfl) (by simp) ?_
          refine (AllReadyH.cons rfl (fun K hK => ?_) AllReadyH.nil)
          rw [if_pos (by rfl)]
          simp only [List.getElem_toArray, List.getElem_cons_zero, List.getElem_cons_succ]
          with_reducible refine S_bslice 24 (⟨p23, 0, none⟩) ?_ ?_
          · rfl
          intro p24 v24 g24 l24 m24 hB24
          have T := T.below hB24
          have m23 := m23.below hB24 l23
          have l23 := Nat.lt_of_lt_of_le l23 hB24.size
          clear hB24 g24 l24
          refine hK.out _ _ trivial (fun hHeld => ?_)
          clear hK K
          try simp only [Act.put, List.setIfInBounds_toArray, List.set_cons_zero, List.set_cons_succ]
          refine wpAnyH_ready (rs := [17]) (by kernel_rfl) (by simp) ?_
          refine (AllReadyH.cons rfl (fun K hK => ?_) AllReadyH.nil)
          rw [if_pos (by rfl)]
          simp only [List.getElem_toArray, List.getElem_cons_zero, List.getElem_cons_succ]
          with_reducible refine S_append 25 B n la lc q ?_ T.links.own p24 ?_ (.pointer (some ⟨p23, 0, none⟩)) m24 (one_ptr _) hn T.hB ?_
          · rfl
          · rfl
          intro g cap v25 own grow hg lg
          have T1 := T.append HL own grow hg lg e23 l23 m23 HR.out HK.out HS.out
          refine hK.out _ _ trivial (fun hHeld => ?_)
          clear hK K
          try simp only [Act.put, List.setIfInBounds_toArray, List.set_cons_zero, List.set_cons_succ]
          refine H_take 18 26 (.pointer (some ⟨N, 0, none⟩)) rfl rfl (by kernel_rfl) (by kernel_rfl) (by kernel_rfl) (fun _ _ _ ⟨_, h, _⟩ => nomatch h) rfl ?_ hHeld ?_
          · intro _ _; go_simp
          try simp only [Act.put, List.setIfInBounds_toArray, List.set_cons_zero, List.set_cons_succ]
          refine H_take 19 27 (.pointer (some ⟨N, 25, none⟩)) rfl rfl (by kernel_rfl) (by kernel_rfl) (by kernel_rfl) (fun _ _ _ ⟨_, h, _⟩ => nomatch h) rfl ?_ hHeld ?_
          · intro _ _; go_simp
          try simp only [Act.put, List.setIfInBounds_toArray, List.set_cons_zero, List.set_cons_succ]
          refine wpAnyH_ready (rs := [20]) (by kernel_rfl) (by simp) ?_
          refine (AllReadyH.cons rfl (fun K hK => ?_) AllReadyH.nil)
          rw [if_pos (by rfl)]
          simp only [List.getElem_toArray, List.getElem_cons_zero, List.getElem_cons_succ]
          with_reducible refine S_cell 70 27 (.slice (some ⟨g, 0, none⟩) (n + 1) cap) (.slice la n lc) Try.sizeOf70 (cells_slice _ _ _) (one_slice _ _ _) N 25 ?_ ?_ T1.cell25 ?_
          · rfl
          · rfl
          intro v26 m25 o25
          have T2 := T1.stored HL m25 o25
          refine hK.out _ _ trivial (fun hHeld => ?_)
          clear hK K
          try simp only [Act.put]
          refine wpAnyH_done (by kernel_rfl) ?_ _
          exact ⟨(p23, p24, g, cap), rfl, rfl, T2⟩
        · rw [if_pos (by rfl)]
          simp only [List.getElem_toArray, List.getElem_cons_zero, List.getElem_cons_succ]
          with_reducible refine S_box 64 23 (linkL L n r k s) ?_ ?_
          · rfl
          intro p23 v27 g23 l23 m23 hB27
          have e23 := T.fresh g23
          have T := T.below hB27
          clear hB27 g23
          refine hK.out _ _ trivial (fun hHeld => ?_)
          clear hK K
          try simp only [Act.put, List.setIfInBounds_toArray, List.set_cons_zero, List.set_cons_succ]
          refine wpAnyH_ready (rs := [4, 16]) (by kernel_rfl) (by simp) ?_
          refine (AllReadyH.cons rfl (fun K hK => ?_) (AllReadyH.cons rfl (fun K hK => ?_) AllReadyH.nil))
          · have hcl := T.node.lk
            go_simp
            clear hcl
            refine hK.out _ _ trivial (fun hHeld => ?_)
            clear hK K
            try simp only [Act.put, List.setIfInBounds_toArray, List.set_cons_zero, List.set_cons_succ]
            refine wpAnyH_ready (rs := [16]) (by kernel_rfl) (by simp) ?_
            refine (AllReadyH.cons rfl (fun K hK => ?_) AllReadyH.nil)
            rw [if_pos (by rfl)]
            simp only [List.getElem_toArray, List.getElem_cons_zero, List.getElem_cons_succ]
            with_reducible refine S_bslice 24 (⟨p23, 0, none⟩) ?_ ?_
            · rfl
            intro p24 v29 g24 l24 m24 hB29
            have T := T.below hB29
            have m23 := m23.below hB29 l23
            have l23 := Nat.lt_of_lt_of_le l23 hB29.size
            clear hB29 g24 l24
            refine hK.out _ _ trivial (fun hHeld => ?_)
            clear hK K
            try simp only [Act.put, List.setIfInBounds_toArray, List.set_cons_zero, List.set_cons_succ]
            refine wpAnyH_ready (rs := [17]) (by kernel_rfl) (by simp) ?_
            refine (AllReadyH.cons rfl (fun K hK => ?_) AllReadyH.nil)
            rw [if_pos (by rfl)]
            simp only [List.getElem_toArray, List.getElem_cons_zero, List.getElem_cons_succ]
            with_reducible refine S_append 25 B n la lc q ?_ T.links.own p24 ?_ (.pointer (some ⟨p23, 0, none⟩)) m24 (one_ptr _) hn T.hB ?_
            · rfl
            · rfl
            intro g cap v30 own grow hg lg
            have T1 := T.append HL own grow hg lg e23 l23 m23 HR.out HK.out HS.out
            refine hK.out _ _ trivial (fun hHeld => ?_)
            clear hK K
            try simp only [Act.put, List.setIfInBounds_toArray, List.set_cons_zero, List.set_cons_succ]
            refine H_take 18 26 (.pointer (some ⟨N, 0, none⟩)) rfl rfl (by kernel_rfl) (by kernel_rfl) (by kernel_rfl) (fun _ _ _ ⟨_, h, _⟩ => nomatch h) rfl ?_ hHeld ?_
            · intro _ _; go_simp
            try simp only [Act.put, List.setIfInBounds_toArray, List.set_cons_zero, List.set_cons_succ]
            refine H_take 19 27 (.pointer (some ⟨N, 25, none⟩)) rfl rfl (by kernel_rfl) (by kernel_rfl) (by kernel_rfl) (fun _ _ _ ⟨_, h, _⟩ => nomatch h) rfl ?_ hHeld ?_
            · intro _ _; go_simp
            try simp only [Act.put, List.setIfInBounds_toArray, List.set_cons_zero, List.set_cons_succ]
            refine wpAnyH_ready (rs := [20]) (by kernel_rfl) (by simp) ?_
            refine (AllReadyH.cons rfl (fun K hK => ?_) AllReadyH.nil)
            rw [if_pos (by rfl)]
            simp only [List.getElem_toArray, List.getElem_cons_zero, List.getElem_cons_succ]
            with_reducible refine S_cell 70 27 (.slice (some ⟨g, 0, none⟩) (n + 1) cap) (.slice la n lc) Try.sizeOf70 (cells_slice _ _ _) (one_slice _ _ _) N 25 ?_ ?_ T1.cell25 ?_
            · rfl
            · rfl
            intro v31 m25 o25
            have T2 := T1.stored HL m25 o25
            refine hK.out _ _ trivial (fun hHeld => ?_)
            clear hK K
            try simp only [Act.put]
            refine wpAnyH_done (by kernel_rfl) ?_ _
            exact ⟨(p23, p24, g, cap), rfl, rfl, T2⟩
          · rw [if_pos (by rfl)]
            simp only [List.getElem_toArray, List.getElem_cons_zero, List.getElem_cons_succ]
            with_reducible refine S_bslice 24 (⟨p23, 0, none⟩) ?_ ?_
            · rfl
            intro p24 v32 g24 l24 m24 hB32
            have T := T.below hB32
            have m23 := m23.below hB32 l23
            have l23 := Nat.lt_of_lt_of_le l23 hB32.size
            clear hB32 g24 l24
            refine hK.out _ _ trivial (fun hHeld => ?_)
            clear hK K
            try simp only [Act.put, List.setIfInBounds_toArray, List.set_cons_zero, List.set_cons_succ]
            refine wpAnyH_ready (rs := [4]) (by kernel_rfl) (by simp) ?_
            refine (AllReadyH.cons rfl (fun K hK => ?_) AllReadyH.nil)
            have hcl := T.node.lk
            go_simp
            clear hcl
            refine hK.out _ _ trivial (fun hHeld => ?_)
            clear hK K
            try simp only [Act.put, List.setIfInBounds_toArray, List.set_cons_zero, List.set_cons_succ]
            refine wpAnyH_ready (rs := [17]) (by kernel_rfl) (by simp) ?_
            refine (AllReadyH.cons rfl (fun K hK => ?_) AllReadyH.nil)
            rw [if_pos (by rfl)]
            simp only [List.getElem_toArray, List.getElem_cons_zero, List.getElem_cons_succ]
            with_reducible refine S_append 25 B n la lc q ?_ T.links.own p24 ?_ (.pointer (some ⟨p23, 0, none⟩)) m24 (one_ptr _) hn T.hB ?_
            · rfl
            · rfl
            intro g cap v34 own grow hg lg
            have T1 := T.append HL own grow hg lg e23 l23 m23 HR.out HK.out HS.out
            refine hK.out _ _ trivial (fun hHeld => ?_)
            clear hK K
            try simp only [Act.put, List.setIfInBounds_toArray, List.set_cons_zero, List.set_cons_succ]
            refine H_take 18 26 (.pointer (some ⟨N, 0, none⟩)) rfl rfl (by kernel_rfl) (by kernel_rfl) (by kernel_rfl) (fun _ _ _ ⟨_, h, _⟩ => nomatch h) rfl ?_ hHeld ?_
            · intro _ _; go_simp
            try simp only [Act.put, List.setIfInBounds_toArray, List.set_cons_zero, List.set_cons_succ]
            refine H_take 19 27 (.pointer (some ⟨N, 25, none⟩)) rfl rfl (by kernel_rfl) (by kernel_rfl) (by kernel_rfl) (fun _ _ _ ⟨_, h, _⟩ => nomatch h) rfl ?_ hHeld ?_
            · intro _ _; go_simp
            try simp only [Act.put, List.setIfInBounds_toArray, List.set_cons_zero, List.set_cons_succ]
            refine wpAnyH_ready (rs := [20]) (by kernel_rfl) (by simp) ?_
            refine (AllReadyH.cons rfl (fun K hK => ?_) AllReadyH.nil)
            rw [if_pos (by rfl)]
            simp only [List.getElem_toArray, List.getElem_cons_zero, List.getElem_cons_succ]
            with_reducible refine S_cell 70 27 (.slice (some ⟨g, 0, none⟩) (n + 1) cap) (.slice la n lc) Try.sizeOf70 (cells_slice _ _ _) (one_slice _ _ _) N 25 ?_ ?_ T1.cell25 ?_
            · rfl
            · rfl
            intro v35 m25 o25
            have T2 := T1.stored HL m25 o25
            refine hK.out _ _ trivial (fun hHeld => ?_)
            clear hK K
            try simp only [Act.put]
            refine wpAnyH_done (by kernel_rfl) ?_ _
            exact ⟨(p23, p24, g, cap), rfl, rfl, T2⟩
    · rw [if_pos (by rfl)]
      simp only [List.getElem_toArray, List.getElem_cons_zero, List.getElem_cons_succ]
      with_reducible refine S_ld 30 19 ta30 (L r) (L_len HL _) p5 0 ?_ T.m5 ?_
      · rfl
      refine hK.out _ _ trivial (fun hHeld => ?_)
      clear hK K
      try simp only [Act.put, List.setIfInBounds_toArray, List.set_cons_zero, List.set_cons_succ]
      refine wpAnyH_ready (rs := [4, 8]) (by kernel_rfl) (by simp) ?_
      refine (AllReadyH.cons rfl (fun K hK => ?_) (AllReadyH.cons rfl (fun K hK => ?_) AllReadyH.nil))
      · have hcl := T.node.lk
        go_simp
        clear hcl
        refine hK.out _ _ trivial (fun hHeld => ?_)
        clear hK K
        try simp only [Act.put, List.setIfInBounds_toArray, List.set_cons_zero, List.set_cons_succ]
        refine wpAnyH_ready (rs := [8]) (by kernel_rfl) (by simp) ?_
        refine (AllReadyH.cons rfl (fun K hK => ?_) AllReadyH.nil)
        have hcl := T.node.lk
        go_simp
        clear hcl
        refine hK.out _ _ trivial (fun hHeld => ?_)
        clear hK K
        try simp only [Act.put, List.setIfInBounds_toArray, List.set_cons_zero, List.set_cons_succ]
        refine H_take 9 17 (.int .i64 n) rfl rfl (by kernel_rfl) (by kernel_rfl) (by kernel_rfl) (fun _ _ _ ⟨_, h, _⟩ => nomatch h) rfl ?_ hHeld ?_
        · intro _ _; go_simp
        try simp only [Act.put, List.setIfInBounds_toArray, List.set_cons_zero, List.set_cons_succ]
        refine H_take 10 18 (.int .u64 n) rfl rfl (by kernel_rfl) (by kernel_rfl) (by kernel_rfl) (fun _ _ _ ⟨_, h, _⟩ => nomatch h) rfl ?_ hHeld ?_
        · intro _ _; go_simp
        try simp only [Act.put, List.setIfInBounds_toArray, List.set_cons_zero, List.set_cons_succ]
        refine H_take 14 22 (.agg (linkL L n r k s).toArray) rfl rfl (by kernel_rfl) (by kernel_rfl) (by kernel_rfl) (fun _ _ _ ⟨_, h, _⟩ => nomatch h) rfl ?_ hHeld ?_
        · intro w' _; exact exec_build64 HL _ (.tmp 18) (.tmp 19) (.tmp 20) (.tmp 21) n r k s rfl rfl rfl rfl rfl w'
        try simp only [Act.put, List.setIfInBounds_toArray, List.set_cons_zero, List.set_cons_succ]
        refine wpAnyH_ready (rs := [15]) (by kernel_rfl) (by simp) ?_
        refine (AllReadyH.cons rfl (fun K hK => ?_) AllReadyH.nil)
        rw [if_pos (by rfl)]
        simp only [List.getElem_toArray, List.getElem_cons_zero, List.getElem_cons_succ]
        with_reducible refine S_box 64 23 (linkL L n r k s) ?_ ?_
        · rfl
        intro p23 v39 g23 l23 m23 hB39
        have e23 := T.fresh g23
        have T := T.below hB39
        clear hB39 g23
        refine hK.out _ _ trivial (fun hHeld => ?_)
        clear hK K
        try simp only [Act.put, List.setIfInBounds_toArray, List.set_cons_zero, List.set_cons_succ]
        refine wpAnyH_ready (rs := [16]) (by kernel_rfl) (by simp) ?_
        refine (AllReadyH.cons rfl (fun K hK => ?_) AllReadyH.nil)
        rw [if_pos (by rfl)]
        simp only [List.getElem_toArray, List.getElem_cons_zero, List.getElem_cons_succ]
        with_reducible refine S_bslice 24 (⟨p23, 0, none⟩) ?_ ?_
        · rfl
        intro p24 v40 g24 l24 m24 hB40
        have T := T.below hB40
        have m23 := m23.below hB40 l23
        have l23 := Nat.lt_of_lt_of_le l23 hB40.size
        clear hB40 g24 l24
        refine hK.out _ _ trivial (fun hHeld => ?_)
        clear hK K
        try simp only [Act.put, List.setIfInBounds_toArray, List.set_cons_zero, List.set_cons_succ]
        refine wpAnyH_ready (rs := [17]) (by kernel_rfl) (by simp) ?_
        refine (AllReadyH.cons rfl (fun K hK => ?_) AllReadyH.nil)
        rw [if_pos (by rfl)]
        simp only [List.getElem_toArray, List.getElem_cons_zero, List.getElem_cons_succ]
        with_reducible refine S_append 25 B n la lc q ?_ T.links.own p24 ?_ (.pointer (some ⟨p23, 0, none⟩)) m24 (one_ptr _) hn T.hB ?_
        · rfl
        · rfl
        intro g cap v41 own grow hg lg
        have T1 := T.append HL own grow hg lg e23 l23 m23 HR.out HK.out HS.out
        refine hK.out _ _ trivial (fun hHeld => ?_)
        clear hK K
        try simp only [Act.put, List.setIfInBounds_toArray, List.set_cons_zero, List.set_cons_succ]
        refine H_take 18 26 (.pointer (some ⟨N, 0, none⟩)) rfl rfl (by kernel_rfl) (by kernel_rfl) (by kernel_rfl) (fun _ _ _ ⟨_, h, _⟩ => nomatch h) rfl ?_ hHeld ?_
        · intro _ _; go_simp
        try simp only [Act.put, List.setIfInBounds_toArray, List.set_cons_zero, List.set_cons_succ]
        refine H_take 19 27 (.pointer (some ⟨N, 25, none⟩)) rfl rfl (by kernel_rfl) (by kernel_rfl) (by kernel_rfl) (fun _ _ _ ⟨_, h, _⟩ => nomatch h) rfl ?_ hHeld ?_
        · intro _ _; go_simp
        try simp only [Act.put, List.setIfInBounds_toArray, List.set_cons_zero, List.set_cons_succ]
        refine wpAnyH_ready (rs := [20]) (by kernel_rfl) (by simp) ?_
        refine (AllReadyH.cons rfl (fun K hK => ?_) AllReadyH.nil)
        rw [if_pos (by rfl)]
        simp only [List.getElem_toArray, List.getElem_cons_zero, List.getElem_cons_succ]
        with_reducible refine S_cell 70 27 (.slice (some ⟨g, 0, none⟩) (n + 1) cap) (.slice la n lc) Try.sizeOf70 (cells_slice _ _ _) (one_slice _ _ _) N 25 ?_ ?_ T1.cell25 ?_
        · rfl
        · rfl
        intro v42 m25 o25
        have T2 := T1.stored HL m25 o25
        refine hK.out _ _ trivial (fun hHeld => ?_)
        clear hK K
        try simp only [Act.put]
        refine wpAnyH_done (by kernel_rfl) ?_ _
        exact ⟨(p23, p24, g, cap), rfl, rfl, T2⟩
      · have hcl := T.node.lk
        go_simp
        clear hcl
        refine hK.out _ _ trivial (fun hHeld => ?_)
        clear hK K
        try simp only [Act.put, List.setIfInBounds_toArray, List.set_cons_zero, List.set_cons_succ]
        refine H_take 9 17 (.int .i64 n) rfl rfl (by kernel_rfl) (by kernel_rfl) (by kernel_rfl) (fun _ _ _ ⟨_, h, _⟩ => nomatch h) rfl ?_ hHeld ?_
        · intro _ _; go_simp
        try simp only [Act.put, List.setIfInBounds_toArray, List.set_cons_zero, List.set_cons_succ]
        refine H_take 10 18 (.int .u64 n) rfl rfl (by kernel_rfl) (by kernel_rfl) (by kernel_rfl) (fun _ _ _ ⟨_, h, _⟩ => nomatch h) rfl ?_ hHeld ?_
        · intro _ _; go_simp
        try simp only [Act.put, List.setIfInBounds_toArray, List.set_cons_zero, List.set_cons_succ]
        refine H_take 14 22 (.agg (linkL L n r k s).toArray) rfl rfl (by kernel_rfl) (by kernel_rfl) (by kernel_rfl) (fun _ _ _ ⟨_, h, _⟩ => nomatch h) rfl ?_ hHeld ?_
        · intro w' _; exact exec_build64 HL _ (.tmp 18) (.tmp 19) (.tmp 20) (.tmp 21) n r k s rfl rfl rfl rfl rfl w'
        try simp only [Act.put, List.setIfInBounds_toArray, List.set_cons_zero, List.set_cons_succ]
        refine wpAnyH_ready (rs := [4, 15]) (by kernel_rfl) (by simp) ?_
        refine (AllReadyH.cons rfl (fun K hK => ?_) (AllReadyH.cons rfl (fun K hK => ?_) AllReadyH.nil))
        · have hcl := T.node.lk
          go_simp
          clear hcl
          refine hK.out _ _ trivial (fun hHeld => ?_)
          clear hK K
          try simp only [Act.put, List.setIfInBounds_toArray, List.set_cons_zero, List.set_cons_succ]
          refine wpAnyH_ready (rs := [15]) (by kernel_rfl) (by simp) ?_
          refine (AllReadyH.cons rfl (fun K hK => ?_) AllReadyH.nil)
          rw [if_pos (by rfl)]
          simp only [List.getElem_toArray, List.getElem_cons_zero, List.getElem_cons_succ]
          with_reducible refine S_box 64 23 (linkL L n r k s) ?_ ?_
          · rfl
          intro p23 v45 g23 l23 m23 hB45
          have e23 := T.fresh g23
          have T := T.below hB45
          clear hB45 g23
          refine hK.out _ _ trivial (fun hHeld => ?_)
          clear hK K
          try simp only [Act.put, List.setIfInBounds_toArray, List.set_cons_zero, List.set_cons_succ]
          refine wpAnyH_ready (rs := [16]) (by kernel_rfl) (by simp) ?_
          refine (AllReadyH.cons rfl (fun K hK => ?_) AllReadyH.nil)
          rw [if_pos (by rfl)]
          simp only [List.getElem_toArray, List.getElem_cons_zero, List.getElem_cons_succ]
          with_reducible refine S_bslice 24 (⟨p23, 0, none⟩) ?_ ?_
          · rfl
          intro p24 v46 g24 l24 m24 hB46
          have T := T.below hB46
          have m23 := m23.below hB46 l23
          have l23 := Nat.lt_of_lt_of_le l23 hB46.size
          clear hB46 g24 l24
          refine hK.out _ _ trivial (fun hHeld => ?_)
          clear hK K
          try simp only [Act.put, List.setIfInBounds_toArray, List.set_cons_zero, List.set_cons_succ]
          refine wpAnyH_ready (rs := [17]) (by kernel_rfl) (by simp) ?_
          refine (AllReadyH.cons rfl (fun K hK => ?_) AllReadyH.nil)
          rw [if_pos (by rfl)]
          simp only [List.getElem_toArray, List.getElem_cons_zero, List.getElem_cons_succ]
          with_reducible refine S_append 25 B n la lc q ?_ T.links.own p24 ?_ (.pointer (some ⟨p23, 0, none⟩)) m24 (one_ptr _) hn T.hB ?_
          · rfl
          · rfl
          intro g cap v47 own grow hg lg
          have T1 := T.append HL own grow hg lg e23 l23 m23 HR.out HK.out HS.out
          refine hK.out _ _ trivial (fun hHeld => ?_)
          clear hK K
          try simp only [Act.put, List.setIfInBounds_toArray, List.set_cons_zero, List.set_cons_succ]
          refine H_take 18 26 (.pointer (some ⟨N, 0, none⟩)) rfl rfl (by kernel_rfl) (by kernel_rfl) (by kernel_rfl) (fun _ _ _ ⟨_, h, _⟩ => nomatch h) rfl ?_ hHeld ?_
          · intro _ _; go_simp
          try simp only [Act.put, List.setIfInBounds_toArray, List.set_cons_zero, List.set_cons_succ]
          refine H_take 19 27 (.pointer (some ⟨N, 25, none⟩)) rfl rfl (by kernel_rfl) (by kernel_rfl) (by kernel_rfl) (fun _ _ _ ⟨_, h, _⟩ => nomatch h) rfl ?_ hHeld ?_
          · intro _ _; go_simp
          try simp only [Act.put, List.setIfInBounds_toArray, List.set_cons_zero, List.set_cons_succ]
          refine wpAnyH_ready (rs := [20]) (by kernel_rfl) (by simp) ?_
          refine (AllReadyH.cons rfl (fun K hK => ?_) AllReadyH.nil)
          rw [if_pos (by rfl)]
          simp only [List.getElem_toArray, List.getElem_cons_zero, List.getElem_cons_succ]
          with_reducible refine S_cell 70 27 (.slice (some ⟨g, 0, none⟩) (n + 1) cap) (.slice la n lc) Try.sizeOf70 (cells_slice _ _ _) (one_slice _ _ _) N 25 ?_ ?_ T1.cell25 ?_
          · rfl
          · rfl
          intro v48 m25 o25
          have T2 := T1.stored HL m25 o25
          refine hK.out _ _ trivial (fun hHeld => ?_)
          clear hK K
          try simp only [Act.put]
          refine wpAnyH_done (by kernel_rfl) ?_ _
          exact ⟨(p23, p24, g, cap), rfl, rfl, T2⟩
        · rw [if_pos (by rfl)]
          simp only [List.getElem_toArray, List.getElem_cons_zero, List.getElem_cons_succ]
          with_reducible refine S_box 64 23 (linkL L n r k s) ?_ ?_
          · rfl
          intro p23 v49 g23 l23 m23 hB49
          have e23 := T.fresh g23
          have T := T.below hB49
          clear hB49 g23
          refine hK.out _ _ trivial (fun hHeld => ?_)
          clear hK K
          try simp only [Act.put, List.setIfInBounds_toArray, List.set_cons_zero, List.set_cons_succ]
          refine wpAnyH_ready (rs := [4, 16]) (by kernel_rfl) (by simp) ?_
          refine (AllReadyH.cons rfl (fun K hK => ?_) (AllReadyH.cons rfl (fun K hK => ?_) AllReadyH.nil))
          · have hcl := T.node.lk
            go_simp
            clear hcl
            refine hK.out _ _ trivial (fun hHeld => ?_)
            clear hK K
            try simp only [Act.put, List.setIfInBounds_toArray, List.set_cons_zero, List.set_cons_succ]
            refine wpAnyH_ready (rs := [16]) (by kernel_rfl) (by simp) ?_
            refine (AllReadyH.cons rfl (fun K hK => ?_) AllReadyH.nil)
            rw [if_pos (by rfl)]
            simp only [List.getElem_toArray, List.getElem_cons_zero, List.getElem_cons_succ]
            with_reducible refine S_bslice 24 (⟨p23, 0, none⟩) ?_ ?_
            · rfl
            intro p24 v51 g24 l24 m24 hB51
            have T := T.below hB51
            have m23 := m23.below hB51 l23
            have l23 := Nat.lt_of_lt_of_le l23 hB51.size
            clear hB51 g24 l24
            refine hK.out _ _ trivial (fun hHeld => ?_)
            clear hK K
            try simp only [Act.put, List.setIfInBounds_toArray, List.set_cons_zero, List.set_cons_succ]
            refine wpAnyH_ready (rs := [17]) (by kernel_rfl) (by simp) ?_
            refine (AllReadyH.cons rfl (fun K hK => ?_) AllReadyH.nil)
            rw [if_pos (by rfl)]
            simp only [List.getElem_toArray, List.getElem_cons_zero, List.getElem_cons_succ]
            with_reducible refine S_append 25 B n la lc q ?_ T.links.own p24 ?_ (.pointer (some ⟨p23, 0, none⟩)) m24 (one_ptr _) hn T.hB ?_
            · rfl
            · rfl
            intro g cap v52 own grow hg lg
            have T1 := T.append HL own grow hg lg e23 l23 m23 HR.out HK.out HS.out
            refine hK.out _ _ trivial (fun hHeld => ?_)
            clear hK K
            try simp only [Act.put, List.setIfInBounds_toArray, List.set_cons_zero, List.set_cons_succ]
            refine H_take 18 26 (.pointer (some ⟨N, 0, none⟩)) rfl rfl (by kernel_rfl) (by kernel_rfl) (by kernel_rfl) (fun _ _ _ ⟨_, h, _⟩ => nomatch h) rfl ?_ hHeld ?_
            · intro _ _; go_simp
            try simp only [Act.put, List.setIfInBounds_toArray, List.set_cons_zero, List.set_cons_succ]
            refine H_take 19 27 (.pointer (some ⟨N, 25, none⟩)) rfl rfl (by kernel_rfl) (by kernel_rfl) (by kernel_rfl) (fun _ _ _ ⟨_, h, _⟩ => nomatch h) rfl ?_ hHeld ?_
            · intro _ _; go_simp
            try simp only [Act.put, List.setIfInBounds_toArray, List.set_cons_zero, List.set_cons_succ]
            refine wpAnyH_ready (rs := [20]) (by kernel_rfl) (by simp) ?_
            refine (AllReadyH.cons rfl (fun K hK => ?_) AllReadyH.nil)
            rw [if_pos (by rfl)]
            simp only [List.getElem_toArray, List.getElem_cons_zero, List.getElem_cons_succ]
            with_reducible refine S_cell 70 27 (.slice (some ⟨g, 0, none⟩) (n + 1) cap) (.slice la n lc) Try.sizeOf70 (cells_slice _ _ _) (one_slice _ _ _) N 25 ?_ ?_ T1.cell25 ?_
            · rfl
            · rfl
            intro v53 m25 o25
            have T2 := T1.stored HL m25 o25
            refine hK.out _ _ trivial (fun hHeld => ?_)
            clear hK K
            try simp only [Act.put]
            refine wpAnyH_done (by kernel_rfl) ?_ _
            exact ⟨(p23, p24, g, cap), rfl, rfl, T2⟩
          · rw [if_pos (by rfl)]
            simp only [List.getElem_toArray, List.getElem_cons_zero, List.getElem_cons_succ]
            with_reducible refine S_bslice 24 (⟨p23, 0, none⟩) ?_ ?_
            · rfl
            intro p24 v54 g24 l24 m24 hB54
            have T := T.below hB54
            have m23 := m23.below hB54 l23
            have l23 := Nat.lt_of_lt_of_le l23 hB54.size
            clear hB54 g24 l24
            refine hK.out _ _ trivial (fun hHeld => ?_)
            clear hK K
            try simp only [Act.put, List.setIfInBounds_toArray, List.set_cons_zero, List.set_cons_succ]
            refine wpAnyH_ready (rs := [4]) (by kernel_rfl) (by simp) ?_
            refine (AllReadyH.cons rfl (fun K hK => ?_) AllReadyH.nil)
            have hcl := T.node.lk
            go_simp
            clear hcl
            refine hK.out _ _ trivial (fun hHeld => ?_)
            clear hK K
            try simp only [Act.put, List.setIfInBounds_toArray, List.set_cons_zero, List.set_cons_succ]
            refine wpAnyH_ready (rs := [17]) (by kernel_rfl) (by simp) ?_
            refine (AllReadyH.cons rfl (fun K hK => ?_) AllReadyH.nil)
            rw [if_pos (by rfl)]
            simp only [List.getElem_toArray, List.getElem_cons_zero, List.getElem_cons_succ]
            with_reducible refine S_append 25 B n la lc q ?_ T.links.own p24 ?_ (.pointer (some ⟨p23, 0, none⟩)) m24 (one_ptr _) hn T.hB ?_
            · rfl
            · rfl
            intro g cap v56 own grow hg lg
            have T1 := T.append HL own grow hg lg e23 l23 m23 HR.out HK.out HS.out
            refine hK.out _ _ trivial (fun hHeld => ?_)
            clear hK K
            try simp only [Act.put, List.setIfInBounds_toArray, List.set_cons_zero, List.set_cons_succ]
            refine H_take 18 26 (.pointer (some ⟨N, 0, none⟩)) rfl rfl (by kernel_rfl) (by kernel_rfl) (by kernel_rfl) (fun _ _ _ ⟨_, h, _⟩ => nomatch h) rfl ?_ hHeld ?_
            · intro _ _; go_simp
            try simp only [Act.put, List.setIfInBounds_toArray, List.set_cons_zero, List.set_cons_succ]
            refine H_take 19 27 (.pointer (some ⟨N, 25, none⟩)) rfl rfl (by kernel_rfl) (by kernel_rfl) (by kernel_rfl) (fun _ _ _ ⟨_, h, _⟩ => nomatch h) rfl ?_ hHeld ?_
            · intro _ _; go_simp
            try simp only [Act.put, List.setIfInBounds_toArray, List.set_cons_zero, List.set_cons_succ]
            refine wpAnyH_ready (rs := [20]) (by kernel_rfl) (by simp) ?_
            refine (AllReadyH.cons rfl (fun K hK => ?_) AllReadyH.nil)
            rw [if_pos (by rfl)]
            simp only [List.getElem_toArray, List.getElem_cons_zero, List.getElem_cons_succ]
            with_reducible refine S_cell 70 27 (.slice (some ⟨g, 0, none⟩) (n + 1) cap) (.slice la n lc) Try.sizeOf70 (cells_slice _ _ _) (one_slice _ _ _) N 25 ?_ ?_ T1.cell25 ?_
            · rfl
            · rfl
            intro v57 m25 o25
            have T2 := T1.stored HL m25 o25
            refine hK.out _ _ trivial (fun hHeld => ?_)
            clear hK K
            try simp only [Act.put]
            refine wpAnyH_done (by kernel_rfl) ?_ _
            exact ⟨(p23, p24, g, cap), rfl, rfl, T2⟩

  · rintro ⟨p23, p24, g, cap⟩ w6 ⟨B6, M6, K6⟩
    simp only [Act.put, List.setIfInBounds_toArray, List.set_cons_zero, List.set_cons_succ]
    have hc := M6.fd
    have hf := M6.fr 204
    go_wp2_with fail
    go_end0
    have o6 : Only N 204 1 w6 (w6.setCell ⟨N, 204, none⟩ (.bool false)) := Only.setCell _ _ (Nat.le_refl _) (by omega)
    have l6 := M6.lt
    exact ⟨rfl, B6.trans (o6.below hBN (Nat.le_trans hBw B6.size)), _, ⟨M6.slf.only l6 o6 (.inr (by rw [L_len HL]; omega)), (o6.cell _ (by omega)).trans M6.lk, M6.z.only l6 o6 (.inr (by rw [midL_len HL]; omega)), World.cell?_setCell_same _ _ _ M6.fd, fun j => (o6.frozen j).trans (M6.fr j)⟩, p23, K6.only o6⟩
end Go.Proofs.Qxb6609493a
