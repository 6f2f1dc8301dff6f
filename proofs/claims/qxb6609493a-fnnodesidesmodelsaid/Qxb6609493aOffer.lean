import Derived.Test.Qxb6609493aNear
namespace Go.Proofs.Qxb6609493a
open Go.RowKit

def upd {α : Type} (f : Nat → α) (k : Nat) (v : α) : Nat → α := fun j => if j = k then v else f j
theorem NearAt.setP {L : (Nat → Int) → List Value} (HL : IsL L) {w w' : World} {b o : Nat} {s : Nr} (h : NearAt L w b o s) (k : Nat) (hk : k < 2) (v : Value) (hm : w'.cell? ⟨b, o + k, none⟩ = some v) (hO : Only b (o + k) 1 w w') : NearAt L w' b o { s with p := upd s.p k v } := by
  have hb := h.lt
  refine ⟨fun i hi => ?_, fun i hi => (h.r i hi).only hb hO (.inr (by rw [L_len HL]; omega)), (hO.cell _ (by omega)).trans h.n, fun j => (hO.frozen j).trans (h.fr j)⟩
  show _ = some (if i = k then v else s.p i)
  by_cases e : i = k
  · subst e; rw [if_pos rfl]; exact hm
  · rw [if_neg e]; exact (hO.cell _ (by omega)).trans (h.p i hi)
theorem NearAt.setR {L : (Nat → Int) → List Value} (HL : IsL L) {w w' : World} {b o : Nat} {s : Nr} (h : NearAt L w b o s) (k : Nat) (hk : k < 2) (r : Nat → Int) (hm : Mem w' b (o + 2 + k * 20) (L r)) (hO : Only b (o + 2 + k * 20) 20 w w') : NearAt L w' b o { s with r := upd s.r k r } := by
  have hb := h.lt
  refine ⟨fun i hi => (hO.cell _ (by omega)).trans (h.p i hi), fun i hi => ?_, (hO.cell _ (by omega)).trans h.n, fun j => (hO.frozen j).trans (h.fr j)⟩
  show Mem _ _ _ (L (if i = k then r else s.r i))
  by_cases e : i = k
  · subst e; rw [if_pos rfl]; exact hm
  · rw [if_neg e]; exact (h.r i hi).only hb hO (.inr (by rw [L_len HL]; omega))
theorem NearAt.setN {L : (Nat → Int) → List Value} (HL : IsL L) {w : World} {b o : Nat} {s : Nr} (h : NearAt L w b o s) (m : Nat) : NearAt L (w.setCell ⟨b, o + 42, none⟩ (.int .i64 m)) b o { s with n := m } := by
  have hb := h.lt
  have hO : Only b (o + 42) 1 w (w.setCell ⟨b, o + 42, none⟩ (.int .i64 m)) := Only.setCell _ _ (Nat.le_refl _) (by omega)
  exact ⟨fun i hi => (hO.cell _ (by omega)).trans (h.p i hi), fun i hi => (h.r i hi).only hb hO (.inr (by rw [L_len HL]; omega)), World.cell?_setCell_same _ _ _ h.n, fun j => (hO.frozen j).trans (h.fr j)⟩
theorem NearAt.congr {L : (Nat → Int) → List Value} {w : World} {b o : Nat} {s t : Nr} (h : NearAt L w b o s) (hp : ∀ k, k < 2 → s.p k = t.p k) (hr : ∀ k, k < 2 → s.r k = t.r k) (hn : s.n = t.n) : NearAt L w b o t :=
  ⟨fun k hk => by rw [← hp k hk]; exact h.p k hk, fun k hk => by rw [← hr k hk]; exact h.r k hk, by rw [← hn]; exact h.n, h.fr⟩

theorem cells_ptr (q : Addr) : (Value.pointer (some q)).cells = #[.pointer (some q)] := rfl
theorem one_ptr (q : Addr) : (Value.pointer (some q)).oneCell' = true := rfl
theorem L_equal51 {L : (Nat → Int) → List Value} (HL : IsL L) (r s : Nat → Int) (hr : Ok r) (hs : Ok s) (w : World) : (Op.equalIn 10000 51 (.agg (L r).toArray) (.agg (L s).toArray)).run Try.prog w = .ok (decide (V r = V s)) w := by
  rw [HL r, HL s, run_equal20 51 Try.underlying51 9998 r s w, eqF_V hr hs]
section
variable {a : Act} {w : World} {Q : Exit → Act → World → Prop} {K : Act → World → Prop}
/-- A store of one cell, at its step. -/
theorem S_cell (t k : Nat) {y : Operand} {ty : TypeId} {pos : String} {after : Array Edge} {g : Option (Nat × Bool)} (v v0 : Value) (hz : ∀ w, (sizeOf t).run Try.prog w = .ok 1 w) (hc : v.cells = #[v]) (hv : v.oneCell' = true) (b o : Nat) (hx : a.eval (.tmp k) = .pointer (some ⟨b, o, none⟩)) (hy : a.eval y = v) (h0 : Mem w b o [v0])
    (h : ∀ w', Mem w' b o [v] → Only b o 1 w w' → K (a.put none undef) w') : Oper.wp Try.prog { dst := none, op := .store t (.tmp k) y, type := ty, pos := pos, after := after, guard := g } a w K Q := by
  have hst := run_storeCells_cells (P := Try.prog) b o [v] 0 w (fun j hj => by simpa using (h0.there j hj).1) (fun j hj => by simpa using (h0.there j hj).2) (by simpa using hv)
  obtain ⟨h1, h2⟩ := mem_one h0 v
  unfold Oper.wp
  simp only [execOp, hx, hy, Instr.storeAt, Instr.sureAddr, Sem.run_bind, Sem.run_pure, Result.andThen_ok, storeVar, hz, hc]
  simp only [List.size_toArray, List.length_cons, List.length_nil, ne_eq, not_true_eq_false, if_false, hst, Result.andThen_ok]
  exact h _ h1 h2
/-- 'copy' of n rows. -/
theorem S_copyR (k : Nat) {d s : Operand} {t t' ty : TypeId} {pos : String} {after : Array Edge} {g : Option (Nat × Bool)} (elem : TypeId) (m b o dLen dCap b' o' sLen sCap : Nat) (cs : List Value) (hd : a.eval d = .slice (some ⟨b, o, none⟩) dLen dCap) (hs : a.eval s = .slice (some ⟨b', o', none⟩) sLen sCap)
    (hu : Try.prog.underlying t = some (.slice elem)) (hz : (Try.prog.info? elem).map (·.size) = some m) (hn : cs.length = Nat.min sLen dLen * m) (hsrc : Mem w b' o' cs) (hdst : w.there b o cs.length) (h1 : ∀ v ∈ cs, v.oneCell' = true)
    (h : ∀ w', Mem w' b o cs → Only b o cs.length w w' → K (a.put (some k) (goInt (Nat.min sLen dLen))) w') :
    Oper.wp Try.prog { dst := some k, op := .call { callee := .builtin .copy, args := #[d, s], argTypes := #[t, t'] }, type := ty, pos := pos, after := after, guard := g } a w K Q := by
  refine S_copy k _ _ hd hs (run_copy_rows w t t' ty elem m b o dLen dCap b' o' sLen sCap cs hu hz hn hsrc hdst h1) ?_
  exact h _ (Mem.mk (World.rangeAt_setCells_same w b o cs hdst) (World.there_setCells hdst b o _)) (Only.setCells b cs o w)
theorem S_copyZ (k : Nat) {d s : Operand} {t t' ty : TypeId} {pos : String} {after : Array Edge} {g : Option (Nat × Bool)} (elem : TypeId) (m b o dCap b' o' sLen sCap : Nat) (hd : a.eval d = .slice (some ⟨b, o, none⟩) 0 dCap) (hs : a.eval s = .slice (some ⟨b', o', none⟩) sLen sCap)
    (hu : Try.prog.underlying t = some (.slice elem)) (hz : (Try.prog.info? elem).map (·.size) = some m) (h : K (a.put (some k) (goInt 0)) w) :
    Oper.wp Try.prog { dst := some k, op := .call { callee := .builtin .copy, args := #[d, s], argTypes := #[t, t'] }, type := ty, pos := pos, after := after, guard := g } a w K Q :=
  S_copy k _ _ hd hs (run_copy_zero w t t' ty elem m b o dCap b' o' sLen sCap hu hz) h
end

/-- A link put in at the k-th place. -/
def insAt (s : Nr) (k : Nat) (p : Value) (r : Nat → Int) : Nr :=
  ⟨fun j => if j = k then p else if k < j ∧ j ≤ s.n then s.p (j - 1) else s.p j, fun j => if j = k then r else if k < j ∧ j ≤ s.n then s.r (j - 1) else s.r j, min (s.n + 1) 2⟩
/-- What 'offer' makes of a side. -/
def Offered (s : Nr) (p : Value) (r : Nat → Int) (s' : Nr) : Prop :=
  ∃ k, k ≤ s.n ∧ (∀ j, j < k → V (s.r j) < V r) ∧ (k = s.n ∨ V r ≤ V (s.r k)) ∧ (((k = 2 ∨ (k < s.n ∧ V (s.r k) = V r)) ∧ s' = s) ∨ (k < 2 ∧ ¬ (k < s.n ∧ V (s.r k) = V r) ∧ s' = insAt s k p r))

set_option maxHeartbeats 4000000 in
theorem offer_any {L : (Nat → Int) → List Value} (HL : IsL L) (b o : Nat) (s : Nr) (q : Addr) (r : Nat → Int) (w : World) (hn : s.n ≤ 2) (hok : Hid (∀ k, k < 2 → Ok (s.r k))) (hr : Hid (Ok r)) (hN : Hid (NearAt L w b o s)) (hop : Hid (∀ k, k < 2 → (s.p k).oneCell' = true)) :
    Calls Try.prog 23 #[.pointer (some ⟨b, o, none⟩), .pointer (some q), .agg (L r).toArray] w fun e w' => e = .returned (.tuple #[]) ∧ ∃ s', Offered s (.pointer (some q)) r s' ∧ NearAt L w' b o s' ∧ Only b o 43 w w' := by
  go_enter Try.func23, Try.ntmps23
  go_wp2_with ((with_reducible refine D_box 51 5 (L r) ?_ ?_); (rfl); (intro p5 w5 g5 l5 m5 B5))
  have lb := hN.out.lt
  have n5 : b ≠ p5 := by omega
  have hN5 : Hid (NearAt L w5 b o s) := hN.out.below B5 lb
  have BW : Hid (Below w.heap.size w w5) := B5
  have H5 : Hid (Mem w5 p5 0 (L r)) := m5
  have lb5 := hN5.out.lt
  clear B5 m5 g5
  obtain ⟨n, hnn⟩ : ∃ n, n = s.n := ⟨_, rfl⟩
  rw [← hnn] at hn
  have HNN : Hid (n = s.n) := hnn
  clear hnn
  go_loopw [6] (fun i wr => ∃ k : Nat, k ≤ n ∧ i = .int .i64 k ∧ Hid (∀ j, j < k → V (s.r j) < V r) ∧ Hid (Below w5.heap.size w5 wr)) (fun i _ => 2 - (intOf i).toNat)
  case atStart => exact ⟨0, by omega, rfl, fun j hj => (by omega), Below.refl _ _⟩
  case round =>
    obtain ⟨k, hk, rfl, HJ, HB⟩ := hrel
    have lr := Nat.lt_of_lt_of_le lb5 HB.out.size
    have lr5 := Nat.lt_of_lt_of_le l5 HB.out.size
    have hNr : Hid (NearAt L wr b o s) := hN5.out.below HB.out lb5
    have H5r : Hid (Mem wr p5 0 (L r)) := H5.out.below HB.out l5
    have hcn : wr.cell? ⟨b, o + 42, none⟩ = some (.int .i64 n) := by rw [HNN.out]; exact hNr.out.n
    by_cases hkn : k < n
    · have hk2 : k < 2 := by omega
      have hI1 : (k : Int) < (n : Int) := by omega
      have hI2 : (0 : Int) ≤ (k : Int) := by omega
      have hI3 : (k : Int) < 2 := by omega
      have HRk : Hid (Mem wr b (o + 2 + k * 20) (L (s.r k))) := hNr.out.r k hk2
      obtain ⟨z, hz⟩ : ∃ z, z = sg (V (s.r k)) (V r) := ⟨_, rfl⟩
      have HC : Hid (∀ w : World, Calls Try.prog 28 #[.agg (L (s.r k)).toArray, .agg (L r).toArray] w fun e w' => e = .returned (.int .i64 z) ∧ Below w.heap.size w w') := by
        intro w; rw [hz]; exact cmp_any HL _ _ w (hok.out k hk2) hr
      have HZ : Hid (z < 0 ↔ V (s.r k) < V r) := by rw [hz]; exact sg_neg _ _
      clear hz
      by_cases hzn : z < 0
      · go_wp2_with fail
        refine wp_region_held_drew (S := fun w' => Below wr.heap.size wr w') (by kernel_rfl) (below_drew _ wr) (fun hHeld => ?_)
        refine H_move 0 7 (.int .i64 k) rfl (by kernel_rfl) (by kernel_rfl) (by kernel_rfl) (fun _ _ _ h => h) rfl rfl hHeld ?_
        try simp only [Act.put, List.setIfInBounds_toArray, List.set_cons_zero, List.set_cons_succ]
        refine H_move 1 8 (.pointer (some ⟨b, o, none⟩)) rfl (by kernel_rfl) (by kernel_rfl) (by kernel_rfl) (fun _ _ _ h => h) rfl rfl hHeld ?_
        try simp only [Act.put, List.setIfInBounds_toArray, List.set_cons_zero, List.set_cons_succ]
        refine H_take 2 9 (.pointer (some ⟨b, o, none⟩)) rfl rfl (by kernel_rfl) (by kernel_rfl) (by kernel_rfl) (fun _ _ _ h => h) rfl ?_ hHeld ?_
        · intro _ _; go_simp
        try simp only [Act.put, List.setIfInBounds_toArray, List.set_cons_zero, List.set_cons_succ]
        refine H_take 3 10 (.pointer (some ⟨b, o + 42, none⟩)) rfl rfl (by kernel_rfl) (by kernel_rfl) (by kernel_rfl) (fun _ _ _ h => h) rfl ?_ hHeld ?_
        · intro _ _; go_simp
        try simp only [Act.put, List.setIfInBounds_toArray, List.set_cons_zero, List.set_cons_succ]
        refine H_take 4 11 (.int .i64 n) rfl rfl (by kernel_rfl) (by kernel_rfl) (by kernel_rfl) (fun _ _ _ h => h) rfl ?_ hHeld ?_
        · intro w' h; have hc := (h.cell (p := ⟨b, o + 42, none⟩) lr).trans hcn; go_simp
        try simp only [Act.put, List.setIfInBounds_toArray, List.set_cons_zero, List.set_cons_succ]
        refine H_take 5 12 (.bool true) rfl rfl (by kernel_rfl) (by kernel_rfl) (by kernel_rfl) (fun _ _ _ h => h) rfl ?_ hHeld ?_
        · intro _ _; go_simp
        try simp only [Act.put, List.setIfInBounds_toArray, List.set_cons_zero, List.set_cons_succ]
        refine H_move 6 13 (.bool true) rfl (by kernel_rfl) (by kernel_rfl) (by kernel_rfl) (fun _ _ _ h => h) rfl rfl hHeld ?_
        try simp only [Act.put, List.setIfInBounds_toArray, List.set_cons_zero, List.set_cons_succ]
        refine H_move 7 14 (.pointer (some ⟨b, o, none⟩)) rfl (by kernel_rfl) (by kernel_rfl) (by kernel_rfl) (fun _ _ _ h => h) rfl rfl hHeld ?_
        try simp only [Act.put, List.setIfInBounds_toArray, List.set_cons_zero, List.set_cons_succ]
        refine H_move 8 15 (.int .i64 k) rfl (by kernel_rfl) (by kernel_rfl) (by kernel_rfl) (fun _ _ _ h => h) rfl rfl hHeld ?_
        try simp only [Act.put, List.setIfInBounds_toArray, List.set_cons_zero, List.set_cons_succ]
        refine H_take 9 16 (.pointer (some ⟨b, o, none⟩)) rfl rfl (by kernel_rfl) (by kernel_rfl) (by kernel_rfl) (fun _ _ _ h => h) rfl ?_ hHeld ?_
        · intro _ _; go_simp
        try simp only [Act.put, List.setIfInBounds_toArray, List.set_cons_zero, List.set_cons_succ]
        refine H_take 10 17 (.pointer (some ⟨b, o + 2, none⟩)) rfl rfl (by kernel_rfl) (by kernel_rfl) (by kernel_rfl) (fun _ _ _ h => h) rfl ?_ hHeld ?_
        · intro _ _; go_simp
        try simp only [Act.put, List.setIfInBounds_toArray, List.set_cons_zero, List.set_cons_succ]
        refine H_take 11 18 (.pointer (some ⟨b, o + 2 + k * 20, none⟩)) rfl rfl (by kernel_rfl) (by kernel_rfl) (by kernel_rfl) (fun _ _ _ h => h) rfl ?_ hHeld ?_
        · intro _ _; go_simp
        try simp only [Act.put, List.setIfInBounds_toArray, List.set_cons_zero, List.set_cons_succ]
        refine H_load 51 12 19 ta51 (L (s.r k)) (L_len HL _) (b) (o + 2 + k * 20) rfl (by kernel_rfl) (by kernel_rfl) (by kernel_rfl) (fun _ _ _ h => h) rfl rfl (fun w' h => HRk.out.below h lr) hHeld ?_
        try simp only [Act.put, List.setIfInBounds_toArray, List.set_cons_zero, List.set_cons_succ]
        refine H_load 51 13 20 ta51 (L r) (L_len HL _) (p5) (0) rfl (by kernel_rfl) (by kernel_rfl) (by kernel_rfl) (fun _ _ _ h => h) rfl rfl (fun w' h => H5r.out.below h lr5) hHeld ?_
        try simp only [Act.put, List.setIfInBounds_toArray, List.set_cons_zero, List.set_cons_succ]
        refine wpAnyH_ready (rs := [14]) (by kernel_rfl) (by simp) ?_
        refine (AllReadyH.cons rfl (fun K hK => ?_) AllReadyH.nil)
        go_simp
        refine (HC.out _).mono ?_
        rintro e v1 ⟨rfl, hB1⟩
        refine hK.out _ _ (bl hHeld hB1) (fun hHeld => ?_)
        clear hK K
        try simp only [Act.put, List.setIfInBounds_toArray, List.set_cons_zero, List.set_cons_succ]
        refine H_take 15 22 (.bool true) rfl rfl (by kernel_rfl) (by kernel_rfl) (by kernel_rfl) (fun _ _ _ h => h) rfl ?_ hHeld ?_
        · intro _ _; go_simp
        try simp only [Act.put, List.setIfInBounds_toArray, List.set_cons_zero, List.set_cons_succ]
        refine H_take 16 23 (.bool true) rfl rfl (by kernel_rfl) (by kernel_rfl) (by kernel_rfl) (fun _ _ _ h => h) rfl ?_ hHeld ?_
        · intro _ _; go_simp
        try simp only [Act.put, List.setIfInBounds_toArray, List.set_cons_zero, List.set_cons_succ]
        refine wpAnyH_done (by kernel_rfl) ?_ _
        go_wp2_with fail
        go_roundw
        case rel =>
          refine ⟨k + 1, by omega, by go_num, fun j hj => ?_, bl HB.out hHeld⟩
          by_cases e : j = k
          · subst e; exact HZ.out.1 hzn
          · exact HJ.out j (by omega)
        case measure => simp [intOf]; omega
      · go_wp2_with fail
        refine wp_region_held_drew (S := fun w' => Below wr.heap.size wr w') (by kernel_rfl) (below_drew _ wr) (fun hHeld => ?_)
        refine H_move 0 7 (.int .i64 k) rfl (by kernel_rfl) (by kernel_rfl) (by kernel_rfl) (fun _ _ _ h => h) rfl rfl hHeld ?_
        try simp only [Act.put, List.setIfInBounds_toArray, List.set_cons_zero, List.set_cons_succ]
        refine H_move 1 8 (.pointer (some ⟨b, o, none⟩)) rfl (by kernel_rfl) (by kernel_rfl) (by kernel_rfl) (fun _ _ _ h => h) rfl rfl hHeld ?_
        try simp only [Act.put, List.setIfInBounds_toArray, List.set_cons_zero, List.set_cons_succ]
        refine H_take 2 9 (.pointer (some ⟨b, o, none⟩)) rfl rfl (by kernel_rfl) (by kernel_rfl) (by kernel_rfl) (fun _ _ _ h => h) rfl ?_ hHeld ?_
        · intro _ _; go_simp
        try simp only [Act.put, List.setIfInBounds_toArray, List.set_cons_zero, List.set_cons_succ]
        refine H_take 3 10 (.pointer (some ⟨b, o + 42, none⟩)) rfl rfl (by kernel_rfl) (by kernel_rfl) (by kernel_rfl) (fun _ _ _ h => h) rfl ?_ hHeld ?_
        · intro _ _; go_simp
        try simp only [Act.put, List.setIfInBounds_toArray, List.set_cons_zero, List.set_cons_succ]
        refine H_take 4 11 (.int .i64 n) rfl rfl (by kernel_rfl) (by kernel_rfl) (by kernel_rfl) (fun _ _ _ h => h) rfl ?_ hHeld ?_
        · intro w' h; have hc := (h.cell (p := ⟨b, o + 42, none⟩) lr).trans hcn; go_simp
        try simp only [Act.put, List.setIfInBounds_toArray, List.set_cons_zero, List.set_cons_succ]
        refine H_take 5 12 (.bool true) rfl rfl (by kernel_rfl) (by kernel_rfl) (by kernel_rfl) (fun _ _ _ h => h) rfl ?_ hHeld ?_
        · intro _ _; go_simp
        try simp only [Act.put, List.setIfInBounds_toArray, List.set_cons_zero, List.set_cons_succ]
        refine H_move 6 13 (.bool true) rfl (by kernel_rfl) (by kernel_rfl) (by kernel_rfl) (fun _ _ _ h => h) rfl rfl hHeld ?_
        try simp only [Act.put, List.setIfInBounds_toArray, List.set_cons_zero, List.set_cons_succ]
        refine H_move 7 14 (.pointer (some ⟨b, o, none⟩)) rfl (by kernel_rfl) (by kernel_rfl) (by kernel_rfl) (fun _ _ _ h => h) rfl rfl hHeld ?_
        try simp only [Act.put, List.setIfInBounds_toArray, List.set_cons_zero, List.set_cons_succ]
        refine H_move 8 15 (.int .i64 k) rfl (by kernel_rfl) (by kernel_rfl) (by kernel_rfl) (fun _ _ _ h => h) rfl rfl hHeld ?_
        try simp only [Act.put, List.setIfInBounds_toArray, List.set_cons_zero, List.set_cons_succ]
        refine H_take 9 16 (.pointer (some ⟨b, o, none⟩)) rfl rfl (by kernel_rfl) (by kernel_rfl) (by kernel_rfl) (fun _ _ _ h => h) rfl ?_ hHeld ?_
        · intro _ _; go_simp
        try simp only [Act.put, List.setIfInBounds_toArray, List.set_cons_zero, List.set_cons_succ]
        refine H_take 10 17 (.pointer (some ⟨b, o + 2, none⟩)) rfl rfl (by kernel_rfl) (by kernel_rfl) (by kernel_rfl) (fun _ _ _ h => h) rfl ?_ hHeld ?_
        · intro _ _; go_simp
        try simp only [Act.put, List.setIfInBounds_toArray, List.set_cons_zero, List.set_cons_succ]
        refine H_take 11 18 (.pointer (some ⟨b, o + 2 + k * 20, none⟩)) rfl rfl (by kernel_rfl) (by kernel_rfl) (by kernel_rfl) (fun _ _ _ h => h) rfl ?_ hHeld ?_
        · intro _ _; go_simp
        try simp only [Act.put, List.setIfInBounds_toArray, List.set_cons_zero, List.set_cons_succ]
        refine H_load 51 12 19 ta51 (L (s.r k)) (L_len HL _) (b) (o + 2 + k * 20) rfl (by kernel_rfl) (by kernel_rfl) (by kernel_rfl) (fun _ _ _ h => h) rfl rfl (fun w' h => HRk.out.below h lr) hHeld ?_
        try simp only [Act.put, List.setIfInBounds_toArray, List.set_cons_zero, List.set_cons_succ]
        refine H_load 51 13 20 ta51 (L r) (L_len HL _) (p5) (0) rfl (by kernel_rfl) (by kernel_rfl) (by kernel_rfl) (fun _ _ _ h => h) rfl rfl (fun w' h => H5r.out.below h lr5) hHeld ?_
        try simp only [Act.put, List.setIfInBounds_toArray, List.set_cons_zero, List.set_cons_succ]
        refine wpAnyH_ready (rs := [14]) (by kernel_rfl) (by simp) ?_
        refine (AllReadyH.cons rfl (fun K hK => ?_) AllReadyH.nil)
        go_simp
        refine (HC.out _).mono ?_
        rintro e X ⟨rfl, hB1⟩
        refine hK.out _ _ (bl hHeld hB1) (fun hHeld => ?_)
        clear hK K
        try simp only [Act.put, List.setIfInBounds_toArray, List.set_cons_zero, List.set_cons_succ]
        refine H_take 15 22 (.bool false) rfl rfl (by kernel_rfl) (by kernel_rfl) (by kernel_rfl) (fun _ _ _ h => h) rfl ?_ hHeld ?_
        · intro _ _; go_simp
        try simp only [Act.put, List.setIfInBounds_toArray, List.set_cons_zero, List.set_cons_succ]
        refine H_take 16 23 (.bool false) rfl rfl (by kernel_rfl) (by kernel_rfl) (by kernel_rfl) (fun _ _ _ h => h) rfl ?_ hHeld ?_
        · intro _ _; go_simp
        try simp only [Act.put, List.setIfInBounds_toArray, List.set_cons_zero, List.set_cons_succ]
        refine wpAnyH_done (by kernel_rfl) ?_ _
        go_wp2_with fail
        have HBX : Hid (Below w.heap.size w X) := bl (bl BW.out HB.out) hHeld
        have hNX : Hid (NearAt L X b o s) := hNr.out.below hHeld lr
        have H5X : Hid (Mem X p5 0 (L r)) := H5r.out.below hHeld lr5
        have lX := hNX.out.lt
        have l5X := Nat.lt_of_lt_of_le lr5 hHeld.size
        clear hHeld
        rcases (by omega : (k = 0 ∧ n = 1) ∨ (k = 0 ∧ n = 2) ∨ (k = 1 ∧ n = 2)) with ⟨hk0, hn0⟩ | ⟨hk0, hn0⟩ | ⟨hk0, hn0⟩
        all_goals (subst hk0; subst hn0)
        · have hcX : X.cell? ⟨b, o + 42, none⟩ = some (.int .i64 1) := by have h := hNX.out.n; rw [← HNN.out] at h; exact h
          by_cases hE : V (s.r 0) = V r
          · refine wp_region_held_drew (S := fun w' => Below X.heap.size X w') (by kernel_rfl) (below_drew _ X) (fun hHeld => ?_)
            refine H_move 0 26 (.int .i64 0) rfl (by kernel_rfl) (by kernel_rfl) (by kernel_rfl) (fun _ _ _ h => h) rfl rfl hHeld ?_
            try simp only [Act.put, List.setIfInBounds_toArray, List.set_cons_zero, List.set_cons_succ]
            refine H_take 1 27 (.bool false) rfl rfl (by kernel_rfl) (by kernel_rfl) (by kernel_rfl) (fun _ _ _ h => h) rfl ?_ hHeld ?_
            · intro _ _; go_simp
            try simp only [Act.put, List.setIfInBounds_toArray, List.set_cons_zero, List.set_cons_succ]
            refine H_move 2 28 (.bool false) rfl (by kernel_rfl) (by kernel_rfl) (by kernel_rfl) (fun _ _ _ h => h) rfl rfl hHeld ?_
            try simp only [Act.put, List.setIfInBounds_toArray, List.set_cons_zero, List.set_cons_succ]
            refine H_move 3 29 (.int .i64 0) rfl (by kernel_rfl) (by kernel_rfl) (by kernel_rfl) (fun _ _ _ h => h) rfl rfl hHeld ?_
            try simp only [Act.put, List.setIfInBounds_toArray, List.set_cons_zero, List.set_cons_succ]
            refine H_move 4 30 (.pointer (some ⟨b, o, none⟩)) rfl (by kernel_rfl) (by kernel_rfl) (by kernel_rfl) (fun _ _ _ h => h) rfl rfl hHeld ?_
            try simp only [Act.put, List.setIfInBounds_toArray, List.set_cons_zero, List.set_cons_succ]
            refine H_take 5 31 (.pointer (some ⟨b, o, none⟩)) rfl rfl (by kernel_rfl) (by kernel_rfl) (by kernel_rfl) (fun _ _ _ h => h) rfl ?_ hHeld ?_
            · intro _ _; go_simp
            try simp only [Act.put, List.setIfInBounds_toArray, List.set_cons_zero, List.set_cons_succ]
            refine H_take 6 32 (.pointer (some ⟨b, o + 42, none⟩)) rfl rfl (by kernel_rfl) (by kernel_rfl) (by kernel_rfl) (fun _ _ _ h => h) rfl ?_ hHeld ?_
            · intro _ _; go_simp
            try simp only [Act.put, List.setIfInBounds_toArray, List.set_cons_zero, List.set_cons_succ]
            refine H_take 7 33 (.int .i64 1) rfl rfl (by kernel_rfl) (by kernel_rfl) (by kernel_rfl) (fun _ _ _ h => h) rfl ?_ hHeld ?_
            · intro w' h; have hc := (h.cell (p := ⟨b, o + 42, none⟩) lX).trans hcX; go_simp
            try simp only [Act.put, List.setIfInBounds_toArray, List.set_cons_zero, List.set_cons_succ]
            refine H_take 8 34 (.bool true) rfl rfl (by kernel_rfl) (by kernel_rfl) (by kernel_rfl) (fun _ _ _ h => h) rfl ?_ hHeld ?_
            · intro _ _; go_simp
            try simp only [Act.put, List.setIfInBounds_toArray, List.set_cons_zero, List.set_cons_succ]
            refine H_move 9 35 (.bool true) rfl (by kernel_rfl) (by kernel_rfl) (by kernel_rfl) (fun _ _ _ h => h) rfl rfl hHeld ?_
            try simp only [Act.put, List.setIfInBounds_toArray, List.set_cons_zero, List.set_cons_succ]
            refine H_move 10 36 (.pointer (some ⟨b, o, none⟩)) rfl (by kernel_rfl) (by kernel_rfl) (by kernel_rfl) (fun _ _ _ h => h) rfl rfl hHeld ?_
            try simp only [Act.put, List.setIfInBounds_toArray, List.set_cons_zero, List.set_cons_succ]
            refine H_move 11 37 (.int .i64 0) rfl (by kernel_rfl) (by kernel_rfl) (by kernel_rfl) (fun _ _ _ h => h) rfl rfl hHeld ?_
            try simp only [Act.put, List.setIfInBounds_toArray, List.set_cons_zero, List.set_cons_succ]
            refine H_take 12 38 (.pointer (some ⟨b, o, none⟩)) rfl rfl (by kernel_rfl) (by kernel_rfl) (by kernel_rfl) (fun _ _ _ h => h) rfl ?_ hHeld ?_
            · intro _ _; go_simp
            try simp only [Act.put, List.setIfInBounds_toArray, List.set_cons_zero, List.set_cons_succ]
            refine H_take 13 39 (.pointer (some ⟨b, o + 2, none⟩)) rfl rfl (by kernel_rfl) (by kernel_rfl) (by kernel_rfl) (fun _ _ _ h => h) rfl ?_ hHeld ?_
            · intro _ _; go_simp
            try simp only [Act.put, List.setIfInBounds_toArray, List.set_cons_zero, List.set_cons_succ]
            refine H_take 14 40 (.pointer (some ⟨b, o + 2, none⟩)) rfl rfl (by kernel_rfl) (by kernel_rfl) (by kernel_rfl) (fun _ _ _ h => h) rfl ?_ hHeld ?_
            · intro _ _; go_simp
            try simp only [Act.put, List.setIfInBounds_toArray, List.set_cons_zero, List.set_cons_succ]
            refine H_load 51 15 41 ta51 (L (s.r 0)) (L_len HL _) (b) (o + 2) rfl (by kernel_rfl) (by kernel_rfl) (by kernel_rfl) (fun _ _ _ h => h) rfl rfl (fun w' h => (hNX.out.r 0 (by omega)).below h lX) hHeld ?_
            try simp only [Act.put, List.setIfInBounds_toArray, List.set_cons_zero, List.set_cons_succ]
            refine H_load 51 16 42 ta51 (L r) (L_len HL _) (p5) (0) rfl (by kernel_rfl) (by kernel_rfl) (by kernel_rfl) (fun _ _ _ h => h) rfl rfl (fun w' h => H5X.out.below h l5X) hHeld ?_
            try simp only [Act.put, List.setIfInBounds_toArray, List.set_cons_zero, List.set_cons_succ]
            refine H_take 17 43 (.bool true) rfl rfl (by kernel_rfl) (by kernel_rfl) (by kernel_rfl) (fun _ _ _ h => h) rfl ?_ hHeld ?_
            · intro w' _; have hq := L_equal51 HL (s.r 0) r (hok.out 0 (by omega)) hr.out w'; rw [decide_eq_true hE] at hq; go_simp
            try simp only [Act.put, List.setIfInBounds_toArray, List.set_cons_zero, List.set_cons_succ]
            refine H_take 18 44 (.bool true) rfl rfl (by kernel_rfl) (by kernel_rfl) (by kernel_rfl) (fun _ _ _ h => h) rfl ?_ hHeld ?_
            · intro _ _; go_simp
            try simp only [Act.put, List.setIfInBounds_toArray, List.set_cons_zero, List.set_cons_succ]
            refine H_take 19 45 (.bool true) rfl rfl (by kernel_rfl) (by kernel_rfl) (by kernel_rfl) (fun _ _ _ h => h) rfl ?_ hHeld ?_
            · intro _ _; go_simp
            try simp only [Act.put, List.setIfInBounds_toArray, List.set_cons_zero, List.set_cons_succ]
            refine wpAnyH_done (by kernel_rfl) ?_ _
            go_wp2_with fail
            exact bodyPost_ret (results_none rfl _ _ _) rfl ⟨rfl, s, ⟨0, by rw [← HNN.out]; omega, HJ.out, .inr (by omega), .inl ⟨.inr ⟨by rw [← HNN.out]; omega, hE⟩, rfl⟩⟩, hNX.out.below hHeld lX, Only.of_below _ _ (bl HBX.out hHeld) lb⟩
          · have HEx : Hid ((0 = s.n ∨ V r ≤ V (s.r 0)) ∧ ¬ (0 < s.n ∧ V (s.r 0) = V r)) := ⟨.inr (by have h := HZ.out; have : ¬ V (s.r 0) < V r := fun c => absurd (h.2 c) (by omega); omega), fun h => hE h.2⟩
            refine wp_region_held_drew (S := fun w' => Below X.heap.size X w') (by kernel_rfl) (below_drew _ X) (fun hHeld => ?_)
            refine H_move 0 26 (.int .i64 0) rfl (by kernel_rfl) (by kernel_rfl) (by kernel_rfl) (fun _ _ _ h => h) rfl rfl hHeld ?_
            try simp only [Act.put, List.setIfInBounds_toArray, List.set_cons_zero, List.set_cons_succ]
            refine H_take 1 27 (.bool false) rfl rfl (by kernel_rfl) (by kernel_rfl) (by kernel_rfl) (fun _ _ _ h => h) rfl ?_ hHeld ?_
            · intro _ _; go_simp
            try simp only [Act.put, List.setIfInBounds_toArray, List.set_cons_zero, List.set_cons_succ]
            refine H_move 2 28 (.bool false) rfl (by kernel_rfl) (by kernel_rfl) (by kernel_rfl) (fun _ _ _ h => h) rfl rfl hHeld ?_
            try simp only [Act.put, List.setIfInBounds_toArray, List.set_cons_zero, List.set_cons_succ]
            refine H_move 3 29 (.int .i64 0) rfl (by kernel_rfl) (by kernel_rfl) (by kernel_rfl) (fun _ _ _ h => h) rfl rfl hHeld ?_
            try simp only [Act.put, List.setIfInBounds_toArray, List.set_cons_zero, List.set_cons_succ]
            refine H_move 4 30 (.pointer (some ⟨b, o, none⟩)) rfl (by kernel_rfl) (by kernel_rfl) (by kernel_rfl) (fun _ _ _ h => h) rfl rfl hHeld ?_
            try simp only [Act.put, List.setIfInBounds_toArray, List.set_cons_zero, List.set_cons_succ]
            refine H_take 5 31 (.pointer (some ⟨b, o, none⟩)) rfl rfl (by kernel_rfl) (by kernel_rfl) (by kernel_rfl) (fun _ _ _ h => h) rfl ?_ hHeld ?_
            · intro _ _; go_simp
            try simp only [Act.put, List.setIfInBounds_toArray, List.set_cons_zero, List.set_cons_succ]
            refine H_take 6 32 (.pointer (some ⟨b, o + 42, none⟩)) rfl rfl (by kernel_rfl) (by kernel_rfl) (by kernel_rfl) (fun _ _ _ h => h) rfl ?_ hHeld ?_
            · intro _ _; go_simp
            try simp only [Act.put, List.setIfInBounds_toArray, List.set_cons_zero, List.set_cons_succ]
            refine H_take 7 33 (.int .i64 1) rfl rfl (by kernel_rfl) (by kernel_rfl) (by kernel_rfl) (fun _ _ _ h => h) rfl ?_ hHeld ?_
            · intro w' h; have hc := (h.cell (p := ⟨b, o + 42, none⟩) lX).trans hcX; go_simp
            try simp only [Act.put, List.setIfInBounds_toArray, List.set_cons_zero, List.set_cons_succ]
            refine H_take 8 34 (.bool true) rfl rfl (by kernel_rfl) (by kernel_rfl) (by kernel_rfl) (fun _ _ _ h => h) rfl ?_ hHeld ?_
            · intro _ _; go_simp
            try simp only [Act.put, List.setIfInBounds_toArray, List.set_cons_zero, List.set_cons_succ]
            refine H_move 9 35 (.bool true) rfl (by kernel_rfl) (by kernel_rfl) (by kernel_rfl) (fun _ _ _ h => h) rfl rfl hHeld ?_
            try simp only [Act.put, List.setIfInBounds_toArray, List.set_cons_zero, List.set_cons_succ]
            refine H_move 10 36 (.pointer (some ⟨b, o, none⟩)) rfl (by kernel_rfl) (by kernel_rfl) (by kernel_rfl) (fun _ _ _ h => h) rfl rfl hHeld ?_
            try simp only [Act.put, List.setIfInBounds_toArray, List.set_cons_zero, List.set_cons_succ]
            refine H_move 11 37 (.int .i64 0) rfl (by kernel_rfl) (by kernel_rfl) (by kernel_rfl) (fun _ _ _ h => h) rfl rfl hHeld ?_
            try simp only [Act.put, List.setIfInBounds_toArray, List.set_cons_zero, List.set_cons_succ]
            refine H_take 12 38 (.pointer (some ⟨b, o, none⟩)) rfl rfl (by kernel_rfl) (by kernel_rfl) (by kernel_rfl) (fun _ _ _ h => h) rfl ?_ hHeld ?_
            · intro _ _; go_simp
            try simp only [Act.put, List.setIfInBounds_toArray, List.set_cons_zero, List.set_cons_succ]
            refine H_take 13 39 (.pointer (some ⟨b, o + 2, none⟩)) rfl rfl (by kernel_rfl) (by kernel_rfl) (by kernel_rfl) (fun _ _ _ h => h) rfl ?_ hHeld ?_
            · intro _ _; go_simp
            try simp only [Act.put, List.setIfInBounds_toArray, List.set_cons_zero, List.set_cons_succ]
            refine H_take 14 40 (.pointer (some ⟨b, o + 2, none⟩)) rfl rfl (by kernel_rfl) (by kernel_rfl) (by kernel_rfl) (fun _ _ _ h => h) rfl ?_ hHeld ?_
            · intro _ _; go_simp
            try simp only [Act.put, List.setIfInBounds_toArray, List.set_cons_zero, List.set_cons_succ]
            refine H_load 51 15 41 ta51 (L (s.r 0)) (L_len HL _) (b) (o + 2) rfl (by kernel_rfl) (by kernel_rfl) (by kernel_rfl) (fun _ _ _ h => h) rfl rfl (fun w' h => (hNX.out.r 0 (by omega)).below h lX) hHeld ?_
            try simp only [Act.put, List.setIfInBounds_toArray, List.set_cons_zero, List.set_cons_succ]
            refine H_load 51 16 42 ta51 (L r) (L_len HL _) (p5) (0) rfl (by kernel_rfl) (by kernel_rfl) (by kernel_rfl) (fun _ _ _ h => h) rfl rfl (fun w' h => H5X.out.below h l5X) hHeld ?_
            try simp only [Act.put, List.setIfInBounds_toArray, List.set_cons_zero, List.set_cons_succ]
            refine H_take 17 43 (.bool false) rfl rfl (by kernel_rfl) (by kernel_rfl) (by kernel_rfl) (fun _ _ _ h => h) rfl ?_ hHeld ?_
            · intro w' _; have hq := L_equal51 HL (s.r 0) r (hok.out 0 (by omega)) hr.out w'; rw [decide_eq_false hE] at hq; go_simp
            try simp only [Act.put, List.setIfInBounds_toArray, List.set_cons_zero, List.set_cons_succ]
            refine H_take 18 44 (.bool false) rfl rfl (by kernel_rfl) (by kernel_rfl) (by kernel_rfl) (fun _ _ _ h => h) rfl ?_ hHeld ?_
            · intro _ _; go_simp
            try simp only [Act.put, List.setIfInBounds_toArray, List.set_cons_zero, List.set_cons_succ]
            refine H_take 19 45 (.bool false) rfl rfl (by kernel_rfl) (by kernel_rfl) (by kernel_rfl) (fun _ _ _ h => h) rfl ?_ hHeld ?_
            · intro _ _; go_simp
            try simp only [Act.put, List.setIfInBounds_toArray, List.set_cons_zero, List.set_cons_succ]
            refine wpAnyH_done (by kernel_rfl) ?_ _
            clear hE
            obtain ⟨Y, hY⟩ : ∃ Y, Y = X.drew := ⟨_, rfl⟩
            rw [← hY] at hHeld ⊢
            clear hY
            have hNY : Hid (NearAt L Y b o s) := hNX.out.below hHeld lX
            have H5Y : Hid (Mem Y p5 0 (L r)) := H5X.out.below hHeld l5X
            have l5Y := Nat.lt_of_lt_of_le l5X hHeld.size
            have OWY : Hid (Only b o 43 w Y) := Only.of_below _ _ (bl HBX.out hHeld) lb
            clear hHeld hcX
            have hcY := (hNY.out).n
            have hfY := (hNY.out).fr (o + 42)
            rw [← HNN.out] at hcY
            go_wp2_with fail
            try simp only [show min (3 : Int) 2 = 2 from by decide, show min (2 : Int) 2 = 2 from by decide, show min (1 : Int) 2 = 1 from by decide]
            obtain ⟨X1, hX1⟩ : ∃ X1, X1 = Y.setCell ⟨b, o + 42, none⟩ (.int .i64 2) := ⟨_, rfl⟩
            rw [← hX1]
            have hN1 : Hid (NearAt L X1 b o { s with n := 2 }) := by rw [hX1]; exact hNY.out.setN HL 2
            have O1 : Only b (o + 42) 1 Y X1 := by rw [hX1]; exact Only.setCell _ _ (Nat.le_refl _) (by omega)
            have H51 : Hid (Mem X1 p5 0 (L r)) := H5Y.out.only l5Y O1 (.inl n5.symm)
            have l1 := hN1.out.lt
            have l51 := Nat.lt_of_lt_of_le l5Y O1.size
            have OW1 : Hid (Only b o 43 w X1) := OWY.out.trans (O1.mono (by omega) (by omega))
            have hc1 : X1.cell? ⟨b, o + 42, none⟩ = some (.int .i64 2) := hN1.out.n
            clear hX1 O1 hcY hfY
            refine wp_region_held_drew (S := fun w' => Only b o 42 X1 w') (by kernel_rfl) (Only.of_below _ _ (below_drew _ X1) l1) (fun hHeld => ?_)
            refine H_move 0 55 (.pointer (some ⟨b, o, none⟩)) rfl (by kernel_rfl) (by kernel_rfl) (by kernel_rfl) (fun _ _ _ h => h) rfl rfl hHeld ?_
            try simp only [Act.put, List.setIfInBounds_toArray, List.set_cons_zero, List.set_cons_succ]
            refine H_take 1 56 (.pointer (some ⟨b, o, none⟩)) rfl rfl (by kernel_rfl) (by kernel_rfl) (by kernel_rfl) (fun _ _ _ h => h) rfl ?_ hHeld ?_
            · intro _ _; go_simp
            try simp only [Act.put, List.setIfInBounds_toArray, List.set_cons_zero, List.set_cons_succ]
            refine H_take 2 57 (.pointer (some ⟨b, o, none⟩)) rfl rfl (by kernel_rfl) (by kernel_rfl) (by kernel_rfl) (fun _ _ _ h => h) rfl ?_ hHeld ?_
            · intro _ _; go_simp
            try simp only [Act.put, List.setIfInBounds_toArray, List.set_cons_zero, List.set_cons_succ]
            refine H_move 3 58 (.int .i64 0) rfl (by kernel_rfl) (by kernel_rfl) (by kernel_rfl) (fun _ _ _ h => h) rfl rfl hHeld ?_
            try simp only [Act.put, List.setIfInBounds_toArray, List.set_cons_zero, List.set_cons_succ]
            refine H_take 4 59 (.int .i64 1) rfl rfl (by kernel_rfl) (by kernel_rfl) (by kernel_rfl) (fun _ _ _ h => h) rfl ?_ hHeld ?_
            · intro _ _; go_simp; try rfl
            try simp only [Act.put, List.setIfInBounds_toArray, List.set_cons_zero, List.set_cons_succ]
            refine H_move 5 60 (.pointer (some ⟨b, o, none⟩)) rfl (by kernel_rfl) (by kernel_rfl) (by kernel_rfl) (fun _ _ _ h => h) rfl rfl hHeld ?_
            try simp only [Act.put, List.setIfInBounds_toArray, List.set_cons_zero, List.set_cons_succ]
            refine H_take 6 61 (.pointer (some ⟨b, o, none⟩)) rfl rfl (by kernel_rfl) (by kernel_rfl) (by kernel_rfl) (fun _ _ _ h => h) rfl ?_ hHeld ?_
            · intro _ _; go_simp
            try simp only [Act.put, List.setIfInBounds_toArray, List.set_cons_zero, List.set_cons_succ]
            refine H_take 7 62 (.pointer (some ⟨b, o + 42, none⟩)) rfl rfl (by kernel_rfl) (by kernel_rfl) (by kernel_rfl) (fun _ _ _ h => h) rfl ?_ hHeld ?_
            · intro _ _; go_simp
            try simp only [Act.put, List.setIfInBounds_toArray, List.set_cons_zero, List.set_cons_succ]
            refine H_take 8 63 (.int .i64 2) rfl rfl (by kernel_rfl) (by kernel_rfl) (by kernel_rfl) (fun _ _ _ h => h) rfl ?_ hHeld ?_
            · intro w' h; have hc := (h.cell (o + 42) (by omega)).trans hc1; go_simp
            try simp only [Act.put, List.setIfInBounds_toArray, List.set_cons_zero, List.set_cons_succ]
            refine H_take 9 64 (.slice (some ⟨b, o + 1, none⟩) 1 1) rfl rfl (by kernel_rfl) (by kernel_rfl) (by kernel_rfl) (fun _ _ _ h => h) rfl ?_ hHeld ?_
            · intro _ _; go_simp
            try simp only [Act.put, List.setIfInBounds_toArray, List.set_cons_zero, List.set_cons_succ]
            refine H_move 10 65 (.pointer (some ⟨b, o, none⟩)) rfl (by kernel_rfl) (by kernel_rfl) (by kernel_rfl) (fun _ _ _ h => h) rfl rfl hHeld ?_
            try simp only [Act.put, List.setIfInBounds_toArray, List.set_cons_zero, List.set_cons_succ]
            refine H_take 11 66 (.pointer (some ⟨b, o, none⟩)) rfl rfl (by kernel_rfl) (by kernel_rfl) (by kernel_rfl) (fun _ _ _ h => h) rfl ?_ hHeld ?_
            · intro _ _; go_simp
            try simp only [Act.put, List.setIfInBounds_toArray, List.set_cons_zero, List.set_cons_succ]
            refine H_take 12 67 (.pointer (some ⟨b, o, none⟩)) rfl rfl (by kernel_rfl) (by kernel_rfl) (by kernel_rfl) (fun _ _ _ h => h) rfl ?_ hHeld ?_
            · intro _ _; go_simp
            try simp only [Act.put, List.setIfInBounds_toArray, List.set_cons_zero, List.set_cons_succ]
            refine H_move 13 68 (.int .i64 0) rfl (by kernel_rfl) (by kernel_rfl) (by kernel_rfl) (fun _ _ _ h => h) rfl rfl hHeld ?_
            try simp only [Act.put, List.setIfInBounds_toArray, List.set_cons_zero, List.set_cons_succ]
            refine H_take 14 69 (.slice (some ⟨b, o, none⟩) 2 2) rfl rfl (by kernel_rfl) (by kernel_rfl) (by kernel_rfl) (fun _ _ _ h => h) rfl ?_ hHeld ?_
            · intro _ _; go_simp
            try simp only [Act.put, List.setIfInBounds_toArray, List.set_cons_zero, List.set_cons_succ]
            refine wpAnyH_ready (rs := [15]) (by kernel_rfl) (by simp) ?_
            refine (AllReadyH.cons rfl (fun K hK => ?_) AllReadyH.nil)
            rw [if_pos (by rfl)]
            simp only [List.getElem_toArray, List.getElem_cons_zero, List.getElem_cons_succ]
            have hD6 := hN1.out.below (below_drew _ X1) l1
            have hlen1 : ([s.p 0] : List Value).length = Nat.min 2 1 * 1 := rfl
            with_reducible refine S_copyR 70 49 1 b (o + 1) 1 1 b o 2 2 [s.p 0] ?_ ?_ Try.underlying70 (by kernel_rfl) hlen1 ?_ ?_ ?_ ?_
            · rfl
            · rfl
            · intro i v hv
              match i, hv with
              | 0, hv => simp at hv; subst hv; exact ⟨hD6.p 0 (by omega), hD6.fr _⟩
              | i + 1, hv => simp at hv
            · intro j hj
              have hj : j < 1 := hj
              obtain rfl : j = 0 := by omega
              exact ⟨by rw [Nat.add_zero, hD6.p 1 (by omega)]; rfl, hD6.fr _⟩
            · intro v hv; simp at hv; subst hv; exact hop.out 0 (by omega)
            intro X2 M2 O2
            have O2 : Only b (o + 1) 1 _ X2 := O2
            have hN2 : Hid (NearAt L X2 b o { s with n := 2, p := upd s.p 1 (s.p 0) }) := hD6.setP HL 1 (by omega) (s.p 0) (M2 0 _ rfl).1 O2
            refine hK.out _ _ (hHeld.trans (O2.mono (by omega) (by omega))) (fun hHeld => ?_)
            clear hK K
            try simp only [Act.put, List.setIfInBounds_toArray, List.set_cons_zero, List.set_cons_succ]
            refine wpAnyH_done (by kernel_rfl) ?_ _
            have H52 : Hid (Mem X2 p5 0 (L r)) := H51.out.only l51 hHeld (.inl n5.symm)
            have l2 := hN2.out.lt
            have l52 := Nat.lt_of_lt_of_le l51 hHeld.size
            have OW2 : Hid (Only b o 43 w X2) := OW1.out.trans (hHeld.mono (by omega) (by omega))
            have hc2 : X2.cell? ⟨b, o + 42, none⟩ = some (.int .i64 2) := hN2.out.n
            clear hHeld hc1 H51 OW1 hN1
            go_wp2_with fail
            refine wp_region_held_drew (S := fun w' => Only b o 42 X2 w') (by kernel_rfl) (Only.of_below _ _ (below_drew _ X2) l2) (fun hHeld => ?_)
            refine H_move 0 71 (.pointer (some ⟨b, o, none⟩)) rfl (by kernel_rfl) (by kernel_rfl) (by kernel_rfl) (fun _ _ _ h => h) rfl rfl hHeld ?_
            try simp only [Act.put, List.setIfInBounds_toArray, List.set_cons_zero, List.set_cons_succ]
            refine H_take 1 72 (.pointer (some ⟨b, o, none⟩)) rfl rfl (by kernel_rfl) (by kernel_rfl) (by kernel_rfl) (fun _ _ _ h => h) rfl ?_ hHeld ?_
            · intro _ _; go_simp
            try simp only [Act.put, List.setIfInBounds_toArray, List.set_cons_zero, List.set_cons_succ]
            refine H_take 2 73 (.pointer (some ⟨b, o + 2, none⟩)) rfl rfl (by kernel_rfl) (by kernel_rfl) (by kernel_rfl) (fun _ _ _ h => h) rfl ?_ hHeld ?_
            · intro _ _; go_simp
            try simp only [Act.put, List.setIfInBounds_toArray, List.set_cons_zero, List.set_cons_succ]
            refine H_move 3 74 (.int .i64 0) rfl (by kernel_rfl) (by kernel_rfl) (by kernel_rfl) (fun _ _ _ h => h) rfl rfl hHeld ?_
            try simp only [Act.put, List.setIfInBounds_toArray, List.set_cons_zero, List.set_cons_succ]
            refine H_take 4 75 (.int .i64 1) rfl rfl (by kernel_rfl) (by kernel_rfl) (by kernel_rfl) (fun _ _ _ h => h) rfl ?_ hHeld ?_
            · intro _ _; go_simp; try rfl
            try simp only [Act.put, List.setIfInBounds_toArray, List.set_cons_zero, List.set_cons_succ]
            refine H_move 5 76 (.pointer (some ⟨b, o, none⟩)) rfl (by kernel_rfl) (by kernel_rfl) (by kernel_rfl) (fun _ _ _ h => h) rfl rfl hHeld ?_
            try simp only [Act.put, List.setIfInBounds_toArray, List.set_cons_zero, List.set_cons_succ]
            refine H_take 6 77 (.pointer (some ⟨b, o, none⟩)) rfl rfl (by kernel_rfl) (by kernel_rfl) (by kernel_rfl) (fun _ _ _ h => h) rfl ?_ hHeld ?_
            · intro _ _; go_simp
            try simp only [Act.put, List.setIfInBounds_toArray, List.set_cons_zero, List.set_cons_succ]
            refine H_take 7 78 (.pointer (some ⟨b, o + 42, none⟩)) rfl rfl (by kernel_rfl) (by kernel_rfl) (by kernel_rfl) (fun _ _ _ h => h) rfl ?_ hHeld ?_
            · intro _ _; go_simp
            try simp only [Act.put, List.setIfInBounds_toArray, List.set_cons_zero, List.set_cons_succ]
            refine H_take 8 79 (.int .i64 2) rfl rfl (by kernel_rfl) (by kernel_rfl) (by kernel_rfl) (fun _ _ _ h => h) rfl ?_ hHeld ?_
            · intro w' h; have hc := (h.cell (o + 42) (by omega)).trans hc2; go_simp
            try simp only [Act.put, List.setIfInBounds_toArray, List.set_cons_zero, List.set_cons_succ]
            refine H_take 9 80 (.slice (some ⟨b, o + 22, none⟩) 1 1) rfl rfl (by kernel_rfl) (by kernel_rfl) (by kernel_rfl) (fun _ _ _ h => h) rfl ?_ hHeld ?_
            · intro _ _; go_simp
            try simp only [Act.put, List.setIfInBounds_toArray, List.set_cons_zero, List.set_cons_succ]
            refine H_move 10 81 (.pointer (some ⟨b, o, none⟩)) rfl (by kernel_rfl) (by kernel_rfl) (by kernel_rfl) (fun _ _ _ h => h) rfl rfl hHeld ?_
            try simp only [Act.put, List.setIfInBounds_toArray, List.set_cons_zero, List.set_cons_succ]
            refine H_take 11 82 (.pointer (some ⟨b, o, none⟩)) rfl rfl (by kernel_rfl) (by kernel_rfl) (by kernel_rfl) (fun _ _ _ h => h) rfl ?_ hHeld ?_
            · intro _ _; go_simp
            try simp only [Act.put, List.setIfInBounds_toArray, List.set_cons_zero, List.set_cons_succ]
            refine H_take 12 83 (.pointer (some ⟨b, o + 2, none⟩)) rfl rfl (by kernel_rfl) (by kernel_rfl) (by kernel_rfl) (fun _ _ _ h => h) rfl ?_ hHeld ?_
            · intro _ _; go_simp
            try simp only [Act.put, List.setIfInBounds_toArray, List.set_cons_zero, List.set_cons_succ]
            refine H_move 13 84 (.int .i64 0) rfl (by kernel_rfl) (by kernel_rfl) (by kernel_rfl) (fun _ _ _ h => h) rfl rfl hHeld ?_
            try simp only [Act.put, List.setIfInBounds_toArray, List.set_cons_zero, List.set_cons_succ]
            refine H_take 14 85 (.slice (some ⟨b, o + 2, none⟩) 2 2) rfl rfl (by kernel_rfl) (by kernel_rfl) (by kernel_rfl) (fun _ _ _ h => h) rfl ?_ hHeld ?_
            · intro _ _; go_simp
            try simp only [Act.put, List.setIfInBounds_toArray, List.set_cons_zero, List.set_cons_succ]
            refine wpAnyH_ready (rs := [15]) (by kernel_rfl) (by simp) ?_
            refine (AllReadyH.cons rfl (fun K hK => ?_) AllReadyH.nil)
            rw [if_pos (by rfl)]
            simp only [List.getElem_toArray, List.getElem_cons_zero, List.getElem_cons_succ]
            have hD7 := hN2.out.below (below_drew _ X2) l2
            have hlen20 : (L (s.r 0)).length = Nat.min 2 1 * 20 := L_len HL _
            with_reducible refine S_copyR 86 51 20 b (o + 22) 1 1 b (o + 2) 2 2 (L (s.r 0)) ?_ ?_ Try.underlying87 (by kernel_rfl) hlen20 ?_ ?_ ?_ ?_
            · rfl
            · rfl
            · exact hD7.r 0 (by omega)
            · rw [L_len HL, ← L_len HL (s.r 1)]; exact (hD7.r 1 (by omega)).there
            · exact L_one HL _
            intro X3 M3 O3
            rw [L_len HL] at O3
            have hN3 : Hid (NearAt L X3 b o { s with n := 2, p := upd s.p 1 (s.p 0), r := upd s.r 1 (s.r 0) }) := hD7.setR HL 1 (by omega) (s.r 0) M3 O3
            refine hK.out _ _ (hHeld.trans (O3.mono (by omega) (by omega))) (fun hHeld => ?_)
            clear hK K
            try simp only [Act.put, List.setIfInBounds_toArray, List.set_cons_zero, List.set_cons_succ]
            refine wpAnyH_done (by kernel_rfl) ?_ _
            have H53 : Hid (Mem X3 p5 0 (L r)) := H52.out.only l52 hHeld (.inl n5.symm)
            have l3 := hN3.out.lt
            have l53 := Nat.lt_of_lt_of_le l52 hHeld.size
            have OW3 : Hid (Only b o 43 w X3) := OW2.out.trans (hHeld.mono (by omega) (by omega))
            clear hHeld hc2 H52 OW2 hN2
            go_wp2_with fail
            refine wp_region_held_drew (S := fun w' => Only b o 42 X3 w') (by kernel_rfl) (Only.of_below _ _ (below_drew _ X3) l3) (fun hHeld => ?_)
            refine H_move 0 87 (.pointer (some ⟨b, o, none⟩)) rfl (by kernel_rfl) (by kernel_rfl) (by kernel_rfl) (fun _ _ _ h => h) rfl rfl hHeld ?_
            try simp only [Act.put, List.setIfInBounds_toArray, List.set_cons_zero, List.set_cons_succ]
            refine H_move 1 88 (.int .i64 0) rfl (by kernel_rfl) (by kernel_rfl) (by kernel_rfl) (fun _ _ _ h => h) rfl rfl hHeld ?_
            try simp only [Act.put, List.setIfInBounds_toArray, List.set_cons_zero, List.set_cons_succ]
            refine H_move 2 89 (.pointer (some ⟨b, o, none⟩)) rfl (by kernel_rfl) (by kernel_rfl) (by kernel_rfl) (fun _ _ _ h => h) rfl rfl hHeld ?_
            try simp only [Act.put, List.setIfInBounds_toArray, List.set_cons_zero, List.set_cons_succ]
            refine H_move 3 90 (.int .i64 0) rfl (by kernel_rfl) (by kernel_rfl) (by kernel_rfl) (fun _ _ _ h => h) rfl rfl hHeld ?_
            try simp only [Act.put, List.setIfInBounds_toArray, List.set_cons_zero, List.set_cons_succ]
            refine H_move 4 91 (.pointer (some q)) rfl (by kernel_rfl) (by kernel_rfl) (by kernel_rfl) (fun _ _ _ h => h) rfl rfl hHeld ?_
            try simp only [Act.put, List.setIfInBounds_toArray, List.set_cons_zero, List.set_cons_succ]
            refine H_load 51 5 92 ta51 (L r) (L_len HL _) (p5) (0) rfl (by kernel_rfl) (by kernel_rfl) (by kernel_rfl) (fun _ _ _ h => h) rfl rfl (fun w' h => H53.out.only l53 h (.inl n5.symm)) hHeld ?_
            try simp only [Act.put, List.setIfInBounds_toArray, List.set_cons_zero, List.set_cons_succ]
            refine H_take 6 93 (.pointer (some ⟨b, o, none⟩)) rfl rfl (by kernel_rfl) (by kernel_rfl) (by kernel_rfl) (fun _ _ _ h => h) rfl ?_ hHeld ?_
            · intro _ _; go_simp
            try simp only [Act.put, List.setIfInBounds_toArray, List.set_cons_zero, List.set_cons_succ]
            refine H_take 7 94 (.pointer (some ⟨b, o, none⟩)) rfl rfl (by kernel_rfl) (by kernel_rfl) (by kernel_rfl) (fun _ _ _ h => h) rfl ?_ hHeld ?_
            · intro _ _; go_simp
            try simp only [Act.put, List.setIfInBounds_toArray, List.set_cons_zero, List.set_cons_succ]
            refine H_take 8 95 (.pointer (some ⟨b, o, none⟩)) rfl rfl (by kernel_rfl) (by kernel_rfl) (by kernel_rfl) (fun _ _ _ h => h) rfl ?_ hHeld ?_
            · intro _ _; go_simp
            try simp only [Act.put, List.setIfInBounds_toArray, List.set_cons_zero, List.set_cons_succ]
            refine H_take 10 96 (.pointer (some ⟨b, o, none⟩)) rfl rfl (by kernel_rfl) (by kernel_rfl) (by kernel_rfl) (fun _ _ _ h => h) rfl ?_ hHeld ?_
            · intro _ _; go_simp
            try simp only [Act.put, List.setIfInBounds_toArray, List.set_cons_zero, List.set_cons_succ]
            refine H_take 11 97 (.pointer (some ⟨b, o + 2, none⟩)) rfl rfl (by kernel_rfl) (by kernel_rfl) (by kernel_rfl) (fun _ _ _ h => h) rfl ?_ hHeld ?_
            · intro _ _; go_simp
            try simp only [Act.put, List.setIfInBounds_toArray, List.set_cons_zero, List.set_cons_succ]
            refine wpAnyH_ready (rs := [9]) (by kernel_rfl) (by simp) ?_
            refine (AllReadyH.cons rfl (fun K hK => ?_) AllReadyH.nil)
            rw [if_pos (by rfl)]
            simp only [List.getElem_toArray, List.getElem_cons_zero, List.getElem_cons_succ]
            have hD8 := hN3.out.below (below_drew _ X3) l3
            with_reducible refine S_cell 49 95 (.pointer (some q)) (upd s.p 1 (s.p 0) 0) Try.sizeOf49 (cells_ptr q) (one_ptr q) b (o) ?_ ?_ ?_ ?_
            · rfl
            · rfl
            · intro i v hv
              match i, hv with
              | 0, hv => simp at hv; subst hv; exact ⟨hD8.p 0 (by omega), hD8.fr _⟩
              | i + 1, hv => simp at hv
            intro X4 M4 O4
            have hN4 : Hid (NearAt L X4 b o _) := hD8.setP HL 0 (by omega) (.pointer (some q)) (M4 0 _ rfl).1 O4
            refine hK.out _ _ (hHeld.trans (O4.mono (by omega) (by omega))) (fun hHeld => ?_)
            clear hK K
            try simp only [Act.put]
            refine H_take 12 98 (.pointer (some ⟨b, o + 2, none⟩)) rfl rfl (by kernel_rfl) (by kernel_rfl) (by kernel_rfl) (fun _ _ _ h => h) rfl ?_ hHeld ?_
            · intro _ _; go_simp
            try simp only [Act.put, List.setIfInBounds_toArray, List.set_cons_zero, List.set_cons_succ]
            refine wpAnyH_ready (rs := [13]) (by kernel_rfl) (by simp) ?_
            refine (AllReadyH.cons rfl (fun K hK => ?_) AllReadyH.nil)
            rw [if_pos (by rfl)]
            simp only [List.getElem_toArray, List.getElem_cons_zero, List.getElem_cons_succ]
            with_reducible refine S_store 51 98 92 ta51 (L r) (L (upd s.r 1 (s.r 0) 0)) (L_len HL _) (L_len HL _) (L_one HL _) b (o + 2) ?_ ?_ ?_ ?_
            · rfl
            · rfl
            · exact hN4.out.r 0 (by omega)
            intro X5 M5 O5
            have hN5f := hN4.out.setR HL 0 (by omega) r M5 O5
            refine hK.out _ _ (hHeld.trans (O5.mono (by omega) (by omega))) (fun hHeld => ?_)
            clear hK K
            try simp only [Act.put]
            refine wpAnyH_done (by kernel_rfl) ?_ _
            go_wp2_with fail
            go_end0
            refine ⟨rfl, insAt s 0 (.pointer (some q)) r, ⟨0, by rw [← HNN.out]; omega, HJ.out, ?_, .inr ⟨by omega, ?_, rfl⟩⟩, ?_, OW3.out.trans (hHeld.mono (by omega) (by omega))⟩
            · exact HEx.out.1
            · exact HEx.out.2
            · have hns := HNN.out
              refine hN5f.congr (fun j hj => ?_) (fun j hj => ?_) ?_
              · rcases (by omega : j = 0 ∨ j = 1) with rfl | rfl <;> simp [upd, insAt, ← hns]
              · rcases (by omega : j = 0 ∨ j = 1) with rfl | rfl <;> simp [upd, insAt, ← hns]
              · simp [insAt, ← hns]
        · have hcX : X.cell? ⟨b, o + 42, none⟩ = some (.int .i64 2) := by have h := hNX.out.n; rw [← HNN.out] at h; exact h
          by_cases hE : V (s.r 0) = V r
          · refine wp_region_held_drew (S := fun w' => Below X.heap.size X w') (by kernel_rfl) (below_drew _ X) (fun hHeld => ?_)
            refine H_move 0 26 (.int .i64 0) rfl (by kernel_rfl) (by kernel_rfl) (by kernel_rfl) (fun _ _ _ h => h) rfl rfl hHeld ?_
            try simp only [Act.put, List.setIfInBounds_toArray, List.set_cons_zero, List.set_cons_succ]
            refine H_take 1 27 (.bool false) rfl rfl (by kernel_rfl) (by kernel_rfl) (by kernel_rfl) (fun _ _ _ h => h) rfl ?_ hHeld ?_
            · intro _ _; go_simp
            try simp only [Act.put, List.setIfInBounds_toArray, List.set_cons_zero, List.set_cons_succ]
            refine H_move 2 28 (.bool false) rfl (by kernel_rfl) (by kernel_rfl) (by kernel_rfl) (fun _ _ _ h => h) rfl rfl hHeld ?_
            try simp only [Act.put, List.setIfInBounds_toArray, List.set_cons_zero, List.set_cons_succ]
            refine H_move 3 29 (.int .i64 0) rfl (by kernel_rfl) (by kernel_rfl) (by kernel_rfl) (fun _ _ _ h => h) rfl rfl hHeld ?_
            try simp only [Act.put, List.setIfInBounds_toArray, List.set_cons_zero, List.set_cons_succ]
            refine H_move 4 30 (.pointer (some ⟨b, o, none⟩)) rfl (by kernel_rfl) (by kernel_rfl) (by kernel_rfl) (fun _ _ _ h => h) rfl rfl hHeld ?_
            try simp only [Act.put, List.setIfInBounds_toArray, List.set_cons_zero, List.set_cons_succ]
            refine H_take 5 31 (.pointer (some ⟨b, o, none⟩)) rfl rfl (by kernel_rfl) (by kernel_rfl) (by kernel_rfl) (fun _ _ _ h => h) rfl ?_ hHeld ?_
            · intro _ _; go_simp
            try simp only [Act.put, List.setIfInBounds_toArray, List.set_cons_zero, List.set_cons_succ]
            refine H_take 6 32 (.pointer (some ⟨b, o + 42, none⟩)) rfl rfl (by kernel_rfl) (by kernel_rfl) (by kernel_rfl) (fun _ _ _ h => h) rfl ?_ hHeld ?_
            · intro _ _; go_simp
            try simp only [Act.put, List.setIfInBounds_toArray, List.set_cons_zero, List.set_cons_succ]
            refine H_take 7 33 (.int .i64 2) rfl rfl (by kernel_rfl) (by kernel_rfl) (by kernel_rfl) (fun _ _ _ h => h) rfl ?_ hHeld ?_
            · intro w' h; have hc := (h.cell (p := ⟨b, o + 42, none⟩) lX).trans hcX; go_simp
            try simp only [Act.put, List.setIfInBounds_toArray, List.set_cons_zero, List.set_cons_succ]
            refine H_take 8 34 (.bool true) rfl rfl (by kernel_rfl) (by kernel_rfl) (by kernel_rfl) (fun _ _ _ h => h) rfl ?_ hHeld ?_
            · intro _ _; go_simp
            try simp only [Act.put, List.setIfInBounds_toArray, List.set_cons_zero, List.set_cons_succ]
            refine H_move 9 35 (.bool true) rfl (by kernel_rfl) (by kernel_rfl) (by kernel_rfl) (fun _ _ _ h => h) rfl rfl hHeld ?_
            try simp only [Act.put, List.setIfInBounds_toArray, List.set_cons_zero, List.set_cons_succ]
            refine H_move 10 36 (.pointer (some ⟨b, o, none⟩)) rfl (by kernel_rfl) (by kernel_rfl) (by kernel_rfl) (fun _ _ _ h => h) rfl rfl hHeld ?_
            try simp only [Act.put, List.setIfInBounds_toArray, List.set_cons_zero, List.set_cons_succ]
            refine H_move 11 37 (.int .i64 0) rfl (by kernel_rfl) (by kernel_rfl) (by kernel_rfl) (fun _ _ _ h => h) rfl rfl hHeld ?_
            try simp only [Act.put, List.setIfInBounds_toArray, List.set_cons_zero, List.set_cons_succ]
            refine H_take 12 38 (.pointer (some ⟨b, o, none⟩)) rfl rfl (by kernel_rfl) (by kernel_rfl) (by kernel_rfl) (fun _ _ _ h => h) rfl ?_ hHeld ?_
            · intro _ _; go_simp
            try simp only [Act.put, List.setIfInBounds_toArray, List.set_cons_zero, List.set_cons_succ]
            refine H_take 13 39 (.pointer (some ⟨b, o + 2, none⟩)) rfl rfl (by kernel_rfl) (by kernel_rfl) (by kernel_rfl) (fun _ _ _ h => h) rfl ?_ hHeld ?_
            · intro _ _; go_simp
            try simp only [Act.put, List.setIfInBounds_toArray, List.set_cons_zero, List.set_cons_succ]
            refine H_take 14 40 (.pointer (some ⟨b, o + 2, none⟩)) rfl rfl (by kernel_rfl) (by kernel_rfl) (by kernel_rfl) (fun _ _ _ h => h) rfl ?_ hHeld ?_
            · intro _ _; go_simp
            try simp only [Act.put, List.setIfInBounds_toArray, List.set_cons_zero, List.set_cons_succ]
            refine H_load 51 15 41 ta51 (L (s.r 0)) (L_len HL _) (b) (o + 2) rfl (by kernel_rfl) (by kernel_rfl) (by kernel_rfl) (fun _ _ _ h => h) rfl rfl (fun w' h => (hNX.out.r 0 (by omega)).below h lX) hHeld ?_
            try simp only [Act.put, List.setIfInBounds_toArray, List.set_cons_zero, List.set_cons_succ]
            refine H_load 51 16 42 ta51 (L r) (L_len HL _) (p5) (0) rfl (by kernel_rfl) (by kernel_rfl) (by kernel_rfl) (fun _ _ _ h => h) rfl rfl (fun w' h => H5X.out.below h l5X) hHeld ?_
            try simp only [Act.put, List.setIfInBounds_toArray, List.set_cons_zero, List.set_cons_succ]
            refine H_take 17 43 (.bool true) rfl rfl (by kernel_rfl) (by kernel_rfl) (by kernel_rfl) (fun _ _ _ h => h) rfl ?_ hHeld ?_
            · intro w' _; have hq := L_equal51 HL (s.r 0) r (hok.out 0 (by omega)) hr.out w'; rw [decide_eq_true hE] at hq; go_simp
            try simp only [Act.put, List.setIfInBounds_toArray, List.set_cons_zero, List.set_cons_succ]
            refine H_take 18 44 (.bool true) rfl rfl (by kernel_rfl) (by kernel_rfl) (by kernel_rfl) (fun _ _ _ h => h) rfl ?_ hHeld ?_
            · intro _ _; go_simp
            try simp only [Act.put, List.setIfInBounds_toArray, List.set_cons_zero, List.set_cons_succ]
            refine H_take 19 45 (.bool true) rfl rfl (by kernel_rfl) (by kernel_rfl) (by kernel_rfl) (fun _ _ _ h => h) rfl ?_ hHeld ?_
            · intro _ _; go_simp
            try simp only [Act.put, List.setIfInBounds_toArray, List.set_cons_zero, List.set_cons_succ]
            refine wpAnyH_done (by kernel_rfl) ?_ _
            go_wp2_with fail
            exact bodyPost_ret (results_none rfl _ _ _) rfl ⟨rfl, s, ⟨0, by rw [← HNN.out]; omega, HJ.out, .inr (by omega), .inl ⟨.inr ⟨by rw [← HNN.out]; omega, hE⟩, rfl⟩⟩, hNX.out.below hHeld lX, Only.of_below _ _ (bl HBX.out hHeld) lb⟩
          · have HEx : Hid ((0 = s.n ∨ V r ≤ V (s.r 0)) ∧ ¬ (0 < s.n ∧ V (s.r 0) = V r)) := ⟨.inr (by have h := HZ.out; have : ¬ V (s.r 0) < V r := fun c => absurd (h.2 c) (by omega); omega), fun h => hE h.2⟩
            refine wp_region_held_drew (S := fun w' => Below X.heap.size X w') (by kernel_rfl) (below_drew _ X) (fun hHeld => ?_)
            refine H_move 0 26 (.int .i64 0) rfl (by kernel_rfl) (by kernel_rfl) (by kernel_rfl) (fun _ _ _ h => h) rfl rfl hHeld ?_
            try simp only [Act.put, List.setIfInBounds_toArray, List.set_cons_zero, List.set_cons_succ]
            refine H_take 1 27 (.bool false) rfl rfl (by kernel_rfl) (by kernel_rfl) (by kernel_rfl) (fun _ _ _ h => h) rfl ?_ hHeld ?_
            · intro _ _; go_simp
            try simp only [Act.put, List.setIfInBounds_toArray, List.set_cons_zero, List.set_cons_succ]
            refine H_move 2 28 (.bool false) rfl (by kernel_rfl) (by kernel_rfl) (by kernel_rfl) (fun _ _ _ h => h) rfl rfl hHeld ?_
            try simp only [Act.put, List.setIfInBounds_toArray, List.set_cons_zero, List.set_cons_succ]
            refine H_move 3 29 (.int .i64 0) rfl (by kernel_rfl) (by kernel_rfl) (by kernel_rfl) (fun _ _ _ h => h) rfl rfl hHeld ?_
            try simp only [Act.put, List.setIfInBounds_toArray, List.set_cons_zero, List.set_cons_succ]
            refine H_move 4 30 (.pointer (some ⟨b, o, none⟩)) rfl (by kernel_rfl) (by kernel_rfl) (by kernel_rfl) (fun _ _ _ h => h) rfl rfl hHeld ?_
            try simp only [Act.put, List.setIfInBounds_toArray, List.set_cons_zero, List.set_cons_succ]
            refine H_take 5 31 (.pointer (some ⟨b, o, none⟩)) rfl rfl (by kernel_rfl) (by kernel_rfl) (by kernel_rfl) (fun _ _ _ h => h) rfl ?_ hHeld ?_
            · intro _ _; go_simp
            try simp only [Act.put, List.setIfInBounds_toArray, List.set_cons_zero, List.set_cons_succ]
            refine H_take 6 32 (.pointer (some ⟨b, o + 42, none⟩)) rfl rfl (by kernel_rfl) (by kernel_rfl) (by kernel_rfl) (fun _ _ _ h => h) rfl ?_ hHeld ?_
            · intro _ _; go_simp
            try simp only [Act.put, List.setIfInBounds_toArray, List.set_cons_zero, List.set_cons_succ]
            refine H_take 7 33 (.int .i64 2) rfl rfl (by kernel_rfl) (by kernel_rfl) (by kernel_rfl) (fun _ _ _ h => h) rfl ?_ hHeld ?_
            · intro w' h; have hc := (h.cell (p := ⟨b, o + 42, none⟩) lX).trans hcX; go_simp
            try simp only [Act.put, List.setIfInBounds_toArray, List.set_cons_zero, List.set_cons_succ]
            refine H_take 8 34 (.bool true) rfl rfl (by kernel_rfl) (by kernel_rfl) (by kernel_rfl) (fun _ _ _ h => h) rfl ?_ hHeld ?_
            · intro _ _; go_simp
            try simp only [Act.put, List.setIfInBounds_toArray, List.set_cons_zero, List.set_cons_succ]
            refine H_move 9 35 (.bool true) rfl (by kernel_rfl) (by kernel_rfl) (by kernel_rfl) (fun _ _ _ h => h) rfl rfl hHeld ?_
            try simp only [Act.put, List.setIfInBounds_toArray, List.set_cons_zero, List.set_cons_succ]
            refine H_move 10 36 (.pointer (some ⟨b, o, none⟩)) rfl (by kernel_rfl) (by kernel_rfl) (by kernel_rfl) (fun _ _ _ h => h) rfl rfl hHeld ?_
            try simp only [Act.put, List.setIfInBounds_toArray, List.set_cons_zero, List.set_cons_succ]
            refine H_move 11 37 (.int .i64 0) rfl (by kernel_rfl) (by kernel_rfl) (by kernel_rfl) (fun _ _ _ h => h) rfl rfl hHeld ?_
            try simp only [Act.put, List.setIfInBounds_toArray, List.set_cons_zero, List.set_cons_succ]
            refine H_take 12 38 (.pointer (some ⟨b, o, none⟩)) rfl rfl (by kernel_rfl) (by kernel_rfl) (by kernel_rfl) (fun _ _ _ h => h) rfl ?_ hHeld ?_
            · intro _ _; go_simp
            try simp only [Act.put, List.setIfInBounds_toArray, List.set_cons_zero, List.set_cons_succ]
            refine H_take 13 39 (.pointer (some ⟨b, o + 2, none⟩)) rfl rfl (by kernel_rfl) (by kernel_rfl) (by kernel_rfl) (fun _ _ _ h => h) rfl ?_ hHeld ?_
            · intro _ _; go_simp
            try simp only [Act.put, List.setIfInBounds_toArray, List.set_cons_zero, List.set_cons_succ]
            refine H_take 14 40 (.pointer (some ⟨b, o + 2, none⟩)) rfl rfl (by kernel_rfl) (by kernel_rfl) (by kernel_rfl) (fun _ _ _ h => h) rfl ?_ hHeld ?_
            · intro _ _; go_simp
            try simp only [Act.put, List.setIfInBounds_toArray, List.set_cons_zero, List.set_cons_succ]
            refine H_load 51 15 41 ta51 (L (s.r 0)) (L_len HL _) (b) (o + 2) rfl (by kernel_rfl) (by kernel_rfl) (by kernel_rfl) (fun _ _ _ h => h) rfl rfl (fun w' h => (hNX.out.r 0 (by omega)).below h lX) hHeld ?_
            try simp only [Act.put, List.setIfInBounds_toArray, List.set_cons_zero, List.set_cons_succ]
            refine H_load 51 16 42 ta51 (L r) (L_len HL _) (p5) (0) rfl (by kernel_rfl) (by kernel_rfl) (by kernel_rfl) (fun _ _ _ h => h) rfl rfl (fun w' h => H5X.out.below h l5X) hHeld ?_
            try simp only [Act.put, List.setIfInBounds_toArray, List.set_cons_zero, List.set_cons_succ]
            refine H_take 17 43 (.bool false) rfl rfl (by kernel_rfl) (by kernel_rfl) (by kernel_rfl) (fun _ _ _ h => h) rfl ?_ hHeld ?_
            · intro w' _; have hq := L_equal51 HL (s.r 0) r (hok.out 0 (by omega)) hr.out w'; rw [decide_eq_false hE] at hq; go_simp
            try simp only [Act.put, List.setIfInBounds_toArray, List.set_cons_zero, List.set_cons_succ]
            refine H_take 18 44 (.bool false) rfl rfl (by kernel_rfl) (by kernel_rfl) (by kernel_rfl) (fun _ _ _ h => h) rfl ?_ hHeld ?_
            · intro _ _; go_simp
            try simp only [Act.put, List.setIfInBounds_toArray, List.set_cons_zero, List.set_cons_succ]
            refine H_take 19 45 (.bool false) rfl rfl (by kernel_rfl) (by kernel_rfl) (by kernel_rfl) (fun _ _ _ h => h) rfl ?_ hHeld ?_
            · intro _ _; go_simp
            try simp only [Act.put, List.setIfInBounds_toArray, List.set_cons_zero, List.set_cons_succ]
            refine wpAnyH_done (by kernel_rfl) ?_ _
            clear hE
            obtain ⟨Y, hY⟩ : ∃ Y, Y = X.drew := ⟨_, rfl⟩
            rw [← hY] at hHeld ⊢
            clear hY
            have hNY : Hid (NearAt L Y b o s) := hNX.out.below hHeld lX
            have H5Y : Hid (Mem Y p5 0 (L r)) := H5X.out.below hHeld l5X
            have l5Y := Nat.lt_of_lt_of_le l5X hHeld.size
            have OWY : Hid (Only b o 43 w Y) := Only.of_below _ _ (bl HBX.out hHeld) lb
            clear hHeld hcX
            have hcY := (hNY.out).n
            have hfY := (hNY.out).fr (o + 42)
            rw [← HNN.out] at hcY
            go_wp2_with fail
            try simp only [show min (3 : Int) 2 = 2 from by decide]
            obtain ⟨X1, hX1⟩ : ∃ X1, X1 = Y.setCell ⟨b, o + 42, none⟩ (.int .i64 2) := ⟨_, rfl⟩
            rw [← hX1]
            have hN1 : Hid (NearAt L X1 b o { s with n := 2 }) := by rw [hX1]; exact hNY.out.setN HL 2
            have O1 : Only b (o + 42) 1 Y X1 := by rw [hX1]; exact Only.setCell _ _ (Nat.le_refl _) (by omega)
            have H51 : Hid (Mem X1 p5 0 (L r)) := H5Y.out.only l5Y O1 (.inl n5.symm)
            have l1 := hN1.out.lt
            have l51 := Nat.lt_of_lt_of_le l5Y O1.size
            have OW1 : Hid (Only b o 43 w X1) := OWY.out.trans (O1.mono (by omega) (by omega))
            have hc1 : X1.cell? ⟨b, o + 42, none⟩ = some (.int .i64 2) := hN1.out.n
            clear hX1 O1 hcY hfY
            refine wp_region_held_drew (S := fun w' => Only b o 42 X1 w') (by kernel_rfl) (Only.of_below _ _ (below_drew _ X1) l1) (fun hHeld => ?_)
            refine H_move 0 55 (.pointer (some ⟨b, o, none⟩)) rfl (by kernel_rfl) (by kernel_rfl) (by kernel_rfl) (fun _ _ _ h => h) rfl rfl hHeld ?_
            try simp only [Act.put, List.setIfInBounds_toArray, List.set_cons_zero, List.set_cons_succ]
            refine H_take 1 56 (.pointer (some ⟨b, o, none⟩)) rfl rfl (by kernel_rfl) (by kernel_rfl) (by kernel_rfl) (fun _ _ _ h => h) rfl ?_ hHeld ?_
            · intro _ _; go_simp
            try simp only [Act.put, List.setIfInBounds_toArray, List.set_cons_zero, List.set_cons_succ]
            refine H_take 2 57 (.pointer (some ⟨b, o, none⟩)) rfl rfl (by kernel_rfl) (by kernel_rfl) (by kernel_rfl) (fun _ _ _ h => h) rfl ?_ hHeld ?_
            · intro _ _; go_simp
            try simp only [Act.put, List.setIfInBounds_toArray, List.set_cons_zero, List.set_cons_succ]
            refine H_move 3 58 (.int .i64 0) rfl (by kernel_rfl) (by kernel_rfl) (by kernel_rfl) (fun _ _ _ h => h) rfl rfl hHeld ?_
            try simp only [Act.put, List.setIfInBounds_toArray, List.set_cons_zero, List.set_cons_succ]
            refine H_take 4 59 (.int .i64 1) rfl rfl (by kernel_rfl) (by kernel_rfl) (by kernel_rfl) (fun _ _ _ h => h) rfl ?_ hHeld ?_
            · intro _ _; go_simp; try rfl
            try simp only [Act.put, List.setIfInBounds_toArray, List.set_cons_zero, List.set_cons_succ]
            refine H_move 5 60 (.pointer (some ⟨b, o, none⟩)) rfl (by kernel_rfl) (by kernel_rfl) (by kernel_rfl) (fun _ _ _ h => h) rfl rfl hHeld ?_
            try simp only [Act.put, List.setIfInBounds_toArray, List.set_cons_zero, List.set_cons_succ]
            refine H_take 6 61 (.pointer (some ⟨b, o, none⟩)) rfl rfl (by kernel_rfl) (by kernel_rfl) (by kernel_rfl) (fun _ _ _ h => h) rfl ?_ hHeld ?_
            · intro _ _; go_simp
            try simp only [Act.put, List.setIfInBounds_toArray, List.set_cons_zero, List.set_cons_succ]
            refine H_take 7 62 (.pointer (some ⟨b, o + 42, none⟩)) rfl rfl (by kernel_rfl) (by kernel_rfl) (by kernel_rfl) (fun _ _ _ h => h) rfl ?_ hHeld ?_
            · intro _ _; go_simp
            try simp only [Act.put, List.setIfInBounds_toArray, List.set_cons_zero, List.set_cons_succ]
            refine H_take 8 63 (.int .i64 2) rfl rfl (by kernel_rfl) (by kernel_rfl) (by kernel_rfl) (fun _ _ _ h => h) rfl ?_ hHeld ?_
            · intro w' h; have hc := (h.cell (o + 42) (by omega)).trans hc1; go_simp
            try simp only [Act.put, List.setIfInBounds_toArray, List.set_cons_zero, List.set_cons_succ]
            refine H_take 9 64 (.slice (some ⟨b, o + 1, none⟩) 1 1) rfl rfl (by kernel_rfl) (by kernel_rfl) (by kernel_rfl) (fun _ _ _ h => h) rfl ?_ hHeld ?_
            · intro _ _; go_simp
            try simp only [Act.put, List.setIfInBounds_toArray, List.set_cons_zero, List.set_cons_succ]
            refine H_move 10 65 (.pointer (some ⟨b, o, none⟩)) rfl (by kernel_rfl) (by kernel_rfl) (by kernel_rfl) (fun _ _ _ h => h) rfl rfl hHeld ?_
            try simp only [Act.put, List.setIfInBounds_toArray, List.set_cons_zero, List.set_cons_succ]
            refine H_take 11 66 (.pointer (some ⟨b, o, none⟩)) rfl rfl (by kernel_rfl) (by kernel_rfl) (by kernel_rfl) (fun _ _ _ h => h) rfl ?_ hHeld ?_
            · intro _ _; go_simp
            try simp only [Act.put, List.setIfInBounds_toArray, List.set_cons_zero, List.set_cons_succ]
            refine H_take 12 67 (.pointer (some ⟨b, o, none⟩)) rfl rfl (by kernel_rfl) (by kernel_rfl) (by kernel_rfl) (fun _ _ _ h => h) rfl ?_ hHeld ?_
            · intro _ _; go_simp
            try simp only [Act.put, List.setIfInBounds_toArray, List.set_cons_zero, List.set_cons_succ]
            refine H_move 13 68 (.int .i64 0) rfl (by kernel_rfl) (by kernel_rfl) (by kernel_rfl) (fun _ _ _ h => h) rfl rfl hHeld ?_
            try simp only [Act.put, List.setIfInBounds_toArray, List.set_cons_zero, List.set_cons_succ]
            refine H_take 14 69 (.slice (some ⟨b, o, none⟩) 2 2) rfl rfl (by kernel_rfl) (by kernel_rfl) (by kernel_rfl) (fun _ _ _ h => h) rfl ?_ hHeld ?_
            · intro _ _; go_simp
            try simp only [Act.put, List.setIfInBounds_toArray, List.set_cons_zero, List.set_cons_succ]
            refine wpAnyH_ready (rs := [15]) (by kernel_rfl) (by simp) ?_
            refine (AllReadyH.cons rfl (fun K hK => ?_) AllReadyH.nil)
            rw [if_pos (by rfl)]
            simp only [List.getElem_toArray, List.getElem_cons_zero, List.getElem_cons_succ]
            have hD6 := hN1.out.below (below_drew _ X1) l1
            have hlen1 : ([s.p 0] : List Value).length = Nat.min 2 1 * 1 := rfl
            with_reducible refine S_copyR 70 49 1 b (o + 1) 1 1 b o 2 2 [s.p 0] ?_ ?_ Try.underlying70 (by kernel_rfl) hlen1 ?_ ?_ ?_ ?_
            · rfl
            · rfl
            · intro i v hv
              match i, hv with
              | 0, hv => simp at hv; subst hv; exact ⟨hD6.p 0 (by omega), hD6.fr _⟩
              | i + 1, hv => simp at hv
            · intro j hj
              have hj : j < 1 := hj
              obtain rfl : j = 0 := by omega
              exact ⟨by rw [Nat.add_zero, hD6.p 1 (by omega)]; rfl, hD6.fr _⟩
            · intro v hv; simp at hv; subst hv; exact hop.out 0 (by omega)
            intro X2 M2 O2
            have O2 : Only b (o + 1) 1 _ X2 := O2
            have hN2 : Hid (NearAt L X2 b o { s with n := 2, p := upd s.p 1 (s.p 0) }) := hD6.setP HL 1 (by omega) (s.p 0) (M2 0 _ rfl).1 O2
            refine hK.out _ _ (hHeld.trans (O2.mono (by omega) (by omega))) (fun hHeld => ?_)
            clear hK K
            try simp only [Act.put, List.setIfInBounds_toArray, List.set_cons_zero, List.set_cons_succ]
            refine wpAnyH_done (by kernel_rfl) ?_ _
            have H52 : Hid (Mem X2 p5 0 (L r)) := H51.out.only l51 hHeld (.inl n5.symm)
            have l2 := hN2.out.lt
            have l52 := Nat.lt_of_lt_of_le l51 hHeld.size
            have OW2 : Hid (Only b o 43 w X2) := OW1.out.trans (hHeld.mono (by omega) (by omega))
            have hc2 : X2.cell? ⟨b, o + 42, none⟩ = some (.int .i64 2) := hN2.out.n
            clear hHeld hc1 H51 OW1 hN1
            go_wp2_with fail
            refine wp_region_held_drew (S := fun w' => Only b o 42 X2 w') (by kernel_rfl) (Only.of_below _ _ (below_drew _ X2) l2) (fun hHeld => ?_)
            refine H_move 0 71 (.pointer (some ⟨b, o, none⟩)) rfl (by kernel_rfl) (by kernel_rfl) (by kernel_rfl) (fun _ _ _ h => h) rfl rfl hHeld ?_
            try simp only [Act.put, List.setIfInBounds_toArray, List.set_cons_zero, List.set_cons_succ]
            refine H_take 1 72 (.pointer (some ⟨b, o, none⟩)) rfl rfl (by kernel_rfl) (by kernel_rfl) (by kernel_rfl) (fun _ _ _ h => h) rfl ?_ hHeld ?_
            · intro _ _; go_simp
            try simp only [Act.put, List.setIfInBounds_toArray, List.set_cons_zero, List.set_cons_succ]
            refine H_take 2 73 (.pointer (some ⟨b, o + 2, none⟩)) rfl rfl (by kernel_rfl) (by kernel_rfl) (by kernel_rfl) (fun _ _ _ h => h) rfl ?_ hHeld ?_
            · intro _ _; go_simp
            try simp only [Act.put, List.setIfInBounds_toArray, List.set_cons_zero, List.set_cons_succ]
            refine H_move 3 74 (.int .i64 0) rfl (by kernel_rfl) (by kernel_rfl) (by kernel_rfl) (fun _ _ _ h => h) rfl rfl hHeld ?_
            try simp only [Act.put, List.setIfInBounds_toArray, List.set_cons_zero, List.set_cons_succ]
            refine H_take 4 75 (.int .i64 1) rfl rfl (by kernel_rfl) (by kernel_rfl) (by kernel_rfl) (fun _ _ _ h => h) rfl ?_ hHeld ?_
            · intro _ _; go_simp; try rfl
            try simp only [Act.put, List.setIfInBounds_toArray, List.set_cons_zero, List.set_cons_succ]
            refine H_move 5 76 (.pointer (some ⟨b, o, none⟩)) rfl (by kernel_rfl) (by kernel_rfl) (by kernel_rfl) (fun _ _ _ h => h) rfl rfl hHeld ?_
            try simp only [Act.put, List.setIfInBounds_toArray, List.set_cons_zero, List.set_cons_succ]
            refine H_take 6 77 (.pointer (some ⟨b, o, none⟩)) rfl rfl (by kernel_rfl) (by kernel_rfl) (by kernel_rfl) (fun _ _ _ h => h) rfl ?_ hHeld ?_
            · intro _ _; go_simp
            try simp only [Act.put, List.setIfInBounds_toArray, List.set_cons_zero, List.set_cons_succ]
            refine H_take 7 78 (.pointer (some ⟨b, o + 42, none⟩)) rfl rfl (by kernel_rfl) (by kernel_rfl) (by kernel_rfl) (fun _ _ _ h => h) rfl ?_ hHeld ?_
            · intro _ _; go_simp
            try simp only [Act.put, List.setIfInBounds_toArray, List.set_cons_zero, List.set_cons_succ]
            refine H_take 8 79 (.int .i64 2) rfl rfl (by kernel_rfl) (by kernel_rfl) (by kernel_rfl) (fun _ _ _ h => h) rfl ?_ hHeld ?_
            · intro w' h; have hc := (h.cell (o + 42) (by omega)).trans hc2; go_simp
            try simp only [Act.put, List.setIfInBounds_toArray, List.set_cons_zero, List.set_cons_succ]
            refine H_take 9 80 (.slice (some ⟨b, o + 22, none⟩) 1 1) rfl rfl (by kernel_rfl) (by kernel_rfl) (by kernel_rfl) (fun _ _ _ h => h) rfl ?_ hHeld ?_
            · intro _ _; go_simp
            try simp only [Act.put, List.setIfInBounds_toArray, List.set_cons_zero, List.set_cons_succ]
            refine H_move 10 81 (.pointer (some ⟨b, o, none⟩)) rfl (by kernel_rfl) (by kernel_rfl) (by kernel_rfl) (fun _ _ _ h => h) rfl rfl hHeld ?_
            try simp only [Act.put, List.setIfInBounds_toArray, List.set_cons_zero, List.set_cons_succ]
            refine H_take 11 82 (.pointer (some ⟨b, o, none⟩)) rfl rfl (by kernel_rfl) (by kernel_rfl) (by kernel_rfl) (fun _ _ _ h => h) rfl ?_ hHeld ?_
            · intro _ _; go_simp
            try simp only [Act.put, List.setIfInBounds_toArray, List.set_cons_zero, List.set_cons_succ]
            refine H_take 12 83 (.pointer (some ⟨b, o + 2, none⟩)) rfl rfl (by kernel_rfl) (by kernel_rfl) (by kernel_rfl) (fun _ _ _ h => h) rfl ?_ hHeld ?_
            · intro _ _; go_simp
            try simp only [Act.put, List.setIfInBounds_toArray, List.set_cons_zero, List.set_cons_succ]
            refine H_move 13 84 (.int .i64 0) rfl (by kernel_rfl) (by kernel_rfl) (by kernel_rfl) (fun _ _ _ h => h) rfl rfl hHeld ?_
            try simp only [Act.put, List.setIfInBounds_toArray, List.set_cons_zero, List.set_cons_succ]
            refine H_take 14 85 (.slice (some ⟨b, o + 2, none⟩) 2 2) rfl rfl (by kernel_rfl) (by kernel_rfl) (by kernel_rfl) (fun _ _ _ h => h) rfl ?_ hHeld ?_
            · intro _ _; go_simp
            try simp only [Act.put, List.setIfInBounds_toArray, List.set_cons_zero, List.set_cons_succ]
            refine wpAnyH_ready (rs := [15]) (by kernel_rfl) (by simp) ?_
            refine (AllReadyH.cons rfl (fun K hK => ?_) AllReadyH.nil)
            rw [if_pos (by rfl)]
            simp only [List.getElem_toArray, List.getElem_cons_zero, List.getElem_cons_succ]
            have hD7 := hN2.out.below (below_drew _ X2) l2
            have hlen20 : (L (s.r 0)).length = Nat.min 2 1 * 20 := L_len HL _
            with_reducible refine S_copyR 86 51 20 b (o + 22) 1 1 b (o + 2) 2 2 (L (s.r 0)) ?_ ?_ Try.underlying87 (by kernel_rfl) hlen20 ?_ ?_ ?_ ?_
            · rfl
            · rfl
            · exact hD7.r 0 (by omega)
            · rw [L_len HL, ← L_len HL (s.r 1)]; exact (hD7.r 1 (by omega)).there
            · exact L_one HL _
            intro X3 M3 O3
            rw [L_len HL] at O3
            have hN3 : Hid (NearAt L X3 b o { s with n := 2, p := upd s.p 1 (s.p 0), r := upd s.r 1 (s.r 0) }) := hD7.setR HL 1 (by omega) (s.r 0) M3 O3
            refine hK.out _ _ (hHeld.trans (O3.mono (by omega) (by omega))) (fun hHeld => ?_)
            clear hK K
            try simp only [Act.put, List.setIfInBounds_toArray, List.set_cons_zero, List.set_cons_succ]
            refine wpAnyH_done (by kernel_rfl) ?_ _
            have H53 : Hid (Mem X3 p5 0 (L r)) := H52.out.only l52 hHeld (.inl n5.symm)
            have l3 := hN3.out.lt
            have l53 := Nat.lt_of_lt_of_le l52 hHeld.size
            have OW3 : Hid (Only b o 43 w X3) := OW2.out.trans (hHeld.mono (by omega) (by omega))
            clear hHeld hc2 H52 OW2 hN2
            go_wp2_with fail
            refine wp_region_held_drew (S := fun w' => Only b o 42 X3 w') (by kernel_rfl) (Only.of_below _ _ (below_drew _ X3) l3) (fun hHeld => ?_)
            refine H_move 0 87 (.pointer (some ⟨b, o, none⟩)) rfl (by kernel_rfl) (by kernel_rfl) (by kernel_rfl) (fun _ _ _ h => h) rfl rfl hHeld ?_
            try simp only [Act.put, List.setIfInBounds_toArray, List.set_cons_zero, List.set_cons_succ]
            refine H_move 1 88 (.int .i64 0) rfl (by kernel_rfl) (by kernel_rfl) (by kernel_rfl) (fun _ _ _ h => h) rfl rfl hHeld ?_
            try simp only [Act.put, List.setIfInBounds_toArray, List.set_cons_zero, List.set_cons_succ]
            refine H_move 2 89 (.pointer (some ⟨b, o, none⟩)) rfl (by kernel_rfl) (by kernel_rfl) (by kernel_rfl) (fun _ _ _ h => h) rfl rfl hHeld ?_
            try simp only [Act.put, List.setIfInBounds_toArray, List.set_cons_zero, List.set_cons_succ]
            refine H_move 3 90 (.int .i64 0) rfl (by kernel_rfl) (by kernel_rfl) (by kernel_rfl) (fun _ _ _ h => h) rfl rfl hHeld ?_
            try simp only [Act.put, List.setIfInBounds_toArray, List.set_cons_zero, List.set_cons_succ]
            refine H_move 4 91 (.pointer (some q)) rfl (by kernel_rfl) (by kernel_rfl) (by kernel_rfl) (fun _ _ _ h => h) rfl rfl hHeld ?_
            try simp only [Act.put, List.setIfInBounds_toArray, List.set_cons_zero, List.set_cons_succ]
            refine H_load 51 5 92 ta51 (L r) (L_len HL _) (p5) (0) rfl (by kernel_rfl) (by kernel_rfl) (by kernel_rfl) (fun _ _ _ h => h) rfl rfl (fun w' h => H53.out.only l53 h (.inl n5.symm)) hHeld ?_
            try simp only [Act.put, List.setIfInBounds_toArray, List.set_cons_zero, List.set_cons_succ]
            refine H_take 6 93 (.pointer (some ⟨b, o, none⟩)) rfl rfl (by kernel_rfl) (by kernel_rfl) (by kernel_rfl) (fun _ _ _ h => h) rfl ?_ hHeld ?_
            · intro _ _; go_simp
            try simp only [Act.put, List.setIfInBounds_toArray, List.set_cons_zero, List.set_cons_succ]
            refine H_take 7 94 (.pointer (some ⟨b, o, none⟩)) rfl rfl (by kernel_rfl) (by kernel_rfl) (by kernel_rfl) (fun _ _ _ h => h) rfl ?_ hHeld ?_
            · intro _ _; go_simp
            try simp only [Act.put, List.setIfInBounds_toArray, List.set_cons_zero, List.set_cons_succ]
            refine H_take 8 95 (.pointer (some ⟨b, o, none⟩)) rfl rfl (by kernel_rfl) (by kernel_rfl) (by kernel_rfl) (fun _ _ _ h => h) rfl ?_ hHeld ?_
            · intro _ _; go_simp
            try simp only [Act.put, List.setIfInBounds_toArray, List.set_cons_zero, List.set_cons_succ]
            refine H_take 10 96 (.pointer (some ⟨b, o, none⟩)) rfl rfl (by kernel_rfl) (by kernel_rfl) (by kernel_rfl) (fun _ _ _ h => h) rfl ?_ hHeld ?_
            · intro _ _; go_simp
            try simp only [Act.put, List.setIfInBounds_toArray, List.set_cons_zero, List.set_cons_succ]
            refine H_take 11 97 (.pointer (some ⟨b, o + 2, none⟩)) rfl rfl (by kernel_rfl) (by kernel_rfl) (by kernel_rfl) (fun _ _ _ h => h) rfl ?_ hHeld ?_
            · intro _ _; go_simp
            try simp only [Act.put, List.setIfInBounds_toArray, List.set_cons_zero, List.set_cons_succ]
            refine wpAnyH_ready (rs := [9]) (by kernel_rfl) (by simp) ?_
            refine (AllReadyH.cons rfl (fun K hK => ?_) AllReadyH.nil)
            rw [if_pos (by rfl)]
            simp only [List.getElem_toArray, List.getElem_cons_zero, List.getElem_cons_succ]
            have hD8 := hN3.out.below (below_drew _ X3) l3
            with_reducible refine S_cell 49 95 (.pointer (some q)) (upd s.p 1 (s.p 0) 0) Try.sizeOf49 (cells_ptr q) (one_ptr q) b (o) ?_ ?_ ?_ ?_
            · rfl
            · rfl
            · intro i v hv
              match i, hv with
              | 0, hv => simp at hv; subst hv; exact ⟨hD8.p 0 (by omega), hD8.fr _⟩
              | i + 1, hv => simp at hv
            intro X4 M4 O4
            have hN4 : Hid (NearAt L X4 b o _) := hD8.setP HL 0 (by omega) (.pointer (some q)) (M4 0 _ rfl).1 O4
            refine hK.out _ _ (hHeld.trans (O4.mono (by omega) (by omega))) (fun hHeld => ?_)
            clear hK K
            try simp only [Act.put]
            refine H_take 12 98 (.pointer (some ⟨b, o + 2, none⟩)) rfl rfl (by kernel_rfl) (by kernel_rfl) (by kernel_rfl) (fun _ _ _ h => h) rfl ?_ hHeld ?_
            · intro _ _; go_simp
            try simp only [Act.put, List.setIfInBounds_toArray, List.set_cons_zero, List.set_cons_succ]
            refine wpAnyH_ready (rs := [13]) (by kernel_rfl) (by simp) ?_
            refine (AllReadyH.cons rfl (fun K hK => ?_) AllReadyH.nil)
            rw [if_pos (by rfl)]
            simp only [List.getElem_toArray, List.getElem_cons_zero, List.getElem_cons_succ]
            with_reducible refine S_store 51 98 92 ta51 (L r) (L (upd s.r 1 (s.r 0) 0)) (L_len HL _) (L_len HL _) (L_one HL _) b (o + 2) ?_ ?_ ?_ ?_
            · rfl
            · rfl
            · exact hN4.out.r 0 (by omega)
            intro X5 M5 O5
            have hN5f := hN4.out.setR HL 0 (by omega) r M5 O5
            refine hK.out _ _ (hHeld.trans (O5.mono (by omega) (by omega))) (fun hHeld => ?_)
            clear hK K
            try simp only [Act.put]
            refine wpAnyH_done (by kernel_rfl) ?_ _
            go_wp2_with fail
            go_end0
            refine ⟨rfl, insAt s 0 (.pointer (some q)) r, ⟨0, by rw [← HNN.out]; omega, HJ.out, ?_, .inr ⟨by omega, ?_, rfl⟩⟩, ?_, OW3.out.trans (hHeld.mono (by omega) (by omega))⟩
            · exact HEx.out.1
            · exact HEx.out.2
            · have hns := HNN.out
              refine hN5f.congr (fun j hj => ?_) (fun j hj => ?_) ?_
              · rcases (by omega : j = 0 ∨ j = 1) with rfl | rfl <;> simp [upd, insAt, ← hns]
              · rcases (by omega : j = 0 ∨ j = 1) with rfl | rfl <;> simp [upd, insAt, ← hns]
              · simp [insAt, ← hns]
        · have hcX : X.cell? ⟨b, o + 42, none⟩ = some (.int .i64 2) := by have h := hNX.out.n; rw [← HNN.out] at h; exact h
          by_cases hE : V (s.r 1) = V r
          · refine wp_region_held_drew (S := fun w' => Below X.heap.size X w') (by kernel_rfl) (below_drew _ X) (fun hHeld => ?_)
            refine H_move 0 26 (.int .i64 1) rfl (by kernel_rfl) (by kernel_rfl) (by kernel_rfl) (fun _ _ _ h => h) rfl rfl hHeld ?_
            try simp only [Act.put, List.setIfInBounds_toArray, List.set_cons_zero, List.set_cons_succ]
            refine H_take 1 27 (.bool false) rfl rfl (by kernel_rfl) (by kernel_rfl) (by kernel_rfl) (fun _ _ _ h => h) rfl ?_ hHeld ?_
            · intro _ _; go_simp
            try simp only [Act.put, List.setIfInBounds_toArray, List.set_cons_zero, List.set_cons_succ]
            refine H_move 2 28 (.bool false) rfl (by kernel_rfl) (by kernel_rfl) (by kernel_rfl) (fun _ _ _ h => h) rfl rfl hHeld ?_
            try simp only [Act.put, List.setIfInBounds_toArray, List.set_cons_zero, List.set_cons_succ]
            refine H_move 3 29 (.int .i64 1) rfl (by kernel_rfl) (by kernel_rfl) (by kernel_rfl) (fun _ _ _ h => h) rfl rfl hHeld ?_
            try simp only [Act.put, List.setIfInBounds_toArray, List.set_cons_zero, List.set_cons_succ]
            refine H_move 4 30 (.pointer (some ⟨b, o, none⟩)) rfl (by kernel_rfl) (by kernel_rfl) (by kernel_rfl) (fun _ _ _ h => h) rfl rfl hHeld ?_
            try simp only [Act.put, List.setIfInBounds_toArray, List.set_cons_zero, List.set_cons_succ]
            refine H_take 5 31 (.pointer (some ⟨b, o, none⟩)) rfl rfl (by kernel_rfl) (by kernel_rfl) (by kernel_rfl) (fun _ _ _ h => h) rfl ?_ hHeld ?_
            · intro _ _; go_simp
            try simp only [Act.put, List.setIfInBounds_toArray, List.set_cons_zero, List.set_cons_succ]
            refine H_take 6 32 (.pointer (some ⟨b, o + 42, none⟩)) rfl rfl (by kernel_rfl) (by kernel_rfl) (by kernel_rfl) (fun _ _ _ h => h) rfl ?_ hHeld ?_
            · intro _ _; go_simp
            try simp only [Act.put, List.setIfInBounds_toArray, List.set_cons_zero, List.set_cons_succ]
            refine H_take 7 33 (.int .i64 2) rfl rfl (by kernel_rfl) (by kernel_rfl) (by kernel_rfl) (fun _ _ _ h => h) rfl ?_ hHeld ?_
            · intro w' h; have hc := (h.cell (p := ⟨b, o + 42, none⟩) lX).trans hcX; go_simp
            try simp only [Act.put, List.setIfInBounds_toArray, List.set_cons_zero, List.set_cons_succ]
            refine H_take 8 34 (.bool true) rfl rfl (by kernel_rfl) (by kernel_rfl) (by kernel_rfl) (fun _ _ _ h => h) rfl ?_ hHeld ?_
            · intro _ _; go_simp
            try simp only [Act.put, List.setIfInBounds_toArray, List.set_cons_zero, List.set_cons_succ]
            refine H_move 9 35 (.bool true) rfl (by kernel_rfl) (by kernel_rfl) (by kernel_rfl) (fun _ _ _ h => h) rfl rfl hHeld ?_
            try simp only [Act.put, List.setIfInBounds_toArray, List.set_cons_zero, List.set_cons_succ]
            refine H_move 10 36 (.pointer (some ⟨b, o, none⟩)) rfl (by kernel_rfl) (by kernel_rfl) (by kernel_rfl) (fun _ _ _ h => h) rfl rfl hHeld ?_
            try simp only [Act.put, List.setIfInBounds_toArray, List.set_cons_zero, List.set_cons_succ]
            refine H_move 11 37 (.int .i64 1) rfl (by kernel_rfl) (by kernel_rfl) (by kernel_rfl) (fun _ _ _ h => h) rfl rfl hHeld ?_
            try simp only [Act.put, List.setIfInBounds_toArray, List.set_cons_zero, List.set_cons_succ]
            refine H_take 12 38 (.pointer (some ⟨b, o, none⟩)) rfl rfl (by kernel_rfl) (by kernel_rfl) (by kernel_rfl) (fun _ _ _ h => h) rfl ?_ hHeld ?_
            · intro _ _; go_simp
            try simp only [Act.put, List.setIfInBounds_toArray, List.set_cons_zero, List.set_cons_succ]
            refine H_take 13 39 (.pointer (some ⟨b, o + 2, none⟩)) rfl rfl (by kernel_rfl) (by kernel_rfl) (by kernel_rfl) (fun _ _ _ h => h) rfl ?_ hHeld ?_
            · intro _ _; go_simp
            try simp only [Act.put, List.setIfInBounds_toArray, List.set_cons_zero, List.set_cons_succ]
            refine H_take 14 40 (.pointer (some ⟨b, o + 2 + 20, none⟩)) rfl rfl (by kernel_rfl) (by kernel_rfl) (by kernel_rfl) (fun _ _ _ h => h) rfl ?_ hHeld ?_
            · intro _ _; go_simp
            try simp only [Act.put, List.setIfInBounds_toArray, List.set_cons_zero, List.set_cons_succ]
            refine H_load 51 15 41 ta51 (L (s.r 1)) (L_len HL _) (b) (o + 2 + 20) rfl (by kernel_rfl) (by kernel_rfl) (by kernel_rfl) (fun _ _ _ h => h) rfl rfl (fun w' h => (hNX.out.r 1 (by omega)).below h lX) hHeld ?_
            try simp only [Act.put, List.setIfInBounds_toArray, List.set_cons_zero, List.set_cons_succ]
            refine H_load 51 16 42 ta51 (L r) (L_len HL _) (p5) (0) rfl (by kernel_rfl) (by kernel_rfl) (by kernel_rfl) (fun _ _ _ h => h) rfl rfl (fun w' h => H5X.out.below h l5X) hHeld ?_
            try simp only [Act.put, List.setIfInBounds_toArray, List.set_cons_zero, List.set_cons_succ]
            refine H_take 17 43 (.bool true) rfl rfl (by kernel_rfl) (by kernel_rfl) (by kernel_rfl) (fun _ _ _ h => h) rfl ?_ hHeld ?_
            · intro w' _; have hq := L_equal51 HL (s.r 1) r (hok.out 1 (by omega)) hr.out w'; rw [decide_eq_true hE] at hq; go_simp
            try simp only [Act.put, List.setIfInBounds_toArray, List.set_cons_zero, List.set_cons_succ]
            refine H_take 18 44 (.bool true) rfl rfl (by kernel_rfl) (by kernel_rfl) (by kernel_rfl) (fun _ _ _ h => h) rfl ?_ hHeld ?_
            · intro _ _; go_simp
            try simp only [Act.put, List.setIfInBounds_toArray, List.set_cons_zero, List.set_cons_succ]
            refine H_take 19 45 (.bool true) rfl rfl (by kernel_rfl) (by kernel_rfl) (by kernel_rfl) (fun _ _ _ h => h) rfl ?_ hHeld ?_
            · intro _ _; go_simp
            try simp only [Act.put, List.setIfInBounds_toArray, List.set_cons_zero, List.set_cons_succ]
            refine wpAnyH_done (by kernel_rfl) ?_ _
            go_wp2_with fail
            exact bodyPost_ret (results_none rfl _ _ _) rfl ⟨rfl, s, ⟨1, by rw [← HNN.out]; omega, HJ.out, .inr (by omega), .inl ⟨.inr ⟨by rw [← HNN.out]; omega, hE⟩, rfl⟩⟩, hNX.out.below hHeld lX, Only.of_below _ _ (bl HBX.out hHeld) lb⟩
          · have HEx : Hid ((1 = s.n ∨ V r ≤ V (s.r 1)) ∧ ¬ (1 < s.n ∧ V (s.r 1) = V r)) := ⟨.inr (by have h := HZ.out; have : ¬ V (s.r 1) < V r := fun c => absurd (h.2 c) (by omega); omega), fun h => hE h.2⟩
            refine wp_region_held_drew (S := fun w' => Below X.heap.size X w') (by kernel_rfl) (below_drew _ X) (fun hHeld => ?_)
            refine H_move 0 26 (.int .i64 1) rfl (by kernel_rfl) (by kernel_rfl) (by kernel_rfl) (fun _ _ _ h => h) rfl rfl hHeld ?_
            try simp only [Act.put, List.setIfInBounds_toArray, List.set_cons_zero, List.set_cons_succ]
            refine H_take 1 27 (.bool false) rfl rfl (by kernel_rfl) (by kernel_rfl) (by kernel_rfl) (fun _ _ _ h => h) rfl ?_ hHeld ?_
            · intro _ _; go_simp
            try simp only [Act.put, List.setIfInBounds_toArray, List.set_cons_zero, List.set_cons_succ]
            refine H_move 2 28 (.bool false) rfl (by kernel_rfl) (by kernel_rfl) (by kernel_rfl) (fun _ _ _ h => h) rfl rfl hHeld ?_
            try simp only [Act.put, List.setIfInBounds_toArray, List.set_cons_zero, List.set_cons_succ]
            refine H_move 3 29 (.int .i64 1) rfl (by kernel_rfl) (by kernel_rfl) (by kernel_rfl) (fun _ _ _ h => h) rfl rfl hHeld ?_
            try simp only [Act.put, List.setIfInBounds_toArray, List.set_cons_zero, List.set_cons_succ]
            refine H_move 4 30 (.pointer (some ⟨b, o, none⟩)) rfl (by kernel_rfl) (by kernel_rfl) (by kernel_rfl) (fun _ _ _ h => h) rfl rfl hHeld ?_
            try simp only [Act.put, List.setIfInBounds_toArray, List.set_cons_zero, List.set_cons_succ]
            refine H_take 5 31 (.pointer (some ⟨b, o, none⟩)) rfl rfl (by kernel_rfl) (by kernel_rfl) (by kernel_rfl) (fun _ _ _ h => h) rfl ?_ hHeld ?_
            · intro _ _; go_simp
            try simp only [Act.put, List.setIfInBounds_toArray, List.set_cons_zero, List.set_cons_succ]
            refine H_take 6 32 (.pointer (some ⟨b, o + 42, none⟩)) rfl rfl (by kernel_rfl) (by kernel_rfl) (by kernel_rfl) (fun _ _ _ h => h) rfl ?_ hHeld ?_
            · intro _ _; go_simp
            try simp only [Act.put, List.setIfInBounds_toArray, List.set_cons_zero, List.set_cons_succ]
            refine H_take 7 33 (.int .i64 2) rfl rfl (by kernel_rfl) (by kernel_rfl) (by kernel_rfl) (fun _ _ _ h => h) rfl ?_ hHeld ?_
            · intro w' h; have hc := (h.cell (p := ⟨b, o + 42, none⟩) lX).trans hcX; go_simp
            try simp only [Act.put, List.setIfInBounds_toArray, List.set_cons_zero, List.set_cons_succ]
            refine H_take 8 34 (.bool true) rfl rfl (by kernel_rfl) (by kernel_rfl) (by kernel_rfl) (fun _ _ _ h => h) rfl ?_ hHeld ?_
            · intro _ _; go_simp
            try simp only [Act.put, List.setIfInBounds_toArray, List.set_cons_zero, List.set_cons_succ]
            refine H_move 9 35 (.bool true) rfl (by kernel_rfl) (by kernel_rfl) (by kernel_rfl) (fun _ _ _ h => h) rfl rfl hHeld ?_
            try simp only [Act.put, List.setIfInBounds_toArray, List.set_cons_zero, List.set_cons_succ]
            refine H_move 10 36 (.pointer (some ⟨b, o, none⟩)) rfl (by kernel_rfl) (by kernel_rfl) (by kernel_rfl) (fun _ _ _ h => h) rfl rfl hHeld ?_
            try simp only [Act.put, List.setIfInBounds_toArray, List.set_cons_zero, List.set_cons_succ]
            refine H_move 11 37 (.int .i64 1) rfl (by kernel_rfl) (by kernel_rfl) (by kernel_rfl) (fun _ _ _ h => h) rfl rfl hHeld ?_
            try simp only [Act.put, List.setIfInBounds_toArray, List.set_cons_zero, List.set_cons_succ]
            refine H_take 12 38 (.pointer (some ⟨b, o, none⟩)) rfl rfl (by kernel_rfl) (by kernel_rfl) (by kernel_rfl) (fun _ _ _ h => h) rfl ?_ hHeld ?_
            · intro _ _; go_simp
            try simp only [Act.put, List.setIfInBounds_toArray, List.set_cons_zero, List.set_cons_succ]
            refine H_take 13 39 (.pointer (some ⟨b, o + 2, none⟩)) rfl rfl (by kernel_rfl) (by kernel_rfl) (by kernel_rfl) (fun _ _ _ h => h) rfl ?_ hHeld ?_
            · intro _ _; go_simp
            try simp only [Act.put, List.setIfInBounds_toArray, List.set_cons_zero, List.set_cons_succ]
            refine H_take 14 40 (.pointer (some ⟨b, o + 2 + 20, none⟩)) rfl rfl (by kernel_rfl) (by kernel_rfl) (by kernel_rfl) (fun _ _ _ h => h) rfl ?_ hHeld ?_
            · intro _ _; go_simp
            try simp only [Act.put, List.setIfInBounds_toArray, List.set_cons_zero, List.set_cons_succ]
            refine H_load 51 15 41 ta51 (L (s.r 1)) (L_len HL _) (b) (o + 2 + 20) rfl (by kernel_rfl) (by kernel_rfl) (by kernel_rfl) (fun _ _ _ h => h) rfl rfl (fun w' h => (hNX.out.r 1 (by omega)).below h lX) hHeld ?_
            try simp only [Act.put, List.setIfInBounds_toArray, List.set_cons_zero, List.set_cons_succ]
            refine H_load 51 16 42 ta51 (L r) (L_len HL _) (p5) (0) rfl (by kernel_rfl) (by kernel_rfl) (by kernel_rfl) (fun _ _ _ h => h) rfl rfl (fun w' h => H5X.out.below h l5X) hHeld ?_
            try simp only [Act.put, List.setIfInBounds_toArray, List.set_cons_zero, List.set_cons_succ]
            refine H_take 17 43 (.bool false) rfl rfl (by kernel_rfl) (by kernel_rfl) (by kernel_rfl) (fun _ _ _ h => h) rfl ?_ hHeld ?_
            · intro w' _; have hq := L_equal51 HL (s.r 1) r (hok.out 1 (by omega)) hr.out w'; rw [decide_eq_false hE] at hq; go_simp
            try simp only [Act.put, List.setIfInBounds_toArray, List.set_cons_zero, List.set_cons_succ]
            refine H_take 18 44 (.bool false) rfl rfl (by kernel_rfl) (by kernel_rfl) (by kernel_rfl) (fun _ _ _ h => h) rfl ?_ hHeld ?_
            · intro _ _; go_simp
            try simp only [Act.put, List.setIfInBounds_toArray, List.set_cons_zero, List.set_cons_succ]
            refine H_take 19 45 (.bool false) rfl rfl (by kernel_rfl) (by kernel_rfl) (by kernel_rfl) (fun _ _ _ h => h) rfl ?_ hHeld ?_
            · intro _ _; go_simp
            try simp only [Act.put, List.setIfInBounds_toArray, List.set_cons_zero, List.set_cons_succ]
            refine wpAnyH_done (by kernel_rfl) ?_ _
            clear hE
            obtain ⟨Y, hY⟩ : ∃ Y, Y = X.drew := ⟨_, rfl⟩
            rw [← hY] at hHeld ⊢
            clear hY
            have hNY : Hid (NearAt L Y b o s) := hNX.out.below hHeld lX
            have H5Y : Hid (Mem Y p5 0 (L r)) := H5X.out.below hHeld l5X
            have l5Y := Nat.lt_of_lt_of_le l5X hHeld.size
            have OWY : Hid (Only b o 43 w Y) := Only.of_below _ _ (bl HBX.out hHeld) lb
            clear hHeld hcX
            have hcY := (hNY.out).n
            have hfY := (hNY.out).fr (o + 42)
            rw [← HNN.out] at hcY
            go_wp2_with fail
            try simp only [show min (3 : Int) 2 = 2 from by decide]
            obtain ⟨X1, hX1⟩ : ∃ X1, X1 = Y.setCell ⟨b, o + 42, none⟩ (.int .i64 2) := ⟨_, rfl⟩
            rw [← hX1]
            have hN1 : Hid (NearAt L X1 b o { s with n := 2 }) := by rw [hX1]; exact hNY.out.setN HL 2
            have O1 : Only b (o + 42) 1 Y X1 := by rw [hX1]; exact Only.setCell _ _ (Nat.le_refl _) (by omega)
            have H51 : Hid (Mem X1 p5 0 (L r)) := H5Y.out.only l5Y O1 (.inl n5.symm)
            have l1 := hN1.out.lt
            have l51 := Nat.lt_of_lt_of_le l5Y O1.size
            have OW1 : Hid (Only b o 43 w X1) := OWY.out.trans (O1.mono (by omega) (by omega))
            have hc1 : X1.cell? ⟨b, o + 42, none⟩ = some (.int .i64 2) := hN1.out.n
            clear hX1 O1 hcY hfY
            refine wp_region_held_drew (S := fun w' => Only b o 42 X1 w') (by kernel_rfl) (Only.of_below _ _ (below_drew _ X1) l1) (fun hHeld => ?_)
            refine H_move 0 55 (.pointer (some ⟨b, o, none⟩)) rfl (by kernel_rfl) (by kernel_rfl) (by kernel_rfl) (fun _ _ _ h => h) rfl rfl hHeld ?_
            try simp only [Act.put, List.setIfInBounds_toArray, List.set_cons_zero, List.set_cons_succ]
            refine H_take 1 56 (.pointer (some ⟨b, o, none⟩)) rfl rfl (by kernel_rfl) (by kernel_rfl) (by kernel_rfl) (fun _ _ _ h => h) rfl ?_ hHeld ?_
            · intro _ _; go_simp
            try simp only [Act.put, List.setIfInBounds_toArray, List.set_cons_zero, List.set_cons_succ]
            refine H_take 2 57 (.pointer (some ⟨b, o, none⟩)) rfl rfl (by kernel_rfl) (by kernel_rfl) (by kernel_rfl) (fun _ _ _ h => h) rfl ?_ hHeld ?_
            · intro _ _; go_simp
            try simp only [Act.put, List.setIfInBounds_toArray, List.set_cons_zero, List.set_cons_succ]
            refine H_move 3 58 (.int .i64 1) rfl (by kernel_rfl) (by kernel_rfl) (by kernel_rfl) (fun _ _ _ h => h) rfl rfl hHeld ?_
            try simp only [Act.put, List.setIfInBounds_toArray, List.set_cons_zero, List.set_cons_succ]
            refine H_take 4 59 (.int .i64 2) rfl rfl (by kernel_rfl) (by kernel_rfl) (by kernel_rfl) (fun _ _ _ h => h) rfl ?_ hHeld ?_
            · intro _ _; go_simp; try rfl
            try simp only [Act.put, List.setIfInBounds_toArray, List.set_cons_zero, List.set_cons_succ]
            refine H_move 5 60 (.pointer (some ⟨b, o, none⟩)) rfl (by kernel_rfl) (by kernel_rfl) (by kernel_rfl) (fun _ _ _ h => h) rfl rfl hHeld ?_
            try simp only [Act.put, List.setIfInBounds_toArray, List.set_cons_zero, List.set_cons_succ]
            refine H_take 6 61 (.pointer (some ⟨b, o, none⟩)) rfl rfl (by kernel_rfl) (by kernel_rfl) (by kernel_rfl) (fun _ _ _ h => h) rfl ?_ hHeld ?_
            · intro _ _; go_simp
            try simp only [Act.put, List.setIfInBounds_toArray, List.set_cons_zero, List.set_cons_succ]
            refine H_take 7 62 (.pointer (some ⟨b, o + 42, none⟩)) rfl rfl (by kernel_rfl) (by kernel_rfl) (by kernel_rfl) (fun _ _ _ h => h) rfl ?_ hHeld ?_
            · intro _ _; go_simp
            try simp only [Act.put, List.setIfInBounds_toArray, List.set_cons_zero, List.set_cons_succ]
            refine H_take 8 63 (.int .i64 2) rfl rfl (by kernel_rfl) (by kernel_rfl) (by kernel_rfl) (fun _ _ _ h => h) rfl ?_ hHeld ?_
            · intro w' h; have hc := (h.cell (o + 42) (by omega)).trans hc1; go_simp
            try simp only [Act.put, List.setIfInBounds_toArray, List.set_cons_zero, List.set_cons_succ]
            refine H_take 9 64 (.slice (some ⟨b, o, none⟩) 0 0) rfl rfl (by kernel_rfl) (by kernel_rfl) (by kernel_rfl) (fun _ _ _ h => h) rfl ?_ hHeld ?_
            · intro _ _; go_simp
            try simp only [Act.put, List.setIfInBounds_toArray, List.set_cons_zero, List.set_cons_succ]
            refine H_move 10 65 (.pointer (some ⟨b, o, none⟩)) rfl (by kernel_rfl) (by kernel_rfl) (by kernel_rfl) (fun _ _ _ h => h) rfl rfl hHeld ?_
            try simp only [Act.put, List.setIfInBounds_toArray, List.set_cons_zero, List.set_cons_succ]
            refine H_take 11 66 (.pointer (some ⟨b, o, none⟩)) rfl rfl (by kernel_rfl) (by kernel_rfl) (by kernel_rfl) (fun _ _ _ h => h) rfl ?_ hHeld ?_
            · intro _ _; go_simp
            try simp only [Act.put, List.setIfInBounds_toArray, List.set_cons_zero, List.set_cons_succ]
            refine H_take 12 67 (.pointer (some ⟨b, o, none⟩)) rfl rfl (by kernel_rfl) (by kernel_rfl) (by kernel_rfl) (fun _ _ _ h => h) rfl ?_ hHeld ?_
            · intro _ _; go_simp
            try simp only [Act.put, List.setIfInBounds_toArray, List.set_cons_zero, List.set_cons_succ]
            refine H_move 13 68 (.int .i64 1) rfl (by kernel_rfl) (by kernel_rfl) (by kernel_rfl) (fun _ _ _ h => h) rfl rfl hHeld ?_
            try simp only [Act.put, List.setIfInBounds_toArray, List.set_cons_zero, List.set_cons_succ]
            refine H_take 14 69 (.slice (some ⟨b, o + 1, none⟩) 1 1) rfl rfl (by kernel_rfl) (by kernel_rfl) (by kernel_rfl) (fun _ _ _ h => h) rfl ?_ hHeld ?_
            · intro _ _; go_simp
            try simp only [Act.put, List.setIfInBounds_toArray, List.set_cons_zero, List.set_cons_succ]
            refine wpAnyH_ready (rs := [15]) (by kernel_rfl) (by simp) ?_
            refine (AllReadyH.cons rfl (fun K hK => ?_) AllReadyH.nil)
            rw [if_pos (by rfl)]
            simp only [List.getElem_toArray, List.getElem_cons_zero, List.getElem_cons_succ]
            with_reducible refine S_copyZ 70 49 1 b (o) 0 b (o + 1) 1 1 ?_ ?_ Try.underlying70 (by kernel_rfl) ?_
            · rfl
            · rfl
            refine hK.out _ _ hHeld (fun hHeld => ?_)
            clear hK K
            try simp only [Act.put, List.setIfInBounds_toArray, List.set_cons_zero, List.set_cons_succ]
            obtain ⟨X2, hX2⟩ : ∃ X2, X2 = X1.drew := ⟨_, rfl⟩
            rw [← hX2] at hHeld ⊢
            have hN2 : Hid (NearAt L X2 b o { s with n := 2 }) := by rw [hX2]; exact hN1.out.below (below_drew _ X1) l1
            clear hX2
            refine wpAnyH_done (by kernel_rfl) ?_ _
            have H52 : Hid (Mem X2 p5 0 (L r)) := H51.out.only l51 hHeld (.inl n5.symm)
            have l2 := hN2.out.lt
            have l52 := Nat.lt_of_lt_of_le l51 hHeld.size
            have OW2 : Hid (Only b o 43 w X2) := OW1.out.trans (hHeld.mono (by omega) (by omega))
            have hc2 : X2.cell? ⟨b, o + 42, none⟩ = some (.int .i64 2) := hN2.out.n
            clear hHeld hc1 H51 OW1 hN1
            go_wp2_with fail
            refine wp_region_held_drew (S := fun w' => Only b o 42 X2 w') (by kernel_rfl) (Only.of_below _ _ (below_drew _ X2) l2) (fun hHeld => ?_)
            refine H_move 0 71 (.pointer (some ⟨b, o, none⟩)) rfl (by kernel_rfl) (by kernel_rfl) (by kernel_rfl) (fun _ _ _ h => h) rfl rfl hHeld ?_
            try simp only [Act.put, List.setIfInBounds_toArray, List.set_cons_zero, List.set_cons_succ]
            refine H_take 1 72 (.pointer (some ⟨b, o, none⟩)) rfl rfl (by kernel_rfl) (by kernel_rfl) (by kernel_rfl) (fun _ _ _ h => h) rfl ?_ hHeld ?_
            · intro _ _; go_simp
            try simp only [Act.put, List.setIfInBounds_toArray, List.set_cons_zero, List.set_cons_succ]
            refine H_take 2 73 (.pointer (some ⟨b, o + 2, none⟩)) rfl rfl (by kernel_rfl) (by kernel_rfl) (by kernel_rfl) (fun _ _ _ h => h) rfl ?_ hHeld ?_
            · intro _ _; go_simp
            try simp only [Act.put, List.setIfInBounds_toArray, List.set_cons_zero, List.set_cons_succ]
            refine H_move 3 74 (.int .i64 1) rfl (by kernel_rfl) (by kernel_rfl) (by kernel_rfl) (fun _ _ _ h => h) rfl rfl hHeld ?_
            try simp only [Act.put, List.setIfInBounds_toArray, List.set_cons_zero, List.set_cons_succ]
            refine H_take 4 75 (.int .i64 2) rfl rfl (by kernel_rfl) (by kernel_rfl) (by kernel_rfl) (fun _ _ _ h => h) rfl ?_ hHeld ?_
            · intro _ _; go_simp; try rfl
            try simp only [Act.put, List.setIfInBounds_toArray, List.set_cons_zero, List.set_cons_succ]
            refine H_move 5 76 (.pointer (some ⟨b, o, none⟩)) rfl (by kernel_rfl) (by kernel_rfl) (by kernel_rfl) (fun _ _ _ h => h) rfl rfl hHeld ?_
            try simp only [Act.put, List.setIfInBounds_toArray, List.set_cons_zero, List.set_cons_succ]
            refine H_take 6 77 (.pointer (some ⟨b, o, none⟩)) rfl rfl (by kernel_rfl) (by kernel_rfl) (by kernel_rfl) (fun _ _ _ h => h) rfl ?_ hHeld ?_
            · intro _ _; go_simp
            try simp only [Act.put, List.setIfInBounds_toArray, List.set_cons_zero, List.set_cons_succ]
            refine H_take 7 78 (.pointer (some ⟨b, o + 42, none⟩)) rfl rfl (by kernel_rfl) (by kernel_rfl) (by kernel_rfl) (fun _ _ _ h => h) rfl ?_ hHeld ?_
            · intro _ _; go_simp
            try simp only [Act.put, List.setIfInBounds_toArray, List.set_cons_zero, List.set_cons_succ]
            refine H_take 8 79 (.int .i64 2) rfl rfl (by kernel_rfl) (by kernel_rfl) (by kernel_rfl) (fun _ _ _ h => h) rfl ?_ hHeld ?_
            · intro w' h; have hc := (h.cell (o + 42) (by omega)).trans hc2; go_simp
            try simp only [Act.put, List.setIfInBounds_toArray, List.set_cons_zero, List.set_cons_succ]
            refine H_take 9 80 (.slice (some ⟨b, o + 2, none⟩) 0 0) rfl rfl (by kernel_rfl) (by kernel_rfl) (by kernel_rfl) (fun _ _ _ h => h) rfl ?_ hHeld ?_
            · intro _ _; go_simp
            try simp only [Act.put, List.setIfInBounds_toArray, List.set_cons_zero, List.set_cons_succ]
            refine H_move 10 81 (.pointer (some ⟨b, o, none⟩)) rfl (by kernel_rfl) (by kernel_rfl) (by kernel_rfl) (fun _ _ _ h => h) rfl rfl hHeld ?_
            try simp only [Act.put, List.setIfInBounds_toArray, List.set_cons_zero, List.set_cons_succ]
            refine H_take 11 82 (.pointer (some ⟨b, o, none⟩)) rfl rfl (by kernel_rfl) (by kernel_rfl) (by kernel_rfl) (fun _ _ _ h => h) rfl ?_ hHeld ?_
            · intro _ _; go_simp
            try simp only [Act.put, List.setIfInBounds_toArray, List.set_cons_zero, List.set_cons_succ]
            refine H_take 12 83 (.pointer (some ⟨b, o + 2, none⟩)) rfl rfl (by kernel_rfl) (by kernel_rfl) (by kernel_rfl) (fun _ _ _ h => h) rfl ?_ hHeld ?_
            · intro _ _; go_simp
            try simp only [Act.put, List.setIfInBounds_toArray, List.set_cons_zero, List.set_cons_succ]
            refine H_move 13 84 (.int .i64 1) rfl (by kernel_rfl) (by kernel_rfl) (by kernel_rfl) (fun _ _ _ h => h) rfl rfl hHeld ?_
            try simp only [Act.put, List.setIfInBounds_toArray, List.set_cons_zero, List.set_cons_succ]
            refine H_take 14 85 (.slice (some ⟨b, o + 22, none⟩) 1 1) rfl rfl (by kernel_rfl) (by kernel_rfl) (by kernel_rfl) (fun _ _ _ h => h) rfl ?_ hHeld ?_
            · intro _ _; go_simp
            try simp only [Act.put, List.setIfInBounds_toArray, List.set_cons_zero, List.set_cons_succ]
            refine wpAnyH_ready (rs := [15]) (by kernel_rfl) (by simp) ?_
            refine (AllReadyH.cons rfl (fun K hK => ?_) AllReadyH.nil)
            rw [if_pos (by rfl)]
            simp only [List.getElem_toArray, List.getElem_cons_zero, List.getElem_cons_succ]
            with_reducible refine S_copyZ 86 51 20 b (o + 2) 0 b (o + 22) 1 1 ?_ ?_ Try.underlying87 (by kernel_rfl) ?_
            · rfl
            · rfl
            refine hK.out _ _ hHeld (fun hHeld => ?_)
            clear hK K
            try simp only [Act.put, List.setIfInBounds_toArray, List.set_cons_zero, List.set_cons_succ]
            obtain ⟨X3, hX3⟩ : ∃ X3, X3 = X2.drew := ⟨_, rfl⟩
            rw [← hX3] at hHeld ⊢
            have hN3 : Hid (NearAt L X3 b o { s with n := 2 }) := by rw [hX3]; exact hN2.out.below (below_drew _ X2) l2
            clear hX3
            refine wpAnyH_done (by kernel_rfl) ?_ _
            have H53 : Hid (Mem X3 p5 0 (L r)) := H52.out.only l52 hHeld (.inl n5.symm)
            have l3 := hN3.out.lt
            have l53 := Nat.lt_of_lt_of_le l52 hHeld.size
            have OW3 : Hid (Only b o 43 w X3) := OW2.out.trans (hHeld.mono (by omega) (by omega))
            clear hHeld hc2 H52 OW2 hN2
            go_wp2_with fail
            refine wp_region_held_drew (S := fun w' => Only b o 42 X3 w') (by kernel_rfl) (Only.of_below _ _ (below_drew _ X3) l3) (fun hHeld => ?_)
            refine H_move 0 87 (.pointer (some ⟨b, o, none⟩)) rfl (by kernel_rfl) (by kernel_rfl) (by kernel_rfl) (fun _ _ _ h => h) rfl rfl hHeld ?_
            try simp only [Act.put, List.setIfInBounds_toArray, List.set_cons_zero, List.set_cons_succ]
            refine H_move 1 88 (.int .i64 1) rfl (by kernel_rfl) (by kernel_rfl) (by kernel_rfl) (fun _ _ _ h => h) rfl rfl hHeld ?_
            try simp only [Act.put, List.setIfInBounds_toArray, List.set_cons_zero, List.set_cons_succ]
            refine H_move 2 89 (.pointer (some ⟨b, o, none⟩)) rfl (by kernel_rfl) (by kernel_rfl) (by kernel_rfl) (fun _ _ _ h => h) rfl rfl hHeld ?_
            try simp only [Act.put, List.setIfInBounds_toArray, List.set_cons_zero, List.set_cons_succ]
            refine H_move 3 90 (.int .i64 1) rfl (by kernel_rfl) (by kernel_rfl) (by kernel_rfl) (fun _ _ _ h => h) rfl rfl hHeld ?_
            try simp only [Act.put, List.setIfInBounds_toArray, List.set_cons_zero, List.set_cons_succ]
            refine H_move 4 91 (.pointer (some q)) rfl (by kernel_rfl) (by kernel_rfl) (by kernel_rfl) (fun _ _ _ h => h) rfl rfl hHeld ?_
            try simp only [Act.put, List.setIfInBounds_toArray, List.set_cons_zero, List.set_cons_succ]
            refine H_load 51 5 92 ta51 (L r) (L_len HL _) (p5) (0) rfl (by kernel_rfl) (by kernel_rfl) (by kernel_rfl) (fun _ _ _ h => h) rfl rfl (fun w' h => H53.out.only l53 h (.inl n5.symm)) hHeld ?_
            try simp only [Act.put, List.setIfInBounds_toArray, List.set_cons_zero, List.set_cons_succ]
            refine H_take 6 93 (.pointer (some ⟨b, o, none⟩)) rfl rfl (by kernel_rfl) (by kernel_rfl) (by kernel_rfl) (fun _ _ _ h => h) rfl ?_ hHeld ?_
            · intro _ _; go_simp
            try simp only [Act.put, List.setIfInBounds_toArray, List.set_cons_zero, List.set_cons_succ]
            refine H_take 7 94 (.pointer (some ⟨b, o, none⟩)) rfl rfl (by kernel_rfl) (by kernel_rfl) (by kernel_rfl) (fun _ _ _ h => h) rfl ?_ hHeld ?_
            · intro _ _; go_simp
            try simp only [Act.put, List.setIfInBounds_toArray, List.set_cons_zero, List.set_cons_succ]
            refine H_take 8 95 (.pointer (some ⟨b, o + 1, none⟩)) rfl rfl (by kernel_rfl) (by kernel_rfl) (by kernel_rfl) (fun _ _ _ h => h) rfl ?_ hHeld ?_
            · intro _ _; go_simp
            try simp only [Act.put, List.setIfInBounds_toArray, List.set_cons_zero, List.set_cons_succ]
            refine H_take 10 96 (.pointer (some ⟨b, o, none⟩)) rfl rfl (by kernel_rfl) (by kernel_rfl) (by kernel_rfl) (fun _ _ _ h => h) rfl ?_ hHeld ?_
            · intro _ _; go_simp
            try simp only [Act.put, List.setIfInBounds_toArray, List.set_cons_zero, List.set_cons_succ]
            refine H_take 11 97 (.pointer (some ⟨b, o + 2, none⟩)) rfl rfl (by kernel_rfl) (by kernel_rfl) (by kernel_rfl) (fun _ _ _ h => h) rfl ?_ hHeld ?_
            · intro _ _; go_simp
            try simp only [Act.put, List.setIfInBounds_toArray, List.set_cons_zero, List.set_cons_succ]
            refine wpAnyH_ready (rs := [9]) (by kernel_rfl) (by simp) ?_
            refine (AllReadyH.cons rfl (fun K hK => ?_) AllReadyH.nil)
            rw [if_pos (by rfl)]
            simp only [List.getElem_toArray, List.getElem_cons_zero, List.getElem_cons_succ]
            have hD8 := hN3.out.below (below_drew _ X3) l3
            with_reducible refine S_cell 49 95 (.pointer (some q)) (s.p 1) Try.sizeOf49 (cells_ptr q) (one_ptr q) b (o + 1) ?_ ?_ ?_ ?_
            · rfl
            · rfl
            · intro i v hv
              match i, hv with
              | 0, hv => simp at hv; subst hv; exact ⟨hD8.p 1 (by omega), hD8.fr _⟩
              | i + 1, hv => simp at hv
            intro X4 M4 O4
            have hN4 : Hid (NearAt L X4 b o _) := hD8.setP HL 1 (by omega) (.pointer (some q)) (M4 0 _ rfl).1 O4
            refine hK.out _ _ (hHeld.trans (O4.mono (by omega) (by omega))) (fun hHeld => ?_)
            clear hK K
            try simp only [Act.put]
            refine H_take 12 98 (.pointer (some ⟨b, o + 22, none⟩)) rfl rfl (by kernel_rfl) (by kernel_rfl) (by kernel_rfl) (fun _ _ _ h => h) rfl ?_ hHeld ?_
            · intro _ _; go_simp
            try simp only [Act.put, List.setIfInBounds_toArray, List.set_cons_zero, List.set_cons_succ]
            refine wpAnyH_ready (rs := [13]) (by kernel_rfl) (by simp) ?_
            refine (AllReadyH.cons rfl (fun K hK => ?_) AllReadyH.nil)
            rw [if_pos (by rfl)]
            simp only [List.getElem_toArray, List.getElem_cons_zero, List.getElem_cons_succ]
            with_reducible refine S_store 51 98 92 ta51 (L r) (L (s.r 1)) (L_len HL _) (L_len HL _) (L_one HL _) b (o + 22) ?_ ?_ ?_ ?_
            · rfl
            · rfl
            · exact hN4.out.r 1 (by omega)
            intro X5 M5 O5
            have hN5f := hN4.out.setR HL 1 (by omega) r M5 O5
            refine hK.out _ _ (hHeld.trans (O5.mono (by omega) (by omega))) (fun hHeld => ?_)
            clear hK K
            try simp only [Act.put]
            refine wpAnyH_done (by kernel_rfl) ?_ _
            go_wp2_with fail
            go_end0
            refine ⟨rfl, insAt s 1 (.pointer (some q)) r, ⟨1, by rw [← HNN.out]; omega, HJ.out, ?_, .inr ⟨by omega, ?_, rfl⟩⟩, ?_, OW3.out.trans (hHeld.mono (by omega) (by omega))⟩
            · exact HEx.out.1
            · exact HEx.out.2
            · have hns := HNN.out
              refine hN5f.congr (fun j hj => ?_) (fun j hj => ?_) ?_
              · rcases (by omega : j = 0 ∨ j = 1) with rfl | rfl <;> simp [upd, insAt, ← hns]
              · rcases (by omega : j = 0 ∨ j = 1) with rfl | rfl <;> simp [upd, insAt, ← hns]
              · simp [insAt, ← hns]
    · have hkn' : k = n := by omega
      subst hkn'
      go_wp2_with fail
      refine wp_region_held_drew (S := fun w' => Below wr.heap.size wr w') (by kernel_rfl) (below_drew _ wr) (fun hHeld => ?_)
      refine H_move 0 7 (.int .i64 k) rfl (by kernel_rfl) (by kernel_rfl) (by kernel_rfl) (fun _ _ _ h => h) rfl rfl hHeld ?_
      try simp only [Act.put, List.setIfInBounds_toArray, List.set_cons_zero, List.set_cons_succ]
      refine H_move 1 8 (.pointer (some ⟨b, o, none⟩)) rfl (by kernel_rfl) (by kernel_rfl) (by kernel_rfl) (fun _ _ _ h => h) rfl rfl hHeld ?_
      try simp only [Act.put, List.setIfInBounds_toArray, List.set_cons_zero, List.set_cons_succ]
      refine H_take 2 9 (.pointer (some ⟨b, o, none⟩)) rfl rfl (by kernel_rfl) (by kernel_rfl) (by kernel_rfl) (fun _ _ _ h => h) rfl ?_ hHeld ?_
      · intro _ _; go_simp
      try simp only [Act.put, List.setIfInBounds_toArray, List.set_cons_zero, List.set_cons_succ]
      refine H_take 3 10 (.pointer (some ⟨b, o + 42, none⟩)) rfl rfl (by kernel_rfl) (by kernel_rfl) (by kernel_rfl) (fun _ _ _ h => h) rfl ?_ hHeld ?_
      · intro _ _; go_simp
      try simp only [Act.put, List.setIfInBounds_toArray, List.set_cons_zero, List.set_cons_succ]
      refine H_take 4 11 (.int .i64 k) rfl rfl (by kernel_rfl) (by kernel_rfl) (by kernel_rfl) (fun _ _ _ h => h) rfl ?_ hHeld ?_
      · intro w' h; have hc := (h.cell (p := ⟨b, o + 42, none⟩) lr).trans hcn; go_simp
      try simp only [Act.put, List.setIfInBounds_toArray, List.set_cons_zero, List.set_cons_succ]
      refine H_take 5 12 (.bool false) rfl rfl (by kernel_rfl) (by kernel_rfl) (by kernel_rfl) (fun _ _ _ h => h) rfl ?_ hHeld ?_
      · intro _ _; go_simp
      try simp only [Act.put, List.setIfInBounds_toArray, List.set_cons_zero, List.set_cons_succ]
      refine H_move 6 13 (.bool false) rfl (by kernel_rfl) (by kernel_rfl) (by kernel_rfl) (fun _ _ _ h => h) rfl rfl hHeld ?_
      try simp only [Act.put, List.setIfInBounds_toArray, List.set_cons_zero, List.set_cons_succ]
      refine H_skip 7 14 rfl rfl (by kernel_rfl) (by kernel_rfl) (by kernel_rfl) (fun _ _ _ h => h) rfl hHeld ?_
      try simp only [Act.put, List.setIfInBounds_toArray, List.set_cons_zero, List.set_cons_succ]
      refine H_skip 8 15 rfl rfl (by kernel_rfl) (by kernel_rfl) (by kernel_rfl) (fun _ _ _ h => h) rfl hHeld ?_
      try simp only [Act.put, List.setIfInBounds_toArray, List.set_cons_zero, List.set_cons_succ]
      refine H_skip 9 16 rfl rfl (by kernel_rfl) (by kernel_rfl) (by kernel_rfl) (fun _ _ _ h => h) rfl hHeld ?_
      try simp only [Act.put, List.setIfInBounds_toArray, List.set_cons_zero, List.set_cons_succ]
      refine H_skip 10 17 rfl rfl (by kernel_rfl) (by kernel_rfl) (by kernel_rfl) (fun _ _ _ h => h) rfl hHeld ?_
      try simp only [Act.put, List.setIfInBounds_toArray, List.set_cons_zero, List.set_cons_succ]
      refine H_skip 11 18 rfl rfl (by kernel_rfl) (by kernel_rfl) (by kernel_rfl) (fun _ _ _ h => h) rfl hHeld ?_
      try simp only [Act.put, List.setIfInBounds_toArray, List.set_cons_zero, List.set_cons_succ]
      refine H_skip 12 19 rfl rfl (by kernel_rfl) (by kernel_rfl) (by kernel_rfl) (fun _ _ _ h => h) rfl hHeld ?_
      try simp only [Act.put, List.setIfInBounds_toArray, List.set_cons_zero, List.set_cons_succ]
      refine H_skip 13 20 rfl rfl (by kernel_rfl) (by kernel_rfl) (by kernel_rfl) (fun _ _ _ h => h) rfl hHeld ?_
      try simp only [Act.put, List.setIfInBounds_toArray, List.set_cons_zero, List.set_cons_succ]
      refine H_skip 14 21 rfl rfl (by kernel_rfl) (by kernel_rfl) (by kernel_rfl) (fun _ _ _ h => h) rfl hHeld ?_
      try simp only [Act.put, List.setIfInBounds_toArray, List.set_cons_zero, List.set_cons_succ]
      refine H_skip 15 22 rfl rfl (by kernel_rfl) (by kernel_rfl) (by kernel_rfl) (fun _ _ _ h => h) rfl hHeld ?_
      try simp only [Act.put, List.setIfInBounds_toArray, List.set_cons_zero, List.set_cons_succ]
      refine H_take 16 23 (.bool false) rfl rfl (by kernel_rfl) (by kernel_rfl) (by kernel_rfl) (fun _ _ _ h => h) rfl ?_ hHeld ?_
      · intro _ _; go_simp
      try simp only [Act.put, List.setIfInBounds_toArray, List.set_cons_zero, List.set_cons_succ]
      refine wpAnyH_done (by kernel_rfl) ?_ _
      go_wp2_with fail
      obtain ⟨X, hX⟩ : ∃ X, X = wr.drew := ⟨_, rfl⟩
      rw [← hX] at hHeld ⊢
      clear hX
      have HBX : Hid (Below w.heap.size w X) := bl (bl BW.out HB.out) hHeld
      have hNX : Hid (NearAt L X b o s) := hNr.out.below hHeld lr
      have H5X : Hid (Mem X p5 0 (L r)) := H5r.out.below hHeld lr5
      have lX := hNX.out.lt
      have l5X := Nat.lt_of_lt_of_le lr5 hHeld.size
      clear hHeld
      rcases (by omega : k = 0 ∨ k = 1 ∨ k = 2) with hk0 | hk0 | hk0
      all_goals subst hk0
      · have hcX : X.cell? ⟨b, o + 42, none⟩ = some (.int .i64 0) := by have h := hNX.out.n; rw [← HNN.out] at h; exact h
        have HEx : Hid ((0 = s.n ∨ V r ≤ V (s.r 0)) ∧ ¬ (0 < s.n ∧ V (s.r 0) = V r)) := ⟨.inl HNN.out, fun h => by have := HNN.out; omega⟩
        refine wp_region_held_drew (S := fun w' => Below X.heap.size X w') (by kernel_rfl) (below_drew _ X) (fun hHeld => ?_)
        refine H_move 0 26 (.int .i64 0) rfl (by kernel_rfl) (by kernel_rfl) (by kernel_rfl) (fun _ _ _ h => h) rfl rfl hHeld ?_
        try simp only [Act.put, List.setIfInBounds_toArray, List.set_cons_zero, List.set_cons_succ]
        refine H_take 1 27 (.bool false) rfl rfl (by kernel_rfl) (by kernel_rfl) (by kernel_rfl) (fun _ _ _ h => h) rfl ?_ hHeld ?_
        · intro _ _; go_simp
        try simp only [Act.put, List.setIfInBounds_toArray, List.set_cons_zero, List.set_cons_succ]
        refine H_move 2 28 (.bool false) rfl (by kernel_rfl) (by kernel_rfl) (by kernel_rfl) (fun _ _ _ h => h) rfl rfl hHeld ?_
        try simp only [Act.put, List.setIfInBounds_toArray, List.set_cons_zero, List.set_cons_succ]
        refine H_move 3 29 (.int .i64 0) rfl (by kernel_rfl) (by kernel_rfl) (by kernel_rfl) (fun _ _ _ h => h) rfl rfl hHeld ?_
        try simp only [Act.put, List.setIfInBounds_toArray, List.set_cons_zero, List.set_cons_succ]
        refine H_move 4 30 (.pointer (some ⟨b, o, none⟩)) rfl (by kernel_rfl) (by kernel_rfl) (by kernel_rfl) (fun _ _ _ h => h) rfl rfl hHeld ?_
        try simp only [Act.put, List.setIfInBounds_toArray, List.set_cons_zero, List.set_cons_succ]
        refine H_take 5 31 (.pointer (some ⟨b, o, none⟩)) rfl rfl (by kernel_rfl) (by kernel_rfl) (by kernel_rfl) (fun _ _ _ h => h) rfl ?_ hHeld ?_
        · intro _ _; go_simp
        try simp only [Act.put, List.setIfInBounds_toArray, List.set_cons_zero, List.set_cons_succ]
        refine H_take 6 32 (.pointer (some ⟨b, o + 42, none⟩)) rfl rfl (by kernel_rfl) (by kernel_rfl) (by kernel_rfl) (fun _ _ _ h => h) rfl ?_ hHeld ?_
        · intro _ _; go_simp
        try simp only [Act.put, List.setIfInBounds_toArray, List.set_cons_zero, List.set_cons_succ]
        refine H_take 7 33 (.int .i64 0) rfl rfl (by kernel_rfl) (by kernel_rfl) (by kernel_rfl) (fun _ _ _ h => h) rfl ?_ hHeld ?_
        · intro w' h; have hc := (h.cell (p := ⟨b, o + 42, none⟩) lX).trans hcX; go_simp
        try simp only [Act.put, List.setIfInBounds_toArray, List.set_cons_zero, List.set_cons_succ]
        refine H_take 8 34 (.bool false) rfl rfl (by kernel_rfl) (by kernel_rfl) (by kernel_rfl) (fun _ _ _ h => h) rfl ?_ hHeld ?_
        · intro _ _; go_simp
        try simp only [Act.put, List.setIfInBounds_toArray, List.set_cons_zero, List.set_cons_succ]
        refine H_move 9 35 (.bool false) rfl (by kernel_rfl) (by kernel_rfl) (by kernel_rfl) (fun _ _ _ h => h) rfl rfl hHeld ?_
        try simp only [Act.put, List.setIfInBounds_toArray, List.set_cons_zero, List.set_cons_succ]
        refine H_skip 10 36 rfl rfl (by kernel_rfl) (by kernel_rfl) (by kernel_rfl) (fun _ _ _ h => h) rfl hHeld ?_
        try simp only [Act.put, List.setIfInBounds_toArray, List.set_cons_zero, List.set_cons_succ]
        refine H_skip 11 37 rfl rfl (by kernel_rfl) (by kernel_rfl) (by kernel_rfl) (fun _ _ _ h => h) rfl hHeld ?_
        try simp only [Act.put, List.setIfInBounds_toArray, List.set_cons_zero, List.set_cons_succ]
        refine H_skip 12 38 rfl rfl (by kernel_rfl) (by kernel_rfl) (by kernel_rfl) (fun _ _ _ h => h) rfl hHeld ?_
        try simp only [Act.put, List.setIfInBounds_toArray, List.set_cons_zero, List.set_cons_succ]
        refine H_skip 13 39 rfl rfl (by kernel_rfl) (by kernel_rfl) (by kernel_rfl) (fun _ _ _ h => h) rfl hHeld ?_
        try simp only [Act.put, List.setIfInBounds_toArray, List.set_cons_zero, List.set_cons_succ]
        refine H_skip 14 40 rfl rfl (by kernel_rfl) (by kernel_rfl) (by kernel_rfl) (fun _ _ _ h => h) rfl hHeld ?_
        try simp only [Act.put, List.setIfInBounds_toArray, List.set_cons_zero, List.set_cons_succ]
        refine H_skip 15 41 rfl rfl (by kernel_rfl) (by kernel_rfl) (by kernel_rfl) (fun _ _ _ h => h) rfl hHeld ?_
        try simp only [Act.put, List.setIfInBounds_toArray, List.set_cons_zero, List.set_cons_succ]
        refine H_skip 16 42 rfl rfl (by kernel_rfl) (by kernel_rfl) (by kernel_rfl) (fun _ _ _ h => h) rfl hHeld ?_
        try simp only [Act.put, List.setIfInBounds_toArray, List.set_cons_zero, List.set_cons_succ]
        refine H_skip 17 43 rfl rfl (by kernel_rfl) (by kernel_rfl) (by kernel_rfl) (fun _ _ _ h => h) rfl hHeld ?_
        try simp only [Act.put, List.setIfInBounds_toArray, List.set_cons_zero, List.set_cons_succ]
        refine H_take 18 44 (.bool false) rfl rfl (by kernel_rfl) (by kernel_rfl) (by kernel_rfl) (fun _ _ _ h => h) rfl ?_ hHeld ?_
        · intro _ _; go_simp
        try simp only [Act.put, List.setIfInBounds_toArray, List.set_cons_zero, List.set_cons_succ]
        refine H_take 19 45 (.bool false) rfl rfl (by kernel_rfl) (by kernel_rfl) (by kernel_rfl) (fun _ _ _ h => h) rfl ?_ hHeld ?_
        · intro _ _; go_simp
        try simp only [Act.put, List.setIfInBounds_toArray, List.set_cons_zero, List.set_cons_succ]
        refine wpAnyH_done (by kernel_rfl) ?_ _
        obtain ⟨Y, hY⟩ : ∃ Y, Y = X.drew := ⟨_, rfl⟩
        rw [← hY] at hHeld ⊢
        clear hY
        have hNY : Hid (NearAt L Y b o s) := hNX.out.below hHeld lX
        have H5Y : Hid (Mem Y p5 0 (L r)) := H5X.out.below hHeld l5X
        have l5Y := Nat.lt_of_lt_of_le l5X hHeld.size
        have OWY : Hid (Only b o 43 w Y) := Only.of_below _ _ (bl HBX.out hHeld) lb
        clear hHeld hcX
        have hcY := (hNY.out).n
        have hfY := (hNY.out).fr (o + 42)
        rw [← HNN.out] at hcY
        go_wp2_with fail
        try simp only [show min (1 : Int) 2 = 1 from by decide]
        obtain ⟨X1, hX1⟩ : ∃ X1, X1 = Y.setCell ⟨b, o + 42, none⟩ (.int .i64 1) := ⟨_, rfl⟩
        rw [← hX1]
        have hN1 : Hid (NearAt L X1 b o { s with n := 1 }) := by rw [hX1]; exact hNY.out.setN HL 1
        have O1 : Only b (o + 42) 1 Y X1 := by rw [hX1]; exact Only.setCell _ _ (Nat.le_refl _) (by omega)
        have H51 : Hid (Mem X1 p5 0 (L r)) := H5Y.out.only l5Y O1 (.inl n5.symm)
        have l1 := hN1.out.lt
        have l51 := Nat.lt_of_lt_of_le l5Y O1.size
        have OW1 : Hid (Only b o 43 w X1) := OWY.out.trans (O1.mono (by omega) (by omega))
        have hc1 : X1.cell? ⟨b, o + 42, none⟩ = some (.int .i64 1) := hN1.out.n
        clear hX1 O1 hcY hfY
        refine wp_region_held_drew (S := fun w' => Only b o 42 X1 w') (by kernel_rfl) (Only.of_below _ _ (below_drew _ X1) l1) (fun hHeld => ?_)
        refine H_move 0 55 (.pointer (some ⟨b, o, none⟩)) rfl (by kernel_rfl) (by kernel_rfl) (by kernel_rfl) (fun _ _ _ h => h) rfl rfl hHeld ?_
        try simp only [Act.put, List.setIfInBounds_toArray, List.set_cons_zero, List.set_cons_succ]
        refine H_take 1 56 (.pointer (some ⟨b, o, none⟩)) rfl rfl (by kernel_rfl) (by kernel_rfl) (by kernel_rfl) (fun _ _ _ h => h) rfl ?_ hHeld ?_
        · intro _ _; go_simp
        try simp only [Act.put, List.setIfInBounds_toArray, List.set_cons_zero, List.set_cons_succ]
        refine H_take 2 57 (.pointer (some ⟨b, o, none⟩)) rfl rfl (by kernel_rfl) (by kernel_rfl) (by kernel_rfl) (fun _ _ _ h => h) rfl ?_ hHeld ?_
        · intro _ _; go_simp
        try simp only [Act.put, List.setIfInBounds_toArray, List.set_cons_zero, List.set_cons_succ]
        refine H_move 3 58 (.int .i64 0) rfl (by kernel_rfl) (by kernel_rfl) (by kernel_rfl) (fun _ _ _ h => h) rfl rfl hHeld ?_
        try simp only [Act.put, List.setIfInBounds_toArray, List.set_cons_zero, List.set_cons_succ]
        refine H_take 4 59 (.int .i64 1) rfl rfl (by kernel_rfl) (by kernel_rfl) (by kernel_rfl) (fun _ _ _ h => h) rfl ?_ hHeld ?_
        · intro _ _; go_simp; try rfl
        try simp only [Act.put, List.setIfInBounds_toArray, List.set_cons_zero, List.set_cons_succ]
        refine H_move 5 60 (.pointer (some ⟨b, o, none⟩)) rfl (by kernel_rfl) (by kernel_rfl) (by kernel_rfl) (fun _ _ _ h => h) rfl rfl hHeld ?_
        try simp only [Act.put, List.setIfInBounds_toArray, List.set_cons_zero, List.set_cons_succ]
        refine H_take 6 61 (.pointer (some ⟨b, o, none⟩)) rfl rfl (by kernel_rfl) (by kernel_rfl) (by kernel_rfl) (fun _ _ _ h => h) rfl ?_ hHeld ?_
        · intro _ _; go_simp
        try simp only [Act.put, List.setIfInBounds_toArray, List.set_cons_zero, List.set_cons_succ]
        refine H_take 7 62 (.pointer (some ⟨b, o + 42, none⟩)) rfl rfl (by kernel_rfl) (by kernel_rfl) (by kernel_rfl) (fun _ _ _ h => h) rfl ?_ hHeld ?_
        · intro _ _; go_simp
        try simp only [Act.put, List.setIfInBounds_toArray, List.set_cons_zero, List.set_cons_succ]
        refine H_take 8 63 (.int .i64 1) rfl rfl (by kernel_rfl) (by kernel_rfl) (by kernel_rfl) (fun _ _ _ h => h) rfl ?_ hHeld ?_
        · intro w' h; have hc := (h.cell (o + 42) (by omega)).trans hc1; go_simp
        try simp only [Act.put, List.setIfInBounds_toArray, List.set_cons_zero, List.set_cons_succ]
        refine H_take 9 64 (.slice (some ⟨b, o + 1, none⟩) 0 1) rfl rfl (by kernel_rfl) (by kernel_rfl) (by kernel_rfl) (fun _ _ _ h => h) rfl ?_ hHeld ?_
        · intro _ _; go_simp
        try simp only [Act.put, List.setIfInBounds_toArray, List.set_cons_zero, List.set_cons_succ]
        refine H_move 10 65 (.pointer (some ⟨b, o, none⟩)) rfl (by kernel_rfl) (by kernel_rfl) (by kernel_rfl) (fun _ _ _ h => h) rfl rfl hHeld ?_
        try simp only [Act.put, List.setIfInBounds_toArray, List.set_cons_zero, List.set_cons_succ]
        refine H_take 11 66 (.pointer (some ⟨b, o, none⟩)) rfl rfl (by kernel_rfl) (by kernel_rfl) (by kernel_rfl) (fun _ _ _ h => h) rfl ?_ hHeld ?_
        · intro _ _; go_simp
        try simp only [Act.put, List.setIfInBounds_toArray, List.set_cons_zero, List.set_cons_succ]
        refine H_take 12 67 (.pointer (some ⟨b, o, none⟩)) rfl rfl (by kernel_rfl) (by kernel_rfl) (by kernel_rfl) (fun _ _ _ h => h) rfl ?_ hHeld ?_
        · intro _ _; go_simp
        try simp only [Act.put, List.setIfInBounds_toArray, List.set_cons_zero, List.set_cons_succ]
        refine H_move 13 68 (.int .i64 0) rfl (by kernel_rfl) (by kernel_rfl) (by kernel_rfl) (fun _ _ _ h => h) rfl rfl hHeld ?_
        try simp only [Act.put, List.setIfInBounds_toArray, List.set_cons_zero, List.set_cons_succ]
        refine H_take 14 69 (.slice (some ⟨b, o, none⟩) 2 2) rfl rfl (by kernel_rfl) (by kernel_rfl) (by kernel_rfl) (fun _ _ _ h => h) rfl ?_ hHeld ?_
        · intro _ _; go_simp
        try simp only [Act.put, List.setIfInBounds_toArray, List.set_cons_zero, List.set_cons_succ]
        refine wpAnyH_ready (rs := [15]) (by kernel_rfl) (by simp) ?_
        refine (AllReadyH.cons rfl (fun K hK => ?_) AllReadyH.nil)
        rw [if_pos (by rfl)]
        simp only [List.getElem_toArray, List.getElem_cons_zero, List.getElem_cons_succ]
        with_reducible refine S_copyZ 70 49 1 b (o + 1) 1 b (o) 2 2 ?_ ?_ Try.underlying70 (by kernel_rfl) ?_
        · rfl
        · rfl
        refine hK.out _ _ hHeld (fun hHeld => ?_)
        clear hK K
        try simp only [Act.put, List.setIfInBounds_toArray, List.set_cons_zero, List.set_cons_succ]
        obtain ⟨X2, hX2⟩ : ∃ X2, X2 = X1.drew := ⟨_, rfl⟩
        rw [← hX2] at hHeld ⊢
        have hN2 : Hid (NearAt L X2 b o { s with n := 1 }) := by rw [hX2]; exact hN1.out.below (below_drew _ X1) l1
        clear hX2
        refine wpAnyH_done (by kernel_rfl) ?_ _
        have H52 : Hid (Mem X2 p5 0 (L r)) := H51.out.only l51 hHeld (.inl n5.symm)
        have l2 := hN2.out.lt
        have l52 := Nat.lt_of_lt_of_le l51 hHeld.size
        have OW2 : Hid (Only b o 43 w X2) := OW1.out.trans (hHeld.mono (by omega) (by omega))
        have hc2 : X2.cell? ⟨b, o + 42, none⟩ = some (.int .i64 1) := hN2.out.n
        clear hHeld hc1 H51 OW1 hN1
        go_wp2_with fail
        refine wp_region_held_drew (S := fun w' => Only b o 42 X2 w') (by kernel_rfl) (Only.of_below _ _ (below_drew _ X2) l2) (fun hHeld => ?_)
        refine H_move 0 71 (.pointer (some ⟨b, o, none⟩)) rfl (by kernel_rfl) (by kernel_rfl) (by kernel_rfl) (fun _ _ _ h => h) rfl rfl hHeld ?_
        try simp only [Act.put, List.setIfInBounds_toArray, List.set_cons_zero, List.set_cons_succ]
        refine H_take 1 72 (.pointer (some ⟨b, o, none⟩)) rfl rfl (by kernel_rfl) (by kernel_rfl) (by kernel_rfl) (fun _ _ _ h => h) rfl ?_ hHeld ?_
        · intro _ _; go_simp
        try simp only [Act.put, List.setIfInBounds_toArray, List.set_cons_zero, List.set_cons_succ]
        refine H_take 2 73 (.pointer (some ⟨b, o + 2, none⟩)) rfl rfl (by kernel_rfl) (by kernel_rfl) (by kernel_rfl) (fun _ _ _ h => h) rfl ?_ hHeld ?_
        · intro _ _; go_simp
        try simp only [Act.put, List.setIfInBounds_toArray, List.set_cons_zero, List.set_cons_succ]
        refine H_move 3 74 (.int .i64 0) rfl (by kernel_rfl) (by kernel_rfl) (by kernel_rfl) (fun _ _ _ h => h) rfl rfl hHeld ?_
        try simp only [Act.put, List.setIfInBounds_toArray, List.set_cons_zero, List.set_cons_succ]
        refine H_take 4 75 (.int .i64 1) rfl rfl (by kernel_rfl) (by kernel_rfl) (by kernel_rfl) (fun _ _ _ h => h) rfl ?_ hHeld ?_
        · intro _ _; go_simp; try rfl
        try simp only [Act.put, List.setIfInBounds_toArray, List.set_cons_zero, List.set_cons_succ]
        refine H_move 5 76 (.pointer (some ⟨b, o, none⟩)) rfl (by kernel_rfl) (by kernel_rfl) (by kernel_rfl) (fun _ _ _ h => h) rfl rfl hHeld ?_
        try simp only [Act.put, List.setIfInBounds_toArray, List.set_cons_zero, List.set_cons_succ]
        refine H_take 6 77 (.pointer (some ⟨b, o, none⟩)) rfl rfl (by kernel_rfl) (by kernel_rfl) (by kernel_rfl) (fun _ _ _ h => h) rfl ?_ hHeld ?_
        · intro _ _; go_simp
        try simp only [Act.put, List.setIfInBounds_toArray, List.set_cons_zero, List.set_cons_succ]
        refine H_take 7 78 (.pointer (some ⟨b, o + 42, none⟩)) rfl rfl (by kernel_rfl) (by kernel_rfl) (by kernel_rfl) (fun _ _ _ h => h) rfl ?_ hHeld ?_
        · intro _ _; go_simp
        try simp only [Act.put, List.setIfInBounds_toArray, List.set_cons_zero, List.set_cons_succ]
        refine H_take 8 79 (.int .i64 1) rfl rfl (by kernel_rfl) (by kernel_rfl) (by kernel_rfl) (fun _ _ _ h => h) rfl ?_ hHeld ?_
        · intro w' h; have hc := (h.cell (o + 42) (by omega)).trans hc2; go_simp
        try simp only [Act.put, List.setIfInBounds_toArray, List.set_cons_zero, List.set_cons_succ]
        refine H_take 9 80 (.slice (some ⟨b, o + 22, none⟩) 0 1) rfl rfl (by kernel_rfl) (by kernel_rfl) (by kernel_rfl) (fun _ _ _ h => h) rfl ?_ hHeld ?_
        · intro _ _; go_simp
        try simp only [Act.put, List.setIfInBounds_toArray, List.set_cons_zero, List.set_cons_succ]
        refine H_move 10 81 (.pointer (some ⟨b, o, none⟩)) rfl (by kernel_rfl) (by kernel_rfl) (by kernel_rfl) (fun _ _ _ h => h) rfl rfl hHeld ?_
        try simp only [Act.put, List.setIfInBounds_toArray, List.set_cons_zero, List.set_cons_succ]
        refine H_take 11 82 (.pointer (some ⟨b, o, none⟩)) rfl rfl (by kernel_rfl) (by kernel_rfl) (by kernel_rfl) (fun _ _ _ h => h) rfl ?_ hHeld ?_
        · intro _ _; go_simp
        try simp only [Act.put, List.setIfInBounds_toArray, List.set_cons_zero, List.set_cons_succ]
        refine H_take 12 83 (.pointer (some ⟨b, o + 2, none⟩)) rfl rfl (by kernel_rfl) (by kernel_rfl) (by kernel_rfl) (fun _ _ _ h => h) rfl ?_ hHeld ?_
        · intro _ _; go_simp
        try simp only [Act.put, List.setIfInBounds_toArray, List.set_cons_zero, List.set_cons_succ]
        refine H_move 13 84 (.int .i64 0) rfl (by kernel_rfl) (by kernel_rfl) (by kernel_rfl) (fun _ _ _ h => h) rfl rfl hHeld ?_
        try simp only [Act.put, List.setIfInBounds_toArray, List.set_cons_zero, List.set_cons_succ]
        refine H_take 14 85 (.slice (some ⟨b, o + 2, none⟩) 2 2) rfl rfl (by kernel_rfl) (by kernel_rfl) (by kernel_rfl) (fun _ _ _ h => h) rfl ?_ hHeld ?_
        · intro _ _; go_simp
        try simp only [Act.put, List.setIfInBounds_toArray, List.set_cons_zero, List.set_cons_succ]
        refine wpAnyH_ready (rs := [15]) (by kernel_rfl) (by simp) ?_
        refine (AllReadyH.cons rfl (fun K hK => ?_) AllReadyH.nil)
        rw [if_pos (by rfl)]
        simp only [List.getElem_toArray, List.getElem_cons_zero, List.getElem_cons_succ]
        with_reducible refine S_copyZ 86 51 20 b (o + 22) 1 b (o + 2) 2 2 ?_ ?_ Try.underlying87 (by kernel_rfl) ?_
        · rfl
        · rfl
        refine hK.out _ _ hHeld (fun hHeld => ?_)
        clear hK K
        try simp only [Act.put, List.setIfInBounds_toArray, List.set_cons_zero, List.set_cons_succ]
        obtain ⟨X3, hX3⟩ : ∃ X3, X3 = X2.drew := ⟨_, rfl⟩
        rw [← hX3] at hHeld ⊢
        have hN3 : Hid (NearAt L X3 b o { s with n := 1 }) := by rw [hX3]; exact hN2.out.below (below_drew _ X2) l2
        clear hX3
        refine wpAnyH_done (by kernel_rfl) ?_ _
        have H53 : Hid (Mem X3 p5 0 (L r)) := H52.out.only l52 hHeld (.inl n5.symm)
        have l3 := hN3.out.lt
        have l53 := Nat.lt_of_lt_of_le l52 hHeld.size
        have OW3 : Hid (Only b o 43 w X3) := OW2.out.trans (hHeld.mono (by omega) (by omega))
        clear hHeld hc2 H52 OW2 hN2
        go_wp2_with fail
        refine wp_region_held_drew (S := fun w' => Only b o 42 X3 w') (by kernel_rfl) (Only.of_below _ _ (below_drew _ X3) l3) (fun hHeld => ?_)
        refine H_move 0 87 (.pointer (some ⟨b, o, none⟩)) rfl (by kernel_rfl) (by kernel_rfl) (by kernel_rfl) (fun _ _ _ h => h) rfl rfl hHeld ?_
        try simp only [Act.put, List.setIfInBounds_toArray, List.set_cons_zero, List.set_cons_succ]
        refine H_move 1 88 (.int .i64 0) rfl (by kernel_rfl) (by kernel_rfl) (by kernel_rfl) (fun _ _ _ h => h) rfl rfl hHeld ?_
        try simp only [Act.put, List.setIfInBounds_toArray, List.set_cons_zero, List.set_cons_succ]
        refine H_move 2 89 (.pointer (some ⟨b, o, none⟩)) rfl (by kernel_rfl) (by kernel_rfl) (by kernel_rfl) (fun _ _ _ h => h) rfl rfl hHeld ?_
        try simp only [Act.put, List.setIfInBounds_toArray, List.set_cons_zero, List.set_cons_succ]
        refine H_move 3 90 (.int .i64 0) rfl (by kernel_rfl) (by kernel_rfl) (by kernel_rfl) (fun _ _ _ h => h) rfl rfl hHeld ?_
        try simp only [Act.put, List.setIfInBounds_toArray, List.set_cons_zero, List.set_cons_succ]
        refine H_move 4 91 (.pointer (some q)) rfl (by kernel_rfl) (by kernel_rfl) (by kernel_rfl) (fun _ _ _ h => h) rfl rfl hHeld ?_
        try simp only [Act.put, List.setIfInBounds_toArray, List.set_cons_zero, List.set_cons_succ]
        refine H_load 51 5 92 ta51 (L r) (L_len HL _) (p5) (0) rfl (by kernel_rfl) (by kernel_rfl) (by kernel_rfl) (fun _ _ _ h => h) rfl rfl (fun w' h => H53.out.only l53 h (.inl n5.symm)) hHeld ?_
        try simp only [Act.put, List.setIfInBounds_toArray, List.set_cons_zero, List.set_cons_succ]
        refine H_take 6 93 (.pointer (some ⟨b, o, none⟩)) rfl rfl (by kernel_rfl) (by kernel_rfl) (by kernel_rfl) (fun _ _ _ h => h) rfl ?_ hHeld ?_
        · intro _ _; go_simp
        try simp only [Act.put, List.setIfInBounds_toArray, List.set_cons_zero, List.set_cons_succ]
        refine H_take 7 94 (.pointer (some ⟨b, o, none⟩)) rfl rfl (by kernel_rfl) (by kernel_rfl) (by kernel_rfl) (fun _ _ _ h => h) rfl ?_ hHeld ?_
        · intro _ _; go_simp
        try simp only [Act.put, List.setIfInBounds_toArray, List.set_cons_zero, List.set_cons_succ]
        refine H_take 8 95 (.pointer (some ⟨b, o, none⟩)) rfl rfl (by kernel_rfl) (by kernel_rfl) (by kernel_rfl) (fun _ _ _ h => h) rfl ?_ hHeld ?_
        · intro _ _; go_simp
        try simp only [Act.put, List.setIfInBounds_toArray, List.set_cons_zero, List.set_cons_succ]
        refine H_take 10 96 (.pointer (some ⟨b, o, none⟩)) rfl rfl (by kernel_rfl) (by kernel_rfl) (by kernel_rfl) (fun _ _ _ h => h) rfl ?_ hHeld ?_
        · intro _ _; go_simp
        try simp only [Act.put, List.setIfInBounds_toArray, List.set_cons_zero, List.set_cons_succ]
        refine H_take 11 97 (.pointer (some ⟨b, o + 2, none⟩)) rfl rfl (by kernel_rfl) (by kernel_rfl) (by kernel_rfl) (fun _ _ _ h => h) rfl ?_ hHeld ?_
        · intro _ _; go_simp
        try simp only [Act.put, List.setIfInBounds_toArray, List.set_cons_zero, List.set_cons_succ]
        refine wpAnyH_ready (rs := [9]) (by kernel_rfl) (by simp) ?_
        refine (AllReadyH.cons rfl (fun K hK => ?_) AllReadyH.nil)
        rw [if_pos (by rfl)]
        simp only [List.getElem_toArray, List.getElem_cons_zero, List.getElem_cons_succ]
        have hD8 := hN3.out.below (below_drew _ X3) l3
        with_reducible refine S_cell 49 95 (.pointer (some q)) (s.p 0) Try.sizeOf49 (cells_ptr q) (one_ptr q) b (o) ?_ ?_ ?_ ?_
        · rfl
        · rfl
        · intro i v hv
          match i, hv with
          | 0, hv => simp at hv; subst hv; exact ⟨hD8.p 0 (by omega), hD8.fr _⟩
          | i + 1, hv => simp at hv
        intro X4 M4 O4
        have hN4 : Hid (NearAt L X4 b o _) := hD8.setP HL 0 (by omega) (.pointer (some q)) (M4 0 _ rfl).1 O4
        refine hK.out _ _ (hHeld.trans (O4.mono (by omega) (by omega))) (fun hHeld => ?_)
        clear hK K
        try simp only [Act.put]
        refine H_take 12 98 (.pointer (some ⟨b, o + 2, none⟩)) rfl rfl (by kernel_rfl) (by kernel_rfl) (by kernel_rfl) (fun _ _ _ h => h) rfl ?_ hHeld ?_
        · intro _ _; go_simp
        try simp only [Act.put, List.setIfInBounds_toArray, List.set_cons_zero, List.set_cons_succ]
        refine wpAnyH_ready (rs := [13]) (by kernel_rfl) (by simp) ?_
        refine (AllReadyH.cons rfl (fun K hK => ?_) AllReadyH.nil)
        rw [if_pos (by rfl)]
        simp only [List.getElem_toArray, List.getElem_cons_zero, List.getElem_cons_succ]
        with_reducible refine S_store 51 98 92 ta51 (L r) (L (s.r 0)) (L_len HL _) (L_len HL _) (L_one HL _) b (o + 2) ?_ ?_ ?_ ?_
        · rfl
        · rfl
        · exact hN4.out.r 0 (by omega)
        intro X5 M5 O5
        have hN5f := hN4.out.setR HL 0 (by omega) r M5 O5
        refine hK.out _ _ (hHeld.trans (O5.mono (by omega) (by omega))) (fun hHeld => ?_)
        clear hK K
        try simp only [Act.put]
        refine wpAnyH_done (by kernel_rfl) ?_ _
        go_wp2_with fail
        go_end0
        refine ⟨rfl, insAt s 0 (.pointer (some q)) r, ⟨0, by rw [← HNN.out]; omega, HJ.out, ?_, .inr ⟨by omega, ?_, rfl⟩⟩, ?_, OW3.out.trans (hHeld.mono (by omega) (by omega))⟩
        · exact HEx.out.1
        · exact HEx.out.2
        · have hns := HNN.out
          refine hN5f.congr (fun j hj => ?_) (fun j hj => ?_) ?_
          · rcases (by omega : j = 0 ∨ j = 1) with rfl | rfl <;> simp [upd, insAt, ← hns]
          · rcases (by omega : j = 0 ∨ j = 1) with rfl | rfl <;> simp [upd, insAt, ← hns]
          · simp [insAt, ← hns]
      · have hcX : X.cell? ⟨b, o + 42, none⟩ = some (.int .i64 1) := by have h := hNX.out.n; rw [← HNN.out] at h; exact h
        have HEx : Hid ((1 = s.n ∨ V r ≤ V (s.r 1)) ∧ ¬ (1 < s.n ∧ V (s.r 1) = V r)) := ⟨.inl HNN.out, fun h => by have := HNN.out; omega⟩
        refine wp_region_held_drew (S := fun w' => Below X.heap.size X w') (by kernel_rfl) (below_drew _ X) (fun hHeld => ?_)
        refine H_move 0 26 (.int .i64 1) rfl (by kernel_rfl) (by kernel_rfl) (by kernel_rfl) (fun _ _ _ h => h) rfl rfl hHeld ?_
        try simp only [Act.put, List.setIfInBounds_toArray, List.set_cons_zero, List.set_cons_succ]
        refine H_take 1 27 (.bool false) rfl rfl (by kernel_rfl) (by kernel_rfl) (by kernel_rfl) (fun _ _ _ h => h) rfl ?_ hHeld ?_
        · intro _ _; go_simp
        try simp only [Act.put, List.setIfInBounds_toArray, List.set_cons_zero, List.set_cons_succ]
        refine H_move 2 28 (.bool false) rfl (by kernel_rfl) (by kernel_rfl) (by kernel_rfl) (fun _ _ _ h => h) rfl rfl hHeld ?_
        try simp only [Act.put, List.setIfInBounds_toArray, List.set_cons_zero, List.set_cons_succ]
        refine H_move 3 29 (.int .i64 1) rfl (by kernel_rfl) (by kernel_rfl) (by kernel_rfl) (fun _ _ _ h => h) rfl rfl hHeld ?_
        try simp only [Act.put, List.setIfInBounds_toArray, List.set_cons_zero, List.set_cons_succ]
        refine H_move 4 30 (.pointer (some ⟨b, o, none⟩)) rfl (by kernel_rfl) (by kernel_rfl) (by kernel_rfl) (fun _ _ _ h => h) rfl rfl hHeld ?_
        try simp only [Act.put, List.setIfInBounds_toArray, List.set_cons_zero, List.set_cons_succ]
        refine H_take 5 31 (.pointer (some ⟨b, o, none⟩)) rfl rfl (by kernel_rfl) (by kernel_rfl) (by kernel_rfl) (fun _ _ _ h => h) rfl ?_ hHeld ?_
        · intro _ _; go_simp
        try simp only [Act.put, List.setIfInBounds_toArray, List.set_cons_zero, List.set_cons_succ]
        refine H_take 6 32 (.pointer (some ⟨b, o + 42, none⟩)) rfl rfl (by kernel_rfl) (by kernel_rfl) (by kernel_rfl) (fun _ _ _ h => h) rfl ?_ hHeld ?_
        · intro _ _; go_simp
        try simp only [Act.put, List.setIfInBounds_toArray, List.set_cons_zero, List.set_cons_succ]
        refine H_take 7 33 (.int .i64 1) rfl rfl (by kernel_rfl) (by kernel_rfl) (by kernel_rfl) (fun _ _ _ h => h) rfl ?_ hHeld ?_
        · intro w' h; have hc := (h.cell (p := ⟨b, o + 42, none⟩) lX).trans hcX; go_simp
        try simp only [Act.put, List.setIfInBounds_toArray, List.set_cons_zero, List.set_cons_succ]
        refine H_take 8 34 (.bool false) rfl rfl (by kernel_rfl) (by kernel_rfl) (by kernel_rfl) (fun _ _ _ h => h) rfl ?_ hHeld ?_
        · intro _ _; go_simp
        try simp only [Act.put, List.setIfInBounds_toArray, List.set_cons_zero, List.set_cons_succ]
        refine H_move 9 35 (.bool false) rfl (by kernel_rfl) (by kernel_rfl) (by kernel_rfl) (fun _ _ _ h => h) rfl rfl hHeld ?_
        try simp only [Act.put, List.setIfInBounds_toArray, List.set_cons_zero, List.set_cons_succ]
        refine H_skip 10 36 rfl rfl (by kernel_rfl) (by kernel_rfl) (by kernel_rfl) (fun _ _ _ h => h) rfl hHeld ?_
        try simp only [Act.put, List.setIfInBounds_toArray, List.set_cons_zero, List.set_cons_succ]
        refine H_skip 11 37 rfl rfl (by kernel_rfl) (by kernel_rfl) (by kernel_rfl) (fun _ _ _ h => h) rfl hHeld ?_
        try simp only [Act.put, List.setIfInBounds_toArray, List.set_cons_zero, List.set_cons_succ]
        refine H_skip 12 38 rfl rfl (by kernel_rfl) (by kernel_rfl) (by kernel_rfl) (fun _ _ _ h => h) rfl hHeld ?_
        try simp only [Act.put, List.setIfInBounds_toArray, List.set_cons_zero, List.set_cons_succ]
        refine H_skip 13 39 rfl rfl (by kernel_rfl) (by kernel_rfl) (by kernel_rfl) (fun _ _ _ h => h) rfl hHeld ?_
        try simp only [Act.put, List.setIfInBounds_toArray, List.set_cons_zero, List.set_cons_succ]
        refine H_skip 14 40 rfl rfl (by kernel_rfl) (by kernel_rfl) (by kernel_rfl) (fun _ _ _ h => h) rfl hHeld ?_
        try simp only [Act.put, List.setIfInBounds_toArray, List.set_cons_zero, List.set_cons_succ]
        refine H_skip 15 41 rfl rfl (by kernel_rfl) (by kernel_rfl) (by kernel_rfl) (fun _ _ _ h => h) rfl hHeld ?_
        try simp only [Act.put, List.setIfInBounds_toArray, List.set_cons_zero, List.set_cons_succ]
        refine H_skip 16 42 rfl rfl (by kernel_rfl) (by kernel_rfl) (by kernel_rfl) (fun _ _ _ h => h) rfl hHeld ?_
        try simp only [Act.put, List.setIfInBounds_toArray, List.set_cons_zero, List.set_cons_succ]
        refine H_skip 17 43 rfl rfl (by kernel_rfl) (by kernel_rfl) (by kernel_rfl) (fun _ _ _ h => h) rfl hHeld ?_
        try simp only [Act.put, List.setIfInBounds_toArray, List.set_cons_zero, List.set_cons_succ]
        refine H_take 18 44 (.bool false) rfl rfl (by kernel_rfl) (by kernel_rfl) (by kernel_rfl) (fun _ _ _ h => h) rfl ?_ hHeld ?_
        · intro _ _; go_simp
        try simp only [Act.put, List.setIfInBounds_toArray, List.set_cons_zero, List.set_cons_succ]
        refine H_take 19 45 (.bool false) rfl rfl (by kernel_rfl) (by kernel_rfl) (by kernel_rfl) (fun _ _ _ h => h) rfl ?_ hHeld ?_
        · intro _ _; go_simp
        try simp only [Act.put, List.setIfInBounds_toArray, List.set_cons_zero, List.set_cons_succ]
        refine wpAnyH_done (by kernel_rfl) ?_ _
        obtain ⟨Y, hY⟩ : ∃ Y, Y = X.drew := ⟨_, rfl⟩
        rw [← hY] at hHeld ⊢
        clear hY
        have hNY : Hid (NearAt L Y b o s) := hNX.out.below hHeld lX
        have H5Y : Hid (Mem Y p5 0 (L r)) := H5X.out.below hHeld l5X
        have l5Y := Nat.lt_of_lt_of_le l5X hHeld.size
        have OWY : Hid (Only b o 43 w Y) := Only.of_below _ _ (bl HBX.out hHeld) lb
        clear hHeld hcX
        have hcY := (hNY.out).n
        have hfY := (hNY.out).fr (o + 42)
        rw [← HNN.out] at hcY
        go_wp2_with fail
        try simp only [show min (3 : Int) 2 = 2 from by decide, show min (2 : Int) 2 = 2 from by decide, show min (1 : Int) 2 = 1 from by decide]
        obtain ⟨X1, hX1⟩ : ∃ X1, X1 = Y.setCell ⟨b, o + 42, none⟩ (.int .i64 2) := ⟨_, rfl⟩
        rw [← hX1]
        have hN1 : Hid (NearAt L X1 b o { s with n := 2 }) := by rw [hX1]; exact hNY.out.setN HL 2
        have O1 : Only b (o + 42) 1 Y X1 := by rw [hX1]; exact Only.setCell _ _ (Nat.le_refl _) (by omega)
        have H51 : Hid (Mem X1 p5 0 (L r)) := H5Y.out.only l5Y O1 (.inl n5.symm)
        have l1 := hN1.out.lt
        have l51 := Nat.lt_of_lt_of_le l5Y O1.size
        have OW1 : Hid (Only b o 43 w X1) := OWY.out.trans (O1.mono (by omega) (by omega))
        have hc1 : X1.cell? ⟨b, o + 42, none⟩ = some (.int .i64 2) := hN1.out.n
        clear hX1 O1 hcY hfY
        refine wp_region_held_drew (S := fun w' => Only b o 42 X1 w') (by kernel_rfl) (Only.of_below _ _ (below_drew _ X1) l1) (fun hHeld => ?_)
        refine H_move 0 55 (.pointer (some ⟨b, o, none⟩)) rfl (by kernel_rfl) (by kernel_rfl) (by kernel_rfl) (fun _ _ _ h => h) rfl rfl hHeld ?_
        try simp only [Act.put, List.setIfInBounds_toArray, List.set_cons_zero, List.set_cons_succ]
        refine H_take 1 56 (.pointer (some ⟨b, o, none⟩)) rfl rfl (by kernel_rfl) (by kernel_rfl) (by kernel_rfl) (fun _ _ _ h => h) rfl ?_ hHeld ?_
        · intro _ _; go_simp
        try simp only [Act.put, List.setIfInBounds_toArray, List.set_cons_zero, List.set_cons_succ]
        refine H_take 2 57 (.pointer (some ⟨b, o, none⟩)) rfl rfl (by kernel_rfl) (by kernel_rfl) (by kernel_rfl) (fun _ _ _ h => h) rfl ?_ hHeld ?_
        · intro _ _; go_simp
        try simp only [Act.put, List.setIfInBounds_toArray, List.set_cons_zero, List.set_cons_succ]
        refine H_move 3 58 (.int .i64 1) rfl (by kernel_rfl) (by kernel_rfl) (by kernel_rfl) (fun _ _ _ h => h) rfl rfl hHeld ?_
        try simp only [Act.put, List.setIfInBounds_toArray, List.set_cons_zero, List.set_cons_succ]
        refine H_take 4 59 (.int .i64 2) rfl rfl (by kernel_rfl) (by kernel_rfl) (by kernel_rfl) (fun _ _ _ h => h) rfl ?_ hHeld ?_
        · intro _ _; go_simp; try rfl
        try simp only [Act.put, List.setIfInBounds_toArray, List.set_cons_zero, List.set_cons_succ]
        refine H_move 5 60 (.pointer (some ⟨b, o, none⟩)) rfl (by kernel_rfl) (by kernel_rfl) (by kernel_rfl) (fun _ _ _ h => h) rfl rfl hHeld ?_
        try simp only [Act.put, List.setIfInBounds_toArray, List.set_cons_zero, List.set_cons_succ]
        refine H_take 6 61 (.pointer (some ⟨b, o, none⟩)) rfl rfl (by kernel_rfl) (by kernel_rfl) (by kernel_rfl) (fun _ _ _ h => h) rfl ?_ hHeld ?_
        · intro _ _; go_simp
        try simp only [Act.put, List.setIfInBounds_toArray, List.set_cons_zero, List.set_cons_succ]
        refine H_take 7 62 (.pointer (some ⟨b, o + 42, none⟩)) rfl rfl (by kernel_rfl) (by kernel_rfl) (by kernel_rfl) (fun _ _ _ h => h) rfl ?_ hHeld ?_
        · intro _ _; go_simp
        try simp only [Act.put, List.setIfInBounds_toArray, List.set_cons_zero, List.set_cons_succ]
        refine H_take 8 63 (.int .i64 2) rfl rfl (by kernel_rfl) (by kernel_rfl) (by kernel_rfl) (fun _ _ _ h => h) rfl ?_ hHeld ?_
        · intro w' h; have hc := (h.cell (o + 42) (by omega)).trans hc1; go_simp
        try simp only [Act.put, List.setIfInBounds_toArray, List.set_cons_zero, List.set_cons_succ]
        refine H_take 9 64 (.slice (some ⟨b, o, none⟩) 0 0) rfl rfl (by kernel_rfl) (by kernel_rfl) (by kernel_rfl) (fun _ _ _ h => h) rfl ?_ hHeld ?_
        · intro _ _; go_simp
        try simp only [Act.put, List.setIfInBounds_toArray, List.set_cons_zero, List.set_cons_succ]
        refine H_move 10 65 (.pointer (some ⟨b, o, none⟩)) rfl (by kernel_rfl) (by kernel_rfl) (by kernel_rfl) (fun _ _ _ h => h) rfl rfl hHeld ?_
        try simp only [Act.put, List.setIfInBounds_toArray, List.set_cons_zero, List.set_cons_succ]
        refine H_take 11 66 (.pointer (some ⟨b, o, none⟩)) rfl rfl (by kernel_rfl) (by kernel_rfl) (by kernel_rfl) (fun _ _ _ h => h) rfl ?_ hHeld ?_
        · intro _ _; go_simp
        try simp only [Act.put, List.setIfInBounds_toArray, List.set_cons_zero, List.set_cons_succ]
        refine H_take 12 67 (.pointer (some ⟨b, o, none⟩)) rfl rfl (by kernel_rfl) (by kernel_rfl) (by kernel_rfl) (fun _ _ _ h => h) rfl ?_ hHeld ?_
        · intro _ _; go_simp
        try simp only [Act.put, List.setIfInBounds_toArray, List.set_cons_zero, List.set_cons_succ]
        refine H_move 13 68 (.int .i64 1) rfl (by kernel_rfl) (by kernel_rfl) (by kernel_rfl) (fun _ _ _ h => h) rfl rfl hHeld ?_
        try simp only [Act.put, List.setIfInBounds_toArray, List.set_cons_zero, List.set_cons_succ]
        refine H_take 14 69 (.slice (some ⟨b, o + 1, none⟩) 1 1) rfl rfl (by kernel_rfl) (by kernel_rfl) (by kernel_rfl) (fun _ _ _ h => h) rfl ?_ hHeld ?_
        · intro _ _; go_simp
        try simp only [Act.put, List.setIfInBounds_toArray, List.set_cons_zero, List.set_cons_succ]
        refine wpAnyH_ready (rs := [15]) (by kernel_rfl) (by simp) ?_
        refine (AllReadyH.cons rfl (fun K hK => ?_) AllReadyH.nil)
        rw [if_pos (by rfl)]
        simp only [List.getElem_toArray, List.getElem_cons_zero, List.getElem_cons_succ]
        with_reducible refine S_copyZ 70 49 1 b (o) 0 b (o + 1) 1 1 ?_ ?_ Try.underlying70 (by kernel_rfl) ?_
        · rfl
        · rfl
        refine hK.out _ _ hHeld (fun hHeld => ?_)
        clear hK K
        try simp only [Act.put, List.setIfInBounds_toArray, List.set_cons_zero, List.set_cons_succ]
        obtain ⟨X2, hX2⟩ : ∃ X2, X2 = X1.drew := ⟨_, rfl⟩
        rw [← hX2] at hHeld ⊢
        have hN2 : Hid (NearAt L X2 b o { s with n := 2 }) := by rw [hX2]; exact hN1.out.below (below_drew _ X1) l1
        clear hX2
        refine wpAnyH_done (by kernel_rfl) ?_ _
        have H52 : Hid (Mem X2 p5 0 (L r)) := H51.out.only l51 hHeld (.inl n5.symm)
        have l2 := hN2.out.lt
        have l52 := Nat.lt_of_lt_of_le l51 hHeld.size
        have OW2 : Hid (Only b o 43 w X2) := OW1.out.trans (hHeld.mono (by omega) (by omega))
        have hc2 : X2.cell? ⟨b, o + 42, none⟩ = some (.int .i64 2) := hN2.out.n
        clear hHeld hc1 H51 OW1 hN1
        go_wp2_with fail
        refine wp_region_held_drew (S := fun w' => Only b o 42 X2 w') (by kernel_rfl) (Only.of_below _ _ (below_drew _ X2) l2) (fun hHeld => ?_)
        refine H_move 0 71 (.pointer (some ⟨b, o, none⟩)) rfl (by kernel_rfl) (by kernel_rfl) (by kernel_rfl) (fun _ _ _ h => h) rfl rfl hHeld ?_
        try simp only [Act.put, List.setIfInBounds_toArray, List.set_cons_zero, List.set_cons_succ]
        refine H_take 1 72 (.pointer (some ⟨b, o, none⟩)) rfl rfl (by kernel_rfl) (by kernel_rfl) (by kernel_rfl) (fun _ _ _ h => h) rfl ?_ hHeld ?_
        · intro _ _; go_simp
        try simp only [Act.put, List.setIfInBounds_toArray, List.set_cons_zero, List.set_cons_succ]
        refine H_take 2 73 (.pointer (some ⟨b, o + 2, none⟩)) rfl rfl (by kernel_rfl) (by kernel_rfl) (by kernel_rfl) (fun _ _ _ h => h) rfl ?_ hHeld ?_
        · intro _ _; go_simp
        try simp only [Act.put, List.setIfInBounds_toArray, List.set_cons_zero, List.set_cons_succ]
        refine H_move 3 74 (.int .i64 1) rfl (by kernel_rfl) (by kernel_rfl) (by kernel_rfl) (fun _ _ _ h => h) rfl rfl hHeld ?_
        try simp only [Act.put, List.setIfInBounds_toArray, List.set_cons_zero, List.set_cons_succ]
        refine H_take 4 75 (.int .i64 2) rfl rfl (by kernel_rfl) (by kernel_rfl) (by kernel_rfl) (fun _ _ _ h => h) rfl ?_ hHeld ?_
        · intro _ _; go_simp; try rfl
        try simp only [Act.put, List.setIfInBounds_toArray, List.set_cons_zero, List.set_cons_succ]
        refine H_move 5 76 (.pointer (some ⟨b, o, none⟩)) rfl (by kernel_rfl) (by kernel_rfl) (by kernel_rfl) (fun _ _ _ h => h) rfl rfl hHeld ?_
        try simp only [Act.put, List.setIfInBounds_toArray, List.set_cons_zero, List.set_cons_succ]
        refine H_take 6 77 (.pointer (some ⟨b, o, none⟩)) rfl rfl (by kernel_rfl) (by kernel_rfl) (by kernel_rfl) (fun _ _ _ h => h) rfl ?_ hHeld ?_
        · intro _ _; go_simp
        try simp only [Act.put, List.setIfInBounds_toArray, List.set_cons_zero, List.set_cons_succ]
        refine H_take 7 78 (.pointer (some ⟨b, o + 42, none⟩)) rfl rfl (by kernel_rfl) (by kernel_rfl) (by kernel_rfl) (fun _ _ _ h => h) rfl ?_ hHeld ?_
        · intro _ _; go_simp
        try simp only [Act.put, List.setIfInBounds_toArray, List.set_cons_zero, List.set_cons_succ]
        refine H_take 8 79 (.int .i64 2) rfl rfl (by kernel_rfl) (by kernel_rfl) (by kernel_rfl) (fun _ _ _ h => h) rfl ?_ hHeld ?_
        · intro w' h; have hc := (h.cell (o + 42) (by omega)).trans hc2; go_simp
        try simp only [Act.put, List.setIfInBounds_toArray, List.set_cons_zero, List.set_cons_succ]
        refine H_take 9 80 (.slice (some ⟨b, o + 2, none⟩) 0 0) rfl rfl (by kernel_rfl) (by kernel_rfl) (by kernel_rfl) (fun _ _ _ h => h) rfl ?_ hHeld ?_
        · intro _ _; go_simp
        try simp only [Act.put, List.setIfInBounds_toArray, List.set_cons_zero, List.set_cons_succ]
        refine H_move 10 81 (.pointer (some ⟨b, o, none⟩)) rfl (by kernel_rfl) (by kernel_rfl) (by kernel_rfl) (fun _ _ _ h => h) rfl rfl hHeld ?_
        try simp only [Act.put, List.setIfInBounds_toArray, List.set_cons_zero, List.set_cons_succ]
        refine H_take 11 82 (.pointer (some ⟨b, o, none⟩)) rfl rfl (by kernel_rfl) (by kernel_rfl) (by kernel_rfl) (fun _ _ _ h => h) rfl ?_ hHeld ?_
        · intro _ _; go_simp
        try simp only [Act.put, List.setIfInBounds_toArray, List.set_cons_zero, List.set_cons_succ]
        refine H_take 12 83 (.pointer (some ⟨b, o + 2, none⟩)) rfl rfl (by kernel_rfl) (by kernel_rfl) (by kernel_rfl) (fun _ _ _ h => h) rfl ?_ hHeld ?_
        · intro _ _; go_simp
        try simp only [Act.put, List.setIfInBounds_toArray, List.set_cons_zero, List.set_cons_succ]
        refine H_move 13 84 (.int .i64 1) rfl (by kernel_rfl) (by kernel_rfl) (by kernel_rfl) (fun _ _ _ h => h) rfl rfl hHeld ?_
        try simp only [Act.put, List.setIfInBounds_toArray, List.set_cons_zero, List.set_cons_succ]
        refine H_take 14 85 (.slice (some ⟨b, o + 22, none⟩) 1 1) rfl rfl (by kernel_rfl) (by kernel_rfl) (by kernel_rfl) (fun _ _ _ h => h) rfl ?_ hHeld ?_
        · intro _ _; go_simp
        try simp only [Act.put, List.setIfInBounds_toArray, List.set_cons_zero, List.set_cons_succ]
        refine wpAnyH_ready (rs := [15]) (by kernel_rfl) (by simp) ?_
        refine (AllReadyH.cons rfl (fun K hK => ?_) AllReadyH.nil)
        rw [if_pos (by rfl)]
        simp only [List.getElem_toArray, List.getElem_cons_zero, List.getElem_cons_succ]
        with_reducible refine S_copyZ 86 51 20 b (o + 2) 0 b (o + 22) 1 1 ?_ ?_ Try.underlying87 (by kernel_rfl) ?_
        · rfl
        · rfl
        refine hK.out _ _ hHeld (fun hHeld => ?_)
        clear hK K
        try simp only [Act.put, List.setIfInBounds_toArray, List.set_cons_zero, List.set_cons_succ]
        obtain ⟨X3, hX3⟩ : ∃ X3, X3 = X2.drew := ⟨_, rfl⟩
        rw [← hX3] at hHeld ⊢
        have hN3 : Hid (NearAt L X3 b o { s with n := 2 }) := by rw [hX3]; exact hN2.out.below (below_drew _ X2) l2
        clear hX3
        refine wpAnyH_done (by kernel_rfl) ?_ _
        have H53 : Hid (Mem X3 p5 0 (L r)) := H52.out.only l52 hHeld (.inl n5.symm)
        have l3 := hN3.out.lt
        have l53 := Nat.lt_of_lt_of_le l52 hHeld.size
        have OW3 : Hid (Only b o 43 w X3) := OW2.out.trans (hHeld.mono (by omega) (by omega))
        clear hHeld hc2 H52 OW2 hN2
        go_wp2_with fail
        refine wp_region_held_drew (S := fun w' => Only b o 42 X3 w') (by kernel_rfl) (Only.of_below _ _ (below_drew _ X3) l3) (fun hHeld => ?_)
        refine H_move 0 87 (.pointer (some ⟨b, o, none⟩)) rfl (by kernel_rfl) (by kernel_rfl) (by kernel_rfl) (fun _ _ _ h => h) rfl rfl hHeld ?_
        try simp only [Act.put, List.setIfInBounds_toArray, List.set_cons_zero, List.set_cons_succ]
        refine H_move 1 88 (.int .i64 1) rfl (by kernel_rfl) (by kernel_rfl) (by kernel_rfl) (fun _ _ _ h => h) rfl rfl hHeld ?_
        try simp only [Act.put, List.setIfInBounds_toArray, List.set_cons_zero, List.set_cons_succ]
        refine H_move 2 89 (.pointer (some ⟨b, o, none⟩)) rfl (by kernel_rfl) (by kernel_rfl) (by kernel_rfl) (fun _ _ _ h => h) rfl rfl hHeld ?_
        try simp only [Act.put, List.setIfInBounds_toArray, List.set_cons_zero, List.set_cons_succ]
        refine H_move 3 90 (.int .i64 1) rfl (by kernel_rfl) (by kernel_rfl) (by kernel_rfl) (fun _ _ _ h => h) rfl rfl hHeld ?_
        try simp only [Act.put, List.setIfInBounds_toArray, List.set_cons_zero, List.set_cons_succ]
        refine H_move 4 91 (.pointer (some q)) rfl (by kernel_rfl) (by kernel_rfl) (by kernel_rfl) (fun _ _ _ h => h) rfl rfl hHeld ?_
        try simp only [Act.put, List.setIfInBounds_toArray, List.set_cons_zero, List.set_cons_succ]
        refine H_load 51 5 92 ta51 (L r) (L_len HL _) (p5) (0) rfl (by kernel_rfl) (by kernel_rfl) (by kernel_rfl) (fun _ _ _ h => h) rfl rfl (fun w' h => H53.out.only l53 h (.inl n5.symm)) hHeld ?_
        try simp only [Act.put, List.setIfInBounds_toArray, List.set_cons_zero, List.set_cons_succ]
        refine H_take 6 93 (.pointer (some ⟨b, o, none⟩)) rfl rfl (by kernel_rfl) (by kernel_rfl) (by kernel_rfl) (fun _ _ _ h => h) rfl ?_ hHeld ?_
        · intro _ _; go_simp
        try simp only [Act.put, List.setIfInBounds_toArray, List.set_cons_zero, List.set_cons_succ]
        refine H_take 7 94 (.pointer (some ⟨b, o, none⟩)) rfl rfl (by kernel_rfl) (by kernel_rfl) (by kernel_rfl) (fun _ _ _ h => h) rfl ?_ hHeld ?_
        · intro _ _; go_simp
        try simp only [Act.put, List.setIfInBounds_toArray, List.set_cons_zero, List.set_cons_succ]
        refine H_take 8 95 (.pointer (some ⟨b, o + 1, none⟩)) rfl rfl (by kernel_rfl) (by kernel_rfl) (by kernel_rfl) (fun _ _ _ h => h) rfl ?_ hHeld ?_
        · intro _ _; go_simp
        try simp only [Act.put, List.setIfInBounds_toArray, List.set_cons_zero, List.set_cons_succ]
        refine H_take 10 96 (.pointer (some ⟨b, o, none⟩)) rfl rfl (by kernel_rfl) (by kernel_rfl) (by kernel_rfl) (fun _ _ _ h => h) rfl ?_ hHeld ?_
        · intro _ _; go_simp
        try simp only [Act.put, List.setIfInBounds_toArray, List.set_cons_zero, List.set_cons_succ]
        refine H_take 11 97 (.pointer (some ⟨b, o + 2, none⟩)) rfl rfl (by kernel_rfl) (by kernel_rfl) (by kernel_rfl) (fun _ _ _ h => h) rfl ?_ hHeld ?_
        · intro _ _; go_simp
        try simp only [Act.put, List.setIfInBounds_toArray, List.set_cons_zero, List.set_cons_succ]
        refine wpAnyH_ready (rs := [9]) (by kernel_rfl) (by simp) ?_
        refine (AllReadyH.cons rfl (fun K hK => ?_) AllReadyH.nil)
        rw [if_pos (by rfl)]
        simp only [List.getElem_toArray, List.getElem_cons_zero, List.getElem_cons_succ]
        have hD8 := hN3.out.below (below_drew _ X3) l3
        with_reducible refine S_cell 49 95 (.pointer (some q)) (s.p 1) Try.sizeOf49 (cells_ptr q) (one_ptr q) b (o + 1) ?_ ?_ ?_ ?_
        · rfl
        · rfl
        · intro i v hv
          match i, hv with
          | 0, hv => simp at hv; subst hv; exact ⟨hD8.p 1 (by omega), hD8.fr _⟩
          | i + 1, hv => simp at hv
        intro X4 M4 O4
        have hN4 : Hid (NearAt L X4 b o _) := hD8.setP HL 1 (by omega) (.pointer (some q)) (M4 0 _ rfl).1 O4
        refine hK.out _ _ (hHeld.trans (O4.mono (by omega) (by omega))) (fun hHeld => ?_)
        clear hK K
        try simp only [Act.put]
        refine H_take 12 98 (.pointer (some ⟨b, o + 22, none⟩)) rfl rfl (by kernel_rfl) (by kernel_rfl) (by kernel_rfl) (fun _ _ _ h => h) rfl ?_ hHeld ?_
        · intro _ _; go_simp
        try simp only [Act.put, List.setIfInBounds_toArray, List.set_cons_zero, List.set_cons_succ]
        refine wpAnyH_ready (rs := [13]) (by kernel_rfl) (by simp) ?_
        refine (AllReadyH.cons rfl (fun K hK => ?_) AllReadyH.nil)
        rw [if_pos (by rfl)]
        simp only [List.getElem_toArray, List.getElem_cons_zero, List.getElem_cons_succ]
        with_reducible refine S_store 51 98 92 ta51 (L r) (L (s.r 1)) (L_len HL _) (L_len HL _) (L_one HL _) b (o + 22) ?_ ?_ ?_ ?_
        · rfl
        · rfl
        · exact hN4.out.r 1 (by omega)
        intro X5 M5 O5
        have hN5f := hN4.out.setR HL 1 (by omega) r M5 O5
        refine hK.out _ _ (hHeld.trans (O5.mono (by omega) (by omega))) (fun hHeld => ?_)
        clear hK K
        try simp only [Act.put]
        refine wpAnyH_done (by kernel_rfl) ?_ _
        go_wp2_with fail
        go_end0
        refine ⟨rfl, insAt s 1 (.pointer (some q)) r, ⟨1, by rw [← HNN.out]; omega, HJ.out, ?_, .inr ⟨by omega, ?_, rfl⟩⟩, ?_, OW3.out.trans (hHeld.mono (by omega) (by omega))⟩
        · exact HEx.out.1
        · exact HEx.out.2
        · have hns := HNN.out
          refine hN5f.congr (fun j hj => ?_) (fun j hj => ?_) ?_
          · rcases (by omega : j = 0 ∨ j = 1) with rfl | rfl <;> simp [upd, insAt, ← hns]
          · rcases (by omega : j = 0 ∨ j = 1) with rfl | rfl <;> simp [upd, insAt, ← hns]
          · simp [insAt, ← hns]
      · have hcX : X.cell? ⟨b, o + 42, none⟩ = some (.int .i64 2) := by have h := hNX.out.n; rw [← HNN.out] at h; exact h
        refine wp_region_held_drew (S := fun w' => Below X.heap.size X w') (by kernel_rfl) (below_drew _ X) (fun hHeld => ?_)
        refine H_move 0 26 (.int .i64 2) rfl (by kernel_rfl) (by kernel_rfl) (by kernel_rfl) (fun _ _ _ h => h) rfl rfl hHeld ?_
        try simp only [Act.put, List.setIfInBounds_toArray, List.set_cons_zero, List.set_cons_succ]
        refine H_take 1 27 (.bool true) rfl rfl (by kernel_rfl) (by kernel_rfl) (by kernel_rfl) (fun _ _ _ h => h) rfl ?_ hHeld ?_
        · intro _ _; go_simp
        try simp only [Act.put, List.setIfInBounds_toArray, List.set_cons_zero, List.set_cons_succ]
        refine H_move 2 28 (.bool true) rfl (by kernel_rfl) (by kernel_rfl) (by kernel_rfl) (fun _ _ _ h => h) rfl rfl hHeld ?_
        try simp only [Act.put, List.setIfInBounds_toArray, List.set_cons_zero, List.set_cons_succ]
        refine H_skip 3 29 rfl rfl (by kernel_rfl) (by kernel_rfl) (by kernel_rfl) (fun _ _ _ h => h) rfl hHeld ?_
        try simp only [Act.put, List.setIfInBounds_toArray, List.set_cons_zero, List.set_cons_succ]
        refine H_skip 4 30 rfl rfl (by kernel_rfl) (by kernel_rfl) (by kernel_rfl) (fun _ _ _ h => h) rfl hHeld ?_
        try simp only [Act.put, List.setIfInBounds_toArray, List.set_cons_zero, List.set_cons_succ]
        refine H_skip 5 31 rfl rfl (by kernel_rfl) (by kernel_rfl) (by kernel_rfl) (fun _ _ _ h => h) rfl hHeld ?_
        try simp only [Act.put, List.setIfInBounds_toArray, List.set_cons_zero, List.set_cons_succ]
        refine H_skip 6 32 rfl rfl (by kernel_rfl) (by kernel_rfl) (by kernel_rfl) (fun _ _ _ h => h) rfl hHeld ?_
        try simp only [Act.put, List.setIfInBounds_toArray, List.set_cons_zero, List.set_cons_succ]
        refine H_skip 7 33 rfl rfl (by kernel_rfl) (by kernel_rfl) (by kernel_rfl) (fun _ _ _ h => h) rfl hHeld ?_
        try simp only [Act.put, List.setIfInBounds_toArray, List.set_cons_zero, List.set_cons_succ]
        refine H_skip 8 34 rfl rfl (by kernel_rfl) (by kernel_rfl) (by kernel_rfl) (fun _ _ _ h => h) rfl hHeld ?_
        try simp only [Act.put, List.setIfInBounds_toArray, List.set_cons_zero, List.set_cons_succ]
        refine H_skip 9 35 rfl rfl (by kernel_rfl) (by kernel_rfl) (by kernel_rfl) (fun _ _ _ h => h) rfl hHeld ?_
        try simp only [Act.put, List.setIfInBounds_toArray, List.set_cons_zero, List.set_cons_succ]
        refine H_skip 10 36 rfl rfl (by kernel_rfl) (by kernel_rfl) (by kernel_rfl) (fun _ _ _ h => h) rfl hHeld ?_
        try simp only [Act.put, List.setIfInBounds_toArray, List.set_cons_zero, List.set_cons_succ]
        refine H_skip 11 37 rfl rfl (by kernel_rfl) (by kernel_rfl) (by kernel_rfl) (fun _ _ _ h => h) rfl hHeld ?_
        try simp only [Act.put, List.setIfInBounds_toArray, List.set_cons_zero, List.set_cons_succ]
        refine H_skip 12 38 rfl rfl (by kernel_rfl) (by kernel_rfl) (by kernel_rfl) (fun _ _ _ h => h) rfl hHeld ?_
        try simp only [Act.put, List.setIfInBounds_toArray, List.set_cons_zero, List.set_cons_succ]
        refine H_skip 13 39 rfl rfl (by kernel_rfl) (by kernel_rfl) (by kernel_rfl) (fun _ _ _ h => h) rfl hHeld ?_
        try simp only [Act.put, List.setIfInBounds_toArray, List.set_cons_zero, List.set_cons_succ]
        refine H_skip 14 40 rfl rfl (by kernel_rfl) (by kernel_rfl) (by kernel_rfl) (fun _ _ _ h => h) rfl hHeld ?_
        try simp only [Act.put, List.setIfInBounds_toArray, List.set_cons_zero, List.set_cons_succ]
        refine H_skip 15 41 rfl rfl (by kernel_rfl) (by kernel_rfl) (by kernel_rfl) (fun _ _ _ h => h) rfl hHeld ?_
        try simp only [Act.put, List.setIfInBounds_toArray, List.set_cons_zero, List.set_cons_succ]
        refine H_skip 16 42 rfl rfl (by kernel_rfl) (by kernel_rfl) (by kernel_rfl) (fun _ _ _ h => h) rfl hHeld ?_
        try simp only [Act.put, List.setIfInBounds_toArray, List.set_cons_zero, List.set_cons_succ]
        refine H_skip 17 43 rfl rfl (by kernel_rfl) (by kernel_rfl) (by kernel_rfl) (fun _ _ _ h => h) rfl hHeld ?_
        try simp only [Act.put, List.setIfInBounds_toArray, List.set_cons_zero, List.set_cons_succ]
        refine H_skip 18 44 rfl rfl (by kernel_rfl) (by kernel_rfl) (by kernel_rfl) (fun _ _ _ h => h) rfl hHeld ?_
        try simp only [Act.put, List.setIfInBounds_toArray, List.set_cons_zero, List.set_cons_succ]
        refine H_take 19 45 (.bool true) rfl rfl (by kernel_rfl) (by kernel_rfl) (by kernel_rfl) (fun _ _ _ h => h) rfl ?_ hHeld ?_
        · intro _ _; go_simp
        try simp only [Act.put, List.setIfInBounds_toArray, List.set_cons_zero, List.set_cons_succ]
        refine wpAnyH_done (by kernel_rfl) ?_ _
        go_wp2_with fail
        exact bodyPost_ret (results_none rfl _ _ _) rfl ⟨rfl, s, ⟨2, by rw [← HNN.out]; omega, HJ.out, .inl HNN.out, .inl ⟨.inl rfl, rfl⟩⟩, hNX.out.below hHeld lX, Only.of_below _ _ (bl HBX.out hHeld) lb⟩
end Go.Proofs.Qxb6609493a
