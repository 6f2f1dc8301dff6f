import Derived.Test.Qxb6609493aAdd
namespace Go.Proofs.Qxb6609493a
open Go.RowKit

/-- The sides that come of offering the links that count, in their order. -/
def Run (el : Nat → Bool) (off : Nat → Nat → Int) (q : Nat → Nat) : Nat → Nr → Prop
  | 0, s => s = Nr.zero
  | k + 1, s' => ∃ s, Run el off q k s ∧ if el k = true then Offered s (.pointer (some ⟨q k, 0, none⟩)) (off k) s' else s' = s

theorem Hid.mk {p : Prop} (h : p) : Hid p := h
theorem ok_zero : Ok fun _ => 0 := fun i _ => by simp
theorem insAt_ok {s : Nr} {k : Nat} {p : Value} {r : Nat → Int} (h1 : ∀ j, j < 2 → Ok (s.r j)) (h2 : ∀ j, j < 2 → (s.p j).oneCell' = true) (hp : p.oneCell' = true) (hr : Ok r) : (insAt s k p r).n ≤ 2 ∧ (∀ j, j < 2 → Ok ((insAt s k p r).r j)) ∧ ∀ j, j < 2 → ((insAt s k p r).p j).oneCell' = true := by
  refine ⟨by show min _ _ ≤ 2; omega, fun j hj => ?_, fun j hj => ?_⟩
  · show Ok (if j = k then r else if k < j ∧ j ≤ s.n then s.r (j - 1) else s.r j)
    split
    · exact hr
    · split
      · exact h1 _ (by omega)
      · exact h1 _ hj
  · show Value.oneCell' (if j = k then p else if k < j ∧ j ≤ s.n then s.p (j - 1) else s.p j) = true
    split
    · exact hp
    · split
      · exact h2 _ (by omega)
      · exact h2 _ hj
theorem Run.ok {el : Nat → Bool} {off : Nat → Nat → Int} {q : Nat → Nat} (ho : ∀ i, Ok (off i)) : ∀ (k : Nat) (s : Nr), Run el off q k s → s.n ≤ 2 ∧ (∀ j, j < 2 → Ok (s.r j)) ∧ ∀ j, j < 2 → (s.p j).oneCell' = true
  | 0, s, h => by
    have h : s = Nr.zero := h
    subst h
    exact ⟨by simp [Nr.zero], fun _ _ => ok_zero, fun _ _ => rfl⟩
  | k + 1, s', ⟨s, h, e⟩ => by
    have ih := Run.ok ho k s h
    by_cases hc : el k = true
    · rw [if_pos hc] at e
      obtain ⟨j, _, _, _, e⟩ := e
      rcases e with ⟨_, rfl⟩ | ⟨_, _, rfl⟩
      · exact ih
      · exact insAt_ok ih.2.1 ih.2.2 rfl (ho k)
    · rw [if_neg hc] at e
      subst e; exact ih

def pairL (L : (Nat → Int) → List Value) : List Value := nearL L Nr.zero ++ nearL L Nr.zero
theorem pairL_len {L : (Nat → Int) → List Value} (HL : IsL L) : (pairL L).length = 86 := by simp [pairL, nearL_len HL]
theorem midL_eq (L : (Nat → Int) → List Value) : midL L = pairL L ++ pairL L := by simp [midL, pairL, List.append_assoc]
theorem pairL_one {L : (Nat → Int) → List Value} (HL : IsL L) : ∀ v ∈ pairL L, v.oneCell' = true := by
  intro v hv
  rcases List.mem_append.1 hv with h | h <;> exact nearL_one HL _ (fun _ _ => rfl) v h
theorem near_pair {L : (Nat → Int) → List Value} (HL : IsL L) {w : World} {N o : Nat} (h : Mem w N o (pairL L)) (hf : ∀ j, w.frozen? ⟨N, j, none⟩ = false) : NearAt L w N o Nr.zero ∧ NearAt L w N (o + 43) Nr.zero :=
  ⟨NearAt.of_mem HL h.app_left hf, NearAt.of_mem HL (h.app_right (by rw [nearL_len HL])) hf⟩
theorem run_build74 {L : (Nat → Int) → List Value} (HL : IsL L) (w : World) : (Instr.build 74 #[]).run Try.prog w = .ok (.agg (pairL L).toArray) w := by
  obtain rfl : L = lst := funext HL
  kernel_rfl
section
variable {ops : Array Oper} {rest : List Oper} {a : Act} {w : World} {Q : Exit → Act → World → Prop}
theorem D_build74 (k : Nat) {ty : TypeId} {pos : String} {after : Array Edge} {L : (Nat → Int) → List Value} (HL : IsL L)
    (h : wpList Try.prog ops Q rest (a.put (some k) (.agg (pairL L).toArray)) w) : wpList Try.prog ops Q ({ dst := some k, op := .build 74 #[], type := ty, pos := pos, after := after, guard := none } :: rest) a w := by
  refine wpList_plain rfl fun K' hK' => ?_
  have e : (#[] : Array (Nat × Operand)).map (fun (i, x) => (i, a.eval x)) = #[] := by simp
  unfold Oper.wp
  simp only [execOp, e, run_build74 HL, Sem.run_bind, Result.andThen_ok, Sem.run_pure]
  exact hK' _ _ h
end
theorem Links.keep {L : (Nat → Int) → List Value} {w w' : World} {B N C : Nat} {lv : Value} {n : Nat} {q : Nat → Nat} {ad : Nat → Nat → Int} {kn : Nat → Bool} {st : Nat → Int} (h : Links L w B N lv n q ad kn st) (k : ∀ b, b < C → b ≠ N → w'.heap[b]? = w.heap[b]?) (hq : ∀ i, i < n → q i < C) (ho : ∀ g, lv.ownBlock = some g → g < C) : Links L w' B N lv n q ad kn st := by
  refine ⟨⟨h.own.1, ?_⟩, h.far, fun i hi => (h.lk i hi).same (k _ (hq i hi) (h.ne i hi).1), h.ne⟩
  rcases h.own.2 with a | ⟨g, cap, cur, hv, hb, hg, rest⟩
  · exact .inl a
  · refine .inr ⟨g, cap, cur, hv, hb, ?_, rest⟩
    rw [k g (ho g (by rw [hv]; rfl)) (fun e => h.far (by rw [hv]; simp [Value.ownBlock, e]))]
    exact hg
/-- Two results that lie in memory as whole rows. -/
theorem R_results2 {fn : Func} {t t' : TypeId} {n n' : Nat} (hT : TA t n) (hT' : TA t' n') {p p' : Tmp} (h : fn.results = #[.cell p t, .cell p' t']) (tmps : Array Value) (w : World) (b o b' o' : Nat) (vs vs' : List Value) (hn : vs.length = n) (hn' : vs'.length = n') (hp : tmps.getD p undef = .pointer (some ⟨b, o, none⟩)) (hp' : tmps.getD p' undef = .pointer (some ⟨b', o', none⟩)) (hr : Mem w b o vs) (hr' : Mem w b' o' vs') :
    (results fn tmps).run Try.prog w = .ok (.tuple #[.agg vs.toArray, .agg vs'.toArray]) w := by
  obtain ⟨⟨d, hd, hrow⟩, hs⟩ := hT
  obtain ⟨⟨d', hd', hrow'⟩, hs'⟩ := hT'
  have hl := run_loadVar_mid (P := Try.prog) w b o t vs d hr.range hd hrow (by rw [hn]; exact hs)
  have hl' := run_loadVar_mid (P := Try.prog) w b' o' t' vs' d' hr'.range hd' hrow' (by rw [hn']; exact hs')
  have e : tmps[p]?.getD undef = .pointer (some ⟨b, o, none⟩) := by simpa using hp
  have e' : tmps[p']?.getD undef = .pointer (some ⟨b', o', none⟩) := by simpa using hp'
  generalize vs.toArray = A at hl
  generalize vs'.toArray = A' at hl'
  simp [results, h, e, e', asAddr, hl, hl']

set_option maxHeartbeats 8000000 in
set_option maxRecDepth 100000 in
theorem sides_any {L : (Nat → Int) → List Value} (HL : IsL L) (B N : Nat) (sf : Nat → Int) (lv : Value) (n : Nat) (q : Nat → Nat) (ad : Nat → Nat → Int) (kn : Nat → Bool) (st : Nat → Int) (up : Bool) (w : World) (hn : n ≤ 20000) (hBw : B ≤ w.heap.size) (hBN : B ≤ N)
    (hM : Hid (NodeM L w N sf lv)) (hK : Hid (Links L w B N lv n q ad kn st)) (hok : Hid (∀ i, Ok (ad i))) (hsf : Hid (Ok sf)) :
    Calls Try.prog 25 #[.pointer (some ⟨N, 0, none⟩), .bool up] w fun e w' => ∃ s0 s1, e = .returned (.tuple #[.agg (nearL L s0).toArray, .agg (nearL L s1).toArray]) ∧
      Run (fun i => kn i && (!up || st i == 2)) (fun i => subF (ad i) sf) q n s0 ∧ Run (fun i => kn i && (!up || st i == 2)) (fun i => subF sf (ad i)) q n s1 ∧ Below B w w' ∧ Links L w' B N lv n q ad kn st := by
  obtain ⟨la, lc, hlv⟩ : ∃ la lc, lv = .slice la n lc := by
    rcases hK.out.own.2 with ⟨a, b⟩ | ⟨g, cap, cur, a, b⟩
    · exact ⟨none, 0, by rw [a, b]⟩
    · exact ⟨_, _, a⟩
  subst hlv
  go_enter Try.func25, Try.ntmps25
  have lN := hM.out.lt
  have hNw := hM.out.lt
  have HC : Hid ((∀ i, i < n → q i < w.heap.size) ∧ ∀ g, (Value.slice la n lc).ownBlock = some g → g < w.heap.size) := ⟨fun i hi => (hK.out.lk i hi).lt, fun g hg => (hK.out.own.lt g hg).2⟩
  go_wp2_with (first | ((with_reducible refine D_new 54 4 _ (zero54 HL) ?_); (intro p4 w4 g4 l4 m4 B4)) | ((with_reducible refine D_new 54 5 _ (zero54 HL) ?_); (intro p5 w5 g5 l5 m5 B5; have hM5 := hM.out.below (bl B4 B5) lN; have hc204 := hM5.fd)) | ((with_reducible refine D_build74 17 HL ?_)) | ((with_reducible refine D_build74 18 HL ?_)) | ((with_reducible refine D_store 74 20 17 ta74 (pairL L) (pairL L) (pairL_len HL) (pairL_len HL) (pairL_one HL) N 32 ?_ ?_ ?_ ?_); (rfl); (rfl); (exact (midL_eq L ▸ hM5.z).app_left); (intro w6 m6 o6)) | ((with_reducible refine D_store 74 22 18 ta74 (pairL L) (pairL L) (pairL_len HL) (pairL_len HL) (pairL_one HL) N 118 ?_ ?_ ?_ ?_); (rfl); (rfl); (exact ((midL_eq L ▸ hM5.z).app_right (by rw [pairL_len HL])).only hM5.lt o6 (.inr (by omega))); (intro w7 m7 o7; have hc25 : w7.cell? ⟨N, 25, none⟩ = some (.slice la n lc) := (o7.cell _ (by omega)).trans ((o6.cell _ (by omega)).trans hM5.lk))))
  have HS7 : Hid (Mem w7 N 1 (L sf)) := (hM5.slf.only hM5.lt o6 (.inr (by rw [L_len HL]; omega))).only (Nat.lt_of_lt_of_le hM5.lt o6.size) o7 (.inr (by rw [L_len HL]; omega))
  have hf7 : ∀ j, w7.frozen? ⟨N, j, none⟩ = false := fun j => (o7.frozen j).trans ((o6.frozen j).trans (hM5.fr j))
  have m6 := m6.only (Nat.lt_of_lt_of_le hM5.lt o6.size) o7 (.inr (by rw [pairL_len HL]; omega))
  have hNu0 : Hid (NearAt L w7 N 32 Nr.zero) := (near_pair HL m6 hf7).1
  have hNu1 : Hid (NearAt L w7 N 75 Nr.zero) := (near_pair HL m6 hf7).2
  have hNk0 : Hid (NearAt L w7 N 118 Nr.zero) := (near_pair HL m7 hf7).1
  have hNk1 : Hid (NearAt L w7 N 161 Nr.zero) := (near_pair HL m7 hf7).2
  have HK7 : Hid (Links L w7 B N (.slice la n lc) n q ad kn st) := ((hK.out.below (bl B4 B5)).only o6).only o7
  have H204 : Hid (w7.cell? ⟨N, 204, none⟩ = some (.bool false)) := (o7.cell _ (by omega)).trans ((o6.cell _ (by omega)).trans hc204)
  have lN7 := hNu0.out.lt
  have n4 : p4 ≠ N := by omega
  have n5 : p5 ≠ N := by have := B4.size; omega
  have n45 : p4 ≠ p5 := by omega
  have HP4 : Hid (Mem w7 p4 0 (nearL L Nr.zero)) := ((m4.below B5 l4).only (Nat.lt_of_lt_of_le l4 B5.size) o6 (.inl n4)).only (Nat.lt_of_lt_of_le (Nat.lt_of_lt_of_le l4 B5.size) o6.size) o7 (.inl n4)
  have HP5 : Hid (Mem w7 p5 0 (nearL L Nr.zero)) := (m5.only l5 o6 (.inl n5)).only (Nat.lt_of_lt_of_le l5 o6.size) o7 (.inl n5)
  have l4 : p4 < w7.heap.size := Nat.lt_of_lt_of_le (Nat.lt_of_lt_of_le (Nat.lt_of_lt_of_le l4 B5.size) o6.size) o7.size
  have l5 : p5 < w7.heap.size := Nat.lt_of_lt_of_le (Nat.lt_of_lt_of_le l5 o6.size) o7.size
  have q4 : w.heap.size ≤ p4 := g4
  have q5 : w.heap.size ≤ p5 := Nat.le_trans B4.size g5
  have s5 := (bl B4 B5).size
  have BW : Hid (Below B w w7) := by
    have h5 : Below B w w5 := ⟨(bl B4 B5).os, (bl B4 B5).tape, (bl B4 B5).output, s5, fun i hi => (bl B4 B5).block i (Nat.lt_of_lt_of_le hi hBw)⟩
    have h6 := h5.trans (o6.below hBN (Nat.le_trans hBw s5))
    exact h6.trans (o7.below hBN (Nat.le_trans (Nat.le_trans hBw s5) o6.size))
  have sBW : w.heap.size ≤ w7.heap.size := BW.out.size
  clear m6 m7 m4 m5 o6 o7 B4 B5 g4 g5 hM5 hc204 s5 hM hK lN hf7
  have hcI : (0 : Int) ≤ (n : Int) := by omega
  go_loopw [28] (fun i wr => ∃ k : Nat, k ≤ n ∧ i = .int .i64 k ∧ Hid (Only N 32 172 w7 wr) ∧ Hid (∃ u0 u1 k0 k1, (Run (fun i => kn i && st i == 2) (fun i => subF (ad i) sf) q k u0 ∧ Run (fun i => kn i && st i == 2) (fun i => subF sf (ad i)) q k u1 ∧ Run kn (fun i => subF (ad i) sf) q k k0 ∧ Run kn (fun i => subF sf (ad i)) q k k1) ∧ NearAt L wr N 32 u0 ∧ NearAt L wr N 75 u1 ∧ NearAt L wr N 118 k0 ∧ NearAt L wr N 161 k1)) (fun i _ => n - (intOf i).toNat)
  case atStart => exact ⟨0, by omega, rfl, Only.refl _ _ _ _, Nr.zero, Nr.zero, Nr.zero, Nr.zero, ⟨rfl, rfl, rfl, rfl⟩, hNu0.out, hNu1.out, hNk0.out, hNk1.out⟩
  case round =>
    clear hNu0 hNu1 hNk0 hNk1 hc25
    obtain ⟨k, hk, rfl, HO, HX⟩ := hrel
    obtain ⟨u0, u1, k0, k1, hR, X0, X1, X2, X3⟩ := HX.out
    have HRn : Hid (Run (fun i => kn i && st i == 2) (fun i => subF (ad i) sf) q k u0 ∧ Run (fun i => kn i && st i == 2) (fun i => subF sf (ad i)) q k u1 ∧ Run kn (fun i => subF (ad i) sf) q k k0 ∧ Run kn (fun i => subF sf (ad i)) q k k1) := hR
    have hNu0 : Hid (NearAt L wr N 32 u0) := X0
    have hNu1 : Hid (NearAt L wr N 75 u1) := X1
    have hNk0 : Hid (NearAt L wr N 118 k0) := X2
    have hNk1 : Hid (NearAt L wr N 161 k1) := X3
    clear HX hR X0 X1 X2 X3
    have HKr : Hid (Links L wr B N (.slice la n lc) n q ad kn st) := HK7.out.only HO.out
    have lN : N < wr.heap.size := hNu0.out.lt
    by_cases hkn : k < n
    · obtain ⟨g, hg⟩ : ∃ g, la = some ⟨g, 0, none⟩ := by
        obtain ⟨g, cap, hv, _⟩ := HKr.out.own.form (by omega)
        injection hv with hv1
        exact ⟨g, hv1⟩
      subst hg
      have hcg : wr.cell? ⟨g, k, none⟩ = some (.pointer (some ⟨q k, 0, none⟩)) := by rw [HKr.out.own.cellAt k (by omega)]; exact ptrs_get q n k hkn
      have HLk : Hid (LinkAt L wr (q k) (k : Int) (ad k) (kn k) (st k)) := HKr.out.lk k hkn
      have lq : q k < wr.heap.size := HLk.out.lt
      have hqN : q k ≠ N := (HKr.out.ne k hkn).1
      have hck := HLk.out.k
      have hI1 : (k : Int) < (n : Int) := by omega
      have hI2 : (0 : Int) ≤ (k : Int) := by omega
      have HSf : Hid (Mem wr N 1 (L sf)) := HS7.out.only lN7 HO.out (.inr (by rw [L_len HL]; omega))
      by_cases hkk : kn k = true
      · rw [hkk] at hck
        go_wp2_with fail
        refine cut2 (fun a' p p' => ((((((((((((((((((((a'.put (some 37) (.pointer (some ⟨q k, 0, none⟩))).put (some 38) (.pointer (some ⟨q k, 0, none⟩))).put (some 39) (.pointer (some ⟨q k, 3, none⟩))).put (some 40) (.agg (L (ad k)).toArray)).put (some 41) (.pointer (some ⟨N, 0, none⟩))).put (some 42) (.pointer (some ⟨N, 0, none⟩))).put (some 43) (.pointer (some ⟨N, 1, none⟩))).put (some 44) (.agg (L sf).toArray)).put (some 45) (.agg (L (subF (ad k) sf)).toArray)).put (some 46) (.pointer (some ⟨N, 0, none⟩))).put (some 47) (.pointer (some ⟨N, 0, none⟩))).put (some 48) (.pointer (some ⟨N, 1, none⟩))).put (some 49) (.agg (L sf).toArray)).put (some 50) (.pointer (some ⟨q k, 0, none⟩))).put (some 51) (.pointer (some ⟨q k, 0, none⟩))).put (some 52) (.pointer (some ⟨q k, 3, none⟩))).put (some 53) (.agg (L (ad k)).toArray)).put (some 54) (.agg (L (subF sf (ad k))).toArray)).put (some 8) (.pointer (some ⟨p, 0, none⟩))).put (some 9) (.pointer (some ⟨p', 0, none⟩)))) (fun p p' w' => Below wr.heap.size wr w' ∧ Mem w' p 0 (L (subF (ad k) sf)) ∧ Mem w' p' 0 (L (subF sf (ad k))) ∧ wr.heap.size ≤ p ∧ wr.heap.size ≤ p') ?_ ?_
        · try simp only [Act.put, List.setIfInBounds_toArray, List.set_cons_zero, List.set_cons_succ]
          refine wp_region_held_drew (S := fun w' => Below wr.heap.size wr w') (by kernel_rfl) (below_drew _ wr) (fun hHeld => ?_)
          refine H_move 0 37 (.pointer (some ⟨q k, 0, none⟩)) rfl (by kernel_rfl) (by kernel_rfl) (by kernel_rfl) (fun _ _ _ ⟨_, _, h, _⟩ => nomatch h) rfl rfl hHeld ?_
          try simp only [Act.put, List.setIfInBounds_toArray, List.set_cons_zero, List.set_cons_succ]
          refine H_take 1 38 (.pointer (some ⟨q k, 0, none⟩)) rfl rfl (by kernel_rfl) (by kernel_rfl) (by kernel_rfl) (fun _ _ _ ⟨_, _, h, _⟩ => nomatch h) rfl ?_ hHeld ?_
          · intro _ _; go_simp
          try simp only [Act.put, List.setIfInBounds_toArray, List.set_cons_zero, List.set_cons_succ]
          refine H_take 2 39 (.pointer (some ⟨q k, 3, none⟩)) rfl rfl (by kernel_rfl) (by kernel_rfl) (by kernel_rfl) (fun _ _ _ ⟨_, _, h, _⟩ => nomatch h) rfl ?_ hHeld ?_
          · intro _ _; go_simp
          try simp only [Act.put, List.setIfInBounds_toArray, List.set_cons_zero, List.set_cons_succ]
          refine H_load 51 3 40 ta51 (L (ad k)) (L_len HL _) (q k) (3) rfl (by kernel_rfl) (by kernel_rfl) (by kernel_rfl) (fun _ _ _ ⟨_, _, h, _⟩ => nomatch h) rfl rfl (fun w' h => HLk.out.r.below h lq) hHeld ?_
          try simp only [Act.put, List.setIfInBounds_toArray, List.set_cons_zero, List.set_cons_succ]
          refine H_move 4 41 (.pointer (some ⟨N, 0, none⟩)) rfl (by kernel_rfl) (by kernel_rfl) (by kernel_rfl) (fun _ _ _ ⟨_, _, h, _⟩ => nomatch h) rfl rfl hHeld ?_
          try simp only [Act.put, List.setIfInBounds_toArray, List.set_cons_zero, List.set_cons_succ]
          refine H_take 5 42 (.pointer (some ⟨N, 0, none⟩)) rfl rfl (by kernel_rfl) (by kernel_rfl) (by kernel_rfl) (fun _ _ _ ⟨_, _, h, _⟩ => nomatch h) rfl ?_ hHeld ?_
          · intro _ _; go_simp
          try simp only [Act.put, List.setIfInBounds_toArray, List.set_cons_zero, List.set_cons_succ]
          refine H_take 6 43 (.pointer (some ⟨N, 1, none⟩)) rfl rfl (by kernel_rfl) (by kernel_rfl) (by kernel_rfl) (fun _ _ _ ⟨_, _, h, _⟩ => nomatch h) rfl ?_ hHeld ?_
          · intro _ _; go_simp
          try simp only [Act.put, List.setIfInBounds_toArray, List.set_cons_zero, List.set_cons_succ]
          refine H_load 51 7 44 ta51 (L sf) (L_len HL _) (N) (1) rfl (by kernel_rfl) (by kernel_rfl) (by kernel_rfl) (fun _ _ _ ⟨_, _, h, _⟩ => nomatch h) rfl rfl (fun w' h => HSf.out.below h lN) hHeld ?_
          try simp only [Act.put, List.setIfInBounds_toArray, List.set_cons_zero, List.set_cons_succ]
          refine H_move 9 46 (.pointer (some ⟨N, 0, none⟩)) rfl (by kernel_rfl) (by kernel_rfl) (by kernel_rfl) (fun _ _ _ ⟨_, _, h, _⟩ => nomatch h) rfl rfl hHeld ?_
          try simp only [Act.put, List.setIfInBounds_toArray, List.set_cons_zero, List.set_cons_succ]
          refine H_take 10 47 (.pointer (some ⟨N, 0, none⟩)) rfl rfl (by kernel_rfl) (by kernel_rfl) (by kernel_rfl) (fun _ _ _ ⟨_, _, h, _⟩ => nomatch h) rfl ?_ hHeld ?_
          · intro _ _; go_simp
          try simp only [Act.put, List.setIfInBounds_toArray, List.set_cons_zero, List.set_cons_succ]
          refine H_take 11 48 (.pointer (some ⟨N, 1, none⟩)) rfl rfl (by kernel_rfl) (by kernel_rfl) (by kernel_rfl) (fun _ _ _ ⟨_, _, h, _⟩ => nomatch h) rfl ?_ hHeld ?_
          · intro _ _; go_simp
          try simp only [Act.put, List.setIfInBounds_toArray, List.set_cons_zero, List.set_cons_succ]
          refine H_load 51 12 49 ta51 (L sf) (L_len HL _) (N) (1) rfl (by kernel_rfl) (by kernel_rfl) (by kernel_rfl) (fun _ _ _ ⟨_, _, h, _⟩ => nomatch h) rfl rfl (fun w' h => HSf.out.below h lN) hHeld ?_
          try simp only [Act.put, List.setIfInBounds_toArray, List.set_cons_zero, List.set_cons_succ]
          refine H_move 13 50 (.pointer (some ⟨q k, 0, none⟩)) rfl (by kernel_rfl) (by kernel_rfl) (by kernel_rfl) (fun _ _ _ ⟨_, _, h, _⟩ => nomatch h) rfl rfl hHeld ?_
          try simp only [Act.put, List.setIfInBounds_toArray, List.set_cons_zero, List.set_cons_succ]
          refine H_take 14 51 (.pointer (some ⟨q k, 0, none⟩)) rfl rfl (by kernel_rfl) (by kernel_rfl) (by kernel_rfl) (fun _ _ _ ⟨_, _, h, _⟩ => nomatch h) rfl ?_ hHeld ?_
          · intro _ _; go_simp
          try simp only [Act.put, List.setIfInBounds_toArray, List.set_cons_zero, List.set_cons_succ]
          refine H_take 15 52 (.pointer (some ⟨q k, 3, none⟩)) rfl rfl (by kernel_rfl) (by kernel_rfl) (by kernel_rfl) (fun _ _ _ ⟨_, _, h, _⟩ => nomatch h) rfl ?_ hHeld ?_
          · intro _ _; go_simp
          try simp only [Act.put, List.setIfInBounds_toArray, List.set_cons_zero, List.set_cons_succ]
          refine H_load 51 16 53 ta51 (L (ad k)) (L_len HL _) (q k) (3) rfl (by kernel_rfl) (by kernel_rfl) (by kernel_rfl) (fun _ _ _ ⟨_, _, h, _⟩ => nomatch h) rfl rfl (fun w' h => HLk.out.r.below h lq) hHeld ?_
          try simp only [Act.put, List.setIfInBounds_toArray, List.set_cons_zero, List.set_cons_succ]
          refine wpAnyH_ready (rs := [8, 18, 19]) (by kernel_rfl) (by simp) ?_
          refine (AllReadyH.cons rfl (fun K hK => ?_) (AllReadyH.cons rfl (fun K hK => ?_) (AllReadyH.cons rfl (fun K hK => ?_) AllReadyH.nil)))
          · go_simp
            refine (sub_any HL (ad k) sf _ (hok.out k) hsf.out).mono ?_
            rintro e v1 ⟨rfl, hB1⟩
            refine hK.out _ _ (bl hHeld hB1) (fun hHeld => ?_)
            clear hK K
            try simp only [Act.put, List.setIfInBounds_toArray, List.set_cons_zero, List.set_cons_succ]
            refine wpAnyH_ready (rs := [17, 18, 19]) (by kernel_rfl) (by simp) ?_
            refine (AllReadyH.cons rfl (fun K hK => ?_) (AllReadyH.cons rfl (fun K hK => ?_) (AllReadyH.cons rfl (fun K hK => ?_) AllReadyH.nil)))
            · go_simp
              refine (sub_any HL sf (ad k) _ hsf.out (hok.out k)).mono ?_
              rintro e v2 ⟨rfl, hB2⟩
              refine hK.out _ _ (bl hHeld hB2) (fun hHeld => ?_)
              clear hK K
              try simp only [Act.put, List.setIfInBounds_toArray, List.set_cons_zero, List.set_cons_succ]
              refine wpAnyH_ready (rs := [18, 19]) (by kernel_rfl) (by simp) ?_
              refine (AllReadyH.cons rfl (fun K hK => ?_) (AllReadyH.cons rfl (fun K hK => ?_) AllReadyH.nil))
              · rw [if_pos (by rfl)]
                simp only [List.getElem_toArray, List.getElem_cons_zero, List.getElem_cons_succ]
                with_reducible refine S_new 51 8 (L fun _ => 0) ((L_zero HL).2) ?_
                intro p8 v3 g8 l8 m8 hB3
                have q8 : wr.heap.size ≤ p8 := Nat.le_trans hHeld.size g8
                refine hK.out _ _ (bl hHeld hB3) (fun hHeld => ?_)
                clear hK K
                try simp only [Act.put, List.setIfInBounds_toArray, List.set_cons_zero, List.set_cons_succ]
                refine wpAnyH_ready (rs := [19]) (by kernel_rfl) (by simp) ?_
                refine (AllReadyH.cons rfl (fun K hK => ?_) AllReadyH.nil)
                rw [if_pos (by rfl)]
                simp only [List.getElem_toArray, List.getElem_cons_zero, List.getElem_cons_succ]
                with_reducible refine S_new 51 9 (L fun _ => 0) ((L_zero HL).2) ?_
                intro p9 v4 g9 l9 m9 hB4
                have q9 : wr.heap.size ≤ p9 := Nat.le_trans hHeld.size g9
                refine hK.out _ _ (bl hHeld hB4) (fun hHeld => ?_)
                clear hK K
                try simp only [Act.put, List.setIfInBounds_toArray, List.set_cons_zero, List.set_cons_succ]
                have n8_9 : p8 ≠ p9 := by omega
                have m8 := m8.below hB4 l8
                have l8 := Nat.lt_of_lt_of_le l8 hB4.size
                refine wpAnyH_ready (rs := [20]) (by kernel_rfl) (by simp) ?_
                refine (AllReadyH.cons rfl (fun K hK => ?_) AllReadyH.nil)
                rw [if_pos (by rfl)]
                simp only [List.getElem_toArray, List.getElem_cons_zero, List.getElem_cons_succ]
                with_reducible refine S_store 51 8 45 ta51 (L (subF (ad k) sf)) (L fun _ => 0) (L_len HL _) (L_len HL _) (L_one HL _) (p8) 0 ?_ ?_ m8 ?_
                · rfl
                · rfl
                intro v5 m8' hO5
                refine hK.out _ _ (bo hHeld hO5 q8) (fun hHeld => ?_)
                clear hK K
                try simp only [Act.put]
                have m9 := m9.only l9 hO5 (.inl (by omega))
                have l8 := Nat.lt_of_lt_of_le l8 hO5.size
                have l9 := Nat.lt_of_lt_of_le l9 hO5.size
                have m8 := m8'
                refine wpAnyH_ready (rs := [21]) (by kernel_rfl) (by simp) ?_
                refine (AllReadyH.cons rfl (fun K hK => ?_) AllReadyH.nil)
                rw [if_pos (by rfl)]
                simp only [List.getElem_toArray, List.getElem_cons_zero, List.getElem_cons_succ]
                with_reducible refine S_store 51 9 54 ta51 (L (subF sf (ad k))) (L fun _ => 0) (L_len HL _) (L_len HL _) (L_one HL _) (p9) 0 ?_ ?_ m9 ?_
                · rfl
                · rfl
                intro v6 m9' hO6
                refine hK.out _ _ (bo hHeld hO6 q9) (fun hHeld => ?_)
                clear hK K
                try simp only [Act.put]
                have m8 := m8.only l8 hO6 (.inl (by omega))
                have l8 := Nat.lt_of_lt_of_le l8 hO6.size
                have l9 := Nat.lt_of_lt_of_le l9 hO6.size
                have m9 := m9'
                refine wpAnyH_done (by kernel_rfl) ?_ _
                exact ⟨p8, p9, rfl, rfl, hHeld, m8, m9, q8, q9⟩
              · rw [if_pos (by rfl)]
                simp only [List.getElem_toArray, List.getElem_cons_zero, List.getElem_cons_succ]
                with_reducible refine S_new 51 9 (L fun _ => 0) ((L_zero HL).2) ?_
                intro p9 v7 g9 l9 m9 hB7
                have q9 : wr.heap.size ≤ p9 := Nat.le_trans hHeld.size g9
                refine hK.out _ _ (bl hHeld hB7) (fun hHeld => ?_)
                clear hK K
                try simp only [Act.put, List.setIfInBounds_toArray, List.set_cons_zero, List.set_cons_succ]
                refine wpAnyH_ready (rs := [18]) (by kernel_rfl) (by simp) ?_
                refine (AllReadyH.cons rfl (fun K hK => ?_) AllReadyH.nil)
                rw [if_pos (by rfl)]
                simp only [List.getElem_toArray, List.getElem_cons_zero, List.getElem_cons_succ]
                with_reducible refine S_new 51 8 (L fun _ => 0) ((L_zero HL).2) ?_
                intro p8 v8 g8 l8 m8 hB8
                have q8 : wr.heap.size ≤ p8 := Nat.le_trans hHeld.size g8
                refine hK.out _ _ (bl hHeld hB8) (fun hHeld => ?_)
                clear hK K
                try simp only [Act.put, List.setIfInBounds_toArray, List.set_cons_zero, List.set_cons_succ]
                have n9_8 : p9 ≠ p8 := by omega
                have m9 := m9.below hB8 l9
                have l9 := Nat.lt_of_lt_of_le l9 hB8.size
                refine wpAnyH_ready (rs := [20]) (by kernel_rfl) (by simp) ?_
                refine (AllReadyH.cons rfl (fun K hK => ?_) AllReadyH.nil)
                rw [if_pos (by rfl)]
                simp only [List.getElem_toArray, List.getElem_cons_zero, List.getElem_cons_succ]
                with_reducible refine S_store 51 8 45 ta51 (L (subF (ad k) sf)) (L fun _ => 0) (L_len HL _) (L_len HL _) (L_one HL _) (p8) 0 ?_ ?_ m8 ?_
                · rfl
                · rfl
                intro v9 m8' hO9
                refine hK.out _ _ (bo hHeld hO9 q8) (fun hHeld => ?_)
                clear hK K
                try simp only [Act.put]
                have m9 := m9.only l9 hO9 (.inl (by omega))
                have l9 := Nat.lt_of_lt_of_le l9 hO9.size
                have l8 := Nat.lt_of_lt_of_le l8 hO9.size
                have m8 := m8'
                refine wpAnyH_ready (rs := [21]) (by kernel_rfl) (by simp) ?_
                refine (AllReadyH.cons rfl (fun K hK => ?_) AllReadyH.nil)
                rw [if_pos (by rfl)]
                simp only [List.getElem_toArray, List.getElem_cons_zero, List.getElem_cons_succ]
                with_reducible refine S_store 51 9 54 ta51 (L (subF sf (ad k))) (L fun _ => 0) (L_len HL _) (L_len HL _) (L_one HL _) (p9) 0 ?_ ?_ m9 ?_
                · rfl
                · rfl
                intro v10 m9' hO10
                refine hK.out _ _ (bo hHeld hO10 q9) (fun hHeld => ?_)
                clear hK K
                try simp only [Act.put]
                have m8 := m8.only l8 hO10 (.inl (by omega))
                have l9 := Nat.lt_of_lt_of_le l9 hO10.size
                have l8 := Nat.lt_of_lt_of_le l8 hO10.size
                have m9 := m9'
                refine wpAnyH_done (by kernel_rfl) ?_ _
                exact ⟨p8, p9, rfl, rfl, hHeld, m8, m9, q8, q9⟩
            · rw [if_pos (by rfl)]
              simp only [List.getElem_toArray, List.getElem_cons_zero, List.getElem_cons_succ]
              with_reducible refine S_new 51 8 (L fun _ => 0) ((L_zero HL).2) ?_
              intro p8 v11 g8 l8 m8 hB11
              have q8 : wr.heap.size ≤ p8 := Nat.le_trans hHeld.size g8
              refine hK.out _ _ (bl hHeld hB11) (fun hHeld => ?_)
              clear hK K
              try simp only [Act.put, List.setIfInBounds_toArray, List.set_cons_zero, List.set_cons_succ]
              refine wpAnyH_ready (rs := [17, 19]) (by kernel_rfl) (by simp) ?_
              refine (AllReadyH.cons rfl (fun K hK => ?_) (AllReadyH.cons rfl (fun K hK => ?_) AllReadyH.nil))
              · go_simp
                refine (sub_any HL sf (ad k) _ hsf.out (hok.out k)).mono ?_
                rintro e v12 ⟨rfl, hB12⟩
                refine hK.out _ _ (bl hHeld hB12) (fun hHeld => ?_)
                clear hK K
                try simp only [Act.put, List.setIfInBounds_toArray, List.set_cons_zero, List.set_cons_succ]
                have m8 := m8.below hB12 l8
                have l8 := Nat.lt_of_lt_of_le l8 hB12.size
                refine wpAnyH_ready (rs := [19]) (by kernel_rfl) (by simp) ?_
                refine (AllReadyH.cons rfl (fun K hK => ?_) AllReadyH.nil)
                rw [if_pos (by rfl)]
                simp only [List.getElem_toArray, List.getElem_cons_zero, List.getElem_cons_succ]
                with_reducible refine S_new 51 9 (L fun _ => 0) ((L_zero HL).2) ?_
                intro p9 v13 g9 l9 m9 hB13
                have q9 : wr.heap.size ≤ p9 := Nat.le_trans hHeld.size g9
                refine hK.out _ _ (bl hHeld hB13) (fun hHeld => ?_)
                clear hK K
                try simp only [Act.put, List.setIfInBounds_toArray, List.set_cons_zero, List.set_cons_succ]
                have n8_9 : p8 ≠ p9 := by omega
                have m8 := m8.below hB13 l8
                have l8 := Nat.lt_of_lt_of_le l8 hB13.size
                refine wpAnyH_ready (rs := [20]) (by kernel_rfl) (by simp) ?_
                refine (AllReadyH.cons rfl (fun K hK => ?_) AllReadyH.nil)
                rw [if_pos (by rfl)]
                simp only [List.getElem_toArray, List.getElem_cons_zero, List.getElem_cons_succ]
                with_reducible refine S_store 51 8 45 ta51 (L (subF (ad k) sf)) (L fun _ => 0) (L_len HL _) (L_len HL _) (L_one HL _) (p8) 0 ?_ ?_ m8 ?_
                · rfl
                · rfl
                intro v14 m8' hO14
                refine hK.out _ _ (bo hHeld hO14 q8) (fun hHeld => ?_)
                clear hK K
                try simp only [Act.put]
                have m9 := m9.only l9 hO14 (.inl (by omega))
                have l8 := Nat.lt_of_lt_of_le l8 hO14.size
                have l9 := Nat.lt_of_lt_of_le l9 hO14.size
                have m8 := m8'
                refine wpAnyH_ready (rs := [21]) (by kernel_rfl) (by simp) ?_
                refine (AllReadyH.cons rfl (fun K hK => ?_) AllReadyH.nil)
                rw [if_pos (by rfl)]
                simp only [List.getElem_toArray, List.getElem_cons_zero, List.getElem_cons_succ]
                with_reducible refine S_store 51 9 54 ta51 (L (subF sf (ad k))) (L fun _ => 0) (L_len HL _) (L_len HL _) (L_one HL _) (p9) 0 ?_ ?_ m9 ?_
                · rfl
                · rfl
                intro v15 m9' hO15
                refine hK.out _ _ (bo hHeld hO15 q9) (fun hHeld => ?_)
                clear hK K
                try simp only [Act.put]
                have m8 := m8.only l8 hO15 (.inl (by omega))
                have l8 := Nat.lt_of_lt_of_le l8 hO15.size
                have l9 := Nat.lt_of_lt_of_le l9 hO15.size
                have m9 := m9'
                refine wpAnyH_done (by kernel_rfl) ?_ _
                exact ⟨p8, p9, rfl, rfl, hHeld, m8, m9, q8, q9⟩
              · rw [if_pos (by rfl)]
                simp only [List.getElem_toArray, List.getElem_cons_zero, List.getElem_cons_succ]
                with_reducible refine S_new 51 9 (L fun _ => 0) ((L_zero HL).2) ?_
                intro p9 v16 g9 l9 m9 hB16
                have q9 : wr.heap.size ≤ p9 := Nat.le_trans hHeld.size g9
                refine hK.out _ _ (bl hHeld hB16) (fun hHeld => ?_)
                clear hK K
                try simp only [Act.put, List.setIfInBounds_toArray, List.set_cons_zero, List.set_cons_succ]
                have n8_9 : p8 ≠ p9 := by omega
                have m8 := m8.below hB16 l8
                have l8 := Nat.lt_of_lt_of_le l8 hB16.size
                refine wpAnyH_ready (rs := [17]) (by kernel_rfl) (by simp) ?_
                refine (AllReadyH.cons rfl (fun K hK => ?_) AllReadyH.nil)
                go_simp
                refine (sub_any HL sf (ad k) _ hsf.out (hok.out k)).mono ?_
                rintro e v17 ⟨rfl, hB17⟩
                refine hK.out _ _ (bl hHeld hB17) (fun hHeld => ?_)
                clear hK K
                try simp only [Act.put, List.setIfInBounds_toArray, List.set_cons_zero, List.set_cons_succ]
                have m8 := m8.below hB17 l8
                have l8 := Nat.lt_of_lt_of_le l8 hB17.size
                have m9 := m9.below hB17 l9
                have l9 := Nat.lt_of_lt_of_le l9 hB17.size
                refine wpAnyH_ready (rs := [20]) (by kernel_rfl) (by simp) ?_
                refine (AllReadyH.cons rfl (fun K hK => ?_) AllReadyH.nil)
                rw [if_pos (by rfl)]
                simp only [List.getElem_toArray, List.getElem_cons_zero, List.getElem_cons_succ]
                with_reducible refine S_store 51 8 45 ta51 (L (subF (ad k) sf)) (L fun _ => 0) (L_len HL _) (L_len HL _) (L_one HL _) (p8) 0 ?_ ?_ m8 ?_
                · rfl
                · rfl
                intro v18 m8' hO18
                refine hK.out _ _ (bo hHeld hO18 q8) (fun hHeld => ?_)
                clear hK K
                try simp only [Act.put]
                have m9 := m9.only l9 hO18 (.inl (by omega))
                have l8 := Nat.lt_of_lt_of_le l8 hO18.size
                have l9 := Nat.lt_of_lt_of_le l9 hO18.size
                have m8 := m8'
                refine wpAnyH_ready (rs := [21]) (by kernel_rfl) (by simp) ?_
                refine (AllReadyH.cons rfl (fun K hK => ?_) AllReadyH.nil)
                rw [if_pos (by rfl)]
                simp only [List.getElem_toArray, List.getElem_cons_zero, List.getElem_cons_succ]
                with_reducible refine S_store 51 9 54 ta51 (L (subF sf (ad k))) (L fun _ => 0) (L_len HL _) (L_len HL _) (L_one HL _) (p9) 0 ?_ ?_ m9 ?_
                · rfl
                · rfl
                intro v19 m9' hO19
                refine hK.out _ _ (bo hHeld hO19 q9) (fun hHeld => ?_)
                clear hK K
                try simp only [Act.put]
                have m8 := m8.only l8 hO19 (.inl (by omega))
                have l8 := Nat.lt_of_lt_of_le l8 hO19.size
                have l9 := Nat.lt_of_lt_of_le l9 hO19.size
                have m9 := m9'
                refine wpAnyH_done (by kernel_rfl) ?_ _
                exact ⟨p8, p9, rfl, rfl, hHeld, m8, m9, q8, q9⟩
            · rw [if_pos (by rfl)]
              simp only [List.getElem_toArray, List.getElem_cons_zero, List.getElem_cons_succ]
              with_reducible refine S_new 51 9 (L fun _ => 0) ((L_zero HL).2) ?_
              intro p9 v20 g9 l9 m9 hB20
              have q9 : wr.heap.size ≤ p9 := Nat.le_trans hHeld.size g9
              refine hK.out _ _ (bl hHeld hB20) (fun hHeld => ?_)
              clear hK K
              try simp only [Act.put, List.setIfInBounds_toArray, List.set_cons_zero, List.set_cons_succ]
              refine wpAnyH_ready (rs := [17, 18]) (by kernel_rfl) (by simp) ?_
              refine (AllReadyH.cons rfl (fun K hK => ?_) (AllReadyH.cons rfl (fun K hK => ?_) AllReadyH.nil))
              · go_simp
                refine (sub_any HL sf (ad k) _ hsf.out (hok.out k)).mono ?_
                rintro e v21 ⟨rfl, hB21⟩
                refine hK.out _ _ (bl hHeld hB21) (fun hHeld => ?_)
                clear hK K
                try simp only [Act.put, List.setIfInBounds_toArray, List.set_cons_zero, List.set_cons_succ]
                have m9 := m9.below hB21 l9
                have l9 := Nat.lt_of_lt_of_le l9 hB21.size
                refine wpAnyH_ready (rs := [18]) (by kernel_rfl) (by simp) ?_
                refine (AllReadyH.cons rfl (fun K hK => ?_) AllReadyH.nil)
                rw [if_pos (by rfl)]
                simp only [List.getElem_toArray, List.getElem_cons_zero, List.getElem_cons_succ]
                with_reducible refine S_new 51 8 (L fun _ => 0) ((L_zero HL).2) ?_
                intro p8 v22 g8 l8 m8 hB22
                have q8 : wr.heap.size ≤ p8 := Nat.le_trans hHeld.size g8
                refine hK.out _ _ (bl hHeld hB22) (fun hHeld => ?_)
                clear hK K
                try simp only [Act.put, List.setIfInBounds_toArray, List.set_cons_zero, List.set_cons_succ]
                have n9_8 : p9 ≠ p8 := by omega
                have m9 := m9.below hB22 l9
                have l9 := Nat.lt_of_lt_of_le l9 hB22.size
                refine wpAnyH_ready (rs := [20]) (by kernel_rfl) (by simp) ?_
                refine (AllReadyH.cons rfl (fun K hK => ?_) AllReadyH.nil)
                rw [if_pos (by rfl)]
                simp only [List.getElem_toArray, List.getElem_cons_zero, List.getElem_cons_succ]
                with_reducible refine S_store 51 8 45 ta51 (L (subF (ad k) sf)) (L fun _ => 0) (L_len HL _) (L_len HL _) (L_one HL _) (p8) 0 ?_ ?_ m8 ?_
                · rfl
                · rfl
                intro v23 m8' hO23
                refine hK.out _ _ (bo hHeld hO23 q8) (fun hHeld => ?_)
                clear hK K
                try simp only [Act.put]
                have m9 := m9.only l9 hO23 (.inl (by omega))
                have l9 := Nat.lt_of_lt_of_le l9 hO23.size
                have l8 := Nat.lt_of_lt_of_le l8 hO23.size
                have m8 := m8'
                refine wpAnyH_ready (rs := [21]) (by kernel_rfl) (by simp) ?_
                refine (AllReadyH.cons rfl (fun K hK => ?_) AllReadyH.nil)
                rw [if_pos (by rfl)]
                simp only [List.getElem_toArray, List.getElem_cons_zero, List.getElem_cons_succ]
                with_reducible refine S_store 51 9 54 ta51 (L (subF sf (ad k))) (L fun _ => 0) (L_len HL _) (L_len HL _) (L_one HL _) (p9) 0 ?_ ?_ m9 ?_
                · rfl
                · rfl
                intro v24 m9' hO24
                refine hK.out _ _ (bo hHeld hO24 q9) (fun hHeld => ?_)
                clear hK K
                try simp only [Act.put]
                have m8 := m8.only l8 hO24 (.inl (by omega))
                have l9 := Nat.lt_of_lt_of_le l9 hO24.size
                have l8 := Nat.lt_of_lt_of_le l8 hO24.size
                have m9 := m9'
                refine wpAnyH_done (by kernel_rfl) ?_ _
                exact ⟨p8, p9, rfl, rfl, hHeld, m8, m9, q8, q9⟩
              · rw [if_pos (by rfl)]
                simp only [List.getElem_toArray, List.getElem_cons_zero, List.getElem_cons_succ]
                with_reducible refine S_new 51 8 (L fun _ => 0) ((L_zero HL).2) ?_
                intro p8 v25 g8 l8 m8 hB25
                have q8 : wr.heap.size ≤ p8 := Nat.le_trans hHeld.size g8
                refine hK.out _ _ (bl hHeld hB25) (fun hHeld => ?_)
                clear hK K
                try simp only [Act.put, List.setIfInBounds_toArray, List.set_cons_zero, List.set_cons_succ]
                have n9_8 : p9 ≠ p8 := by omega
                have m9 := m9.below hB25 l9
                have l9 := Nat.lt_of_lt_of_le l9 hB25.size
                refine wpAnyH_ready (rs := [17]) (by kernel_rfl) (by simp) ?_
                refine (AllReadyH.cons rfl (fun K hK => ?_) AllReadyH.nil)
                go_simp
                refine (sub_any HL sf (ad k) _ hsf.out (hok.out k)).mono ?_
                rintro e v26 ⟨rfl, hB26⟩
                refine hK.out _ _ (bl hHeld hB26) (fun hHeld => ?_)
                clear hK K
                try simp only [Act.put, List.setIfInBounds_toArray, List.set_cons_zero, List.set_cons_succ]
                have m9 := m9.below hB26 l9
                have l9 := Nat.lt_of_lt_of_le l9 hB26.size
                have m8 := m8.below hB26 l8
                have l8 := Nat.lt_of_lt_of_le l8 hB26.size
                refine wpAnyH_ready (rs := [20]) (by kernel_rfl) (by simp) ?_
                refine (AllReadyH.cons rfl (fun K hK => ?_) AllReadyH.nil)
                rw [if_pos (by rfl)]
                simp only [List.getElem_toArray, List.getElem_cons_zero, List.getElem_cons_succ]
                with_reducible refine S_store 51 8 45 ta51 (L (subF (ad k) sf)) (L fun _ => 0) (L_len HL _) (L_len HL _) (L_one HL _) (p8) 0 ?_ ?_ m8 ?_
                · rfl
                · rfl
                intro v27 m8' hO27
                refine hK.out _ _ (bo hHeld hO27 q8) (fun hHeld => ?_)
                clear hK K
                try simp only [Act.put]
                have m9 := m9.only l9 hO27 (.inl (by omega))
                have l9 := Nat.lt_of_lt_of_le l9 hO27.size
                have l8 := Nat.lt_of_lt_of_le l8 hO27.size
                have m8 := m8'
                refine wpAnyH_ready (rs := [21]) (by kernel_rfl) (by simp) ?_
                refine (AllReadyH.cons rfl (fun K hK => ?_) AllReadyH.nil)
                rw [if_pos (by rfl)]
                simp only [List.getElem_toArray, List.getElem_cons_zero, List.getElem_cons_succ]
                with_reducible refine S_store 51 9 54 ta51 (L (subF sf (ad k))) (L fun _ => 0) (L_len HL _) (L_len HL _) (L_one HL _) (p9) 0 ?_ ?_ m9 ?_
                · rfl
                · rfl
                intro v28 m9' hO28
                refine hK.out _ _ (bo hHeld hO28 q9) (fun hHeld => ?_)
                clear hK K
                try simp only [Act.put]
                have m8 := m8.only l8 hO28 (.inl (by omega))
                have l9 := Nat.lt_of_lt_of_le l9 hO28.size
                have l8 := Nat.lt_of_lt_of_le l8 hO28.size
                have m9 := m9'
                refine wpAnyH_done (by kernel_rfl) ?_ _
                exact ⟨p8, p9, rfl, rfl, hHeld, m8, m9, q8, q9⟩
          · rw [if_pos (by rfl)]
            simp only [List.getElem_toArray, List.getElem_cons_zero, List.getElem_cons_succ]
            with_reducible refine S_new 51 8 (L fun _ => 0) ((L_zero HL).2) ?_
            intro p8 v29 g8 l8 m8 hB29
            have q8 : wr.heap.size ≤ p8 := Nat.le_trans hHeld.size g8
            refine hK.out _ _ (bl hHeld hB29) (fun hHeld => ?_)
            clear hK K
            try simp only [Act.put, List.setIfInBounds_toArray, List.set_cons_zero, List.set_cons_succ]
            refine wpAnyH_ready (rs := [8, 19]) (by kernel_rfl) (by simp) ?_
            refine (AllReadyH.cons rfl (fun K hK => ?_) (AllReadyH.cons rfl (fun K hK => ?_) AllReadyH.nil))
            · go_simp
              refine (sub_any HL (ad k) sf _ (hok.out k) hsf.out).mono ?_
              rintro e v30 ⟨rfl, hB30⟩
              refine hK.out _ _ (bl hHeld hB30) (fun hHeld => ?_)
              clear hK K
              try simp only [Act.put, List.setIfInBounds_toArray, List.set_cons_zero, List.set_cons_succ]
              have m8 := m8.below hB30 l8
              have l8 := Nat.lt_of_lt_of_le l8 hB30.size
              refine wpAnyH_ready (rs := [17, 19]) (by kernel_rfl) (by simp) ?_
              refine (AllReadyH.cons rfl (fun K hK => ?_) (AllReadyH.cons rfl (fun K hK => ?_) AllReadyH.nil))
              · go_simp
                refine (sub_any HL sf (ad k) _ hsf.out (hok.out k)).mono ?_
                rintro e v31 ⟨rfl, hB31⟩
                refine hK.out _ _ (bl hHeld hB31) (fun hHeld => ?_)
                clear hK K
                try simp only [Act.put, List.setIfInBounds_toArray, List.set_cons_zero, List.set_cons_succ]
                have m8 := m8.below hB31 l8
                have l8 := Nat.lt_of_lt_of_le l8 hB31.size
                refine wpAnyH_ready (rs := [19]) (by kernel_rfl) (by simp) ?_
                refine (AllReadyH.cons rfl (fun K hK => ?_) AllReadyH.nil)
                rw [if_pos (by rfl)]
                simp only [List.getElem_toArray, List.getElem_cons_zero, List.getElem_cons_succ]
                with_reducible refine S_new 51 9 (L fun _ => 0) ((L_zero HL).2) ?_
                intro p9 v32 g9 l9 m9 hB32
                have q9 : wr.heap.size ≤ p9 := Nat.le_trans hHeld.size g9
                refine hK.out _ _ (bl hHeld hB32) (fun hHeld => ?_)
                clear hK K
                try simp only [Act.put, List.setIfInBounds_toArray, List.set_cons_zero, List.set_cons_succ]
                have n8_9 : p8 ≠ p9 := by omega
                have m8 := m8.below hB32 l8
                have l8 := Nat.lt_of_lt_of_le l8 hB32.size
                refine wpAnyH_ready (rs := [20]) (by kernel_rfl) (by simp) ?_
                refine (AllReadyH.cons rfl (fun K hK => ?_) AllReadyH.nil)
                rw [if_pos (by rfl)]
                simp only [List.getElem_toArray, List.getElem_cons_zero, List.getElem_cons_succ]
                with_reducible refine S_store 51 8 45 ta51 (L (subF (ad k) sf)) (L fun _ => 0) (L_len HL _) (L_len HL _) (L_one HL _) (p8) 0 ?_ ?_ m8 ?_
                · rfl
                · rfl
                intro v33 m8' hO33
                refine hK.out _ _ (bo hHeld hO33 q8) (fun hHeld => ?_)
                clear hK K
                try simp only [Act.put]
                have m9 := m9.only l9 hO33 (.inl (by omega))
                have l8 := Nat.lt_of_lt_of_le l8 hO33.size
                have l9 := Nat.lt_of_lt_of_le l9 hO33.size
                have m8 := m8'
                refine wpAnyH_ready (rs := [21]) (by kernel_rfl) (by simp) ?_
                refine (AllReadyH.cons rfl (fun K hK => ?_) AllReadyH.nil)
                rw [if_pos (by rfl)]
                simp only [List.getElem_toArray, List.getElem_cons_zero, List.getElem_cons_succ]
                with_reducible refine S_store 51 9 54 ta51 (L (subF sf (ad k))) (L fun _ => 0) (L_len HL _) (L_len HL _) (L_one HL _) (p9) 0 ?_ ?_ m9 ?_
                · rfl
                · rfl
                intro v34 m9' hO34
                refine hK.out _ _ (bo hHeld hO34 q9) (fun hHeld => ?_)
                clear hK K
                try simp only [Act.put]
                have m8 := m8.only l8 hO34 (.inl (by omega))
                have l8 := Nat.lt_of_lt_of_le l8 hO34.size
                have l9 := Nat.lt_of_lt_of_le l9 hO34.size
                have m9 := m9'
                refine wpAnyH_done (by kernel_rfl) ?_ _
                exact ⟨p8, p9, rfl, rfl, hHeld, m8, m9, q8, q9⟩
              · rw [if_pos (by rfl)]
                simp only [List.getElem_toArray, List.getElem_cons_zero, List.getElem_cons_succ]
                with_reducible refine S_new 51 9 (L fun _ => 0) ((L_zero HL).2) ?_
                intro p9 v35 g9 l9 m9 hB35
                have q9 : wr.heap.size ≤ p9 := Nat.le_trans hHeld.size g9
                refine hK.out _ _ (bl hHeld hB35) (fun hHeld => ?_)
                clear hK K
                try simp only [Act.put, List.setIfInBounds_toArray, List.set_cons_zero, List.set_cons_succ]
                have n8_9 : p8 ≠ p9 := by omega
                have m8 := m8.below hB35 l8
                have l8 := Nat.lt_of_lt_of_le l8 hB35.size
                refine wpAnyH_ready (rs := [17]) (by kernel_rfl) (by simp) ?_
                refine (AllReadyH.cons rfl (fun K hK => ?_) AllReadyH.nil)
                go_simp
                refine (sub_any HL sf (ad k) _ hsf.out (hok.out k)).mono ?_
                rintro e v36 ⟨rfl, hB36⟩
                refine hK.out _ _ (bl hHeld hB36) (fun hHeld => ?_)
                clear hK K
                try simp only [Act.put, List.setIfInBounds_toArray, List.set_cons_zero, List.set_cons_succ]
                have m8 := m8.below hB36 l8
                have l8 := Nat.lt_of_lt_of_le l8 hB36.size
                have m9 := m9.below hB36 l9
                have l9 := Nat.lt_of_lt_of_le l9 hB36.size
                refine wpAnyH_ready (rs := [20]) (by kernel_rfl) (by simp) ?_
                refine (AllReadyH.cons rfl (fun K hK => ?_) AllReadyH.nil)
                rw [if_pos (by rfl)]
                simp only [List.getElem_toArray, List.getElem_cons_zero, List.getElem_cons_succ]
                with_reducible refine S_store 51 8 45 ta51 (L (subF (ad k) sf)) (L fun _ => 0) (L_len HL _) (L_len HL _) (L_one HL _) (p8) 0 ?_ ?_ m8 ?_
                · rfl
                · rfl
                intro v37 m8' hO37
                refine hK.out _ _ (bo hHeld hO37 q8) (fun hHeld => ?_)
                clear hK K
                try simp only [Act.put]
                have m9 := m9.only l9 hO37 (.inl (by omega))
                have l8 := Nat.lt_of_lt_of_le l8 hO37.size
                have l9 := Nat.lt_of_lt_of_le l9 hO37.size
                have m8 := m8'
                refine wpAnyH_ready (rs := [21]) (by kernel_rfl) (by simp) ?_
                refine (AllReadyH.cons rfl (fun K hK => ?_) AllReadyH.nil)
                rw [if_pos (by rfl)]
                simp only [List.getElem_toArray, List.getElem_cons_zero, List.getElem_cons_succ]
                with_reducible refine S_store 51 9 54 ta51 (L (subF sf (ad k))) (L fun _ => 0) (L_len HL _) (L_len HL _) (L_one HL _) (p9) 0 ?_ ?_ m9 ?_
                · rfl
                · rfl
                intro v38 m9' hO38
                refine hK.out _ _ (bo hHeld hO38 q9) (fun hHeld => ?_)
                clear hK K
                try simp only [Act.put]
                have m8 := m8.only l8 hO38 (.inl (by omega))
                have l8 := Nat.lt_of_lt_of_le l8 hO38.size
                have l9 := Nat.lt_of_lt_of_le l9 hO38.size
                have m9 := m9'
                refine wpAnyH_done (by kernel_rfl) ?_ _
                exact ⟨p8, p9, rfl, rfl, hHeld, m8, m9, q8, q9⟩
            · rw [if_pos (by rfl)]
              simp only [List.getElem_toArray, List.getElem_cons_zero, List.getElem_cons_succ]
              with_reducible refine S_new 51 9 (L fun _ => 0) ((L_zero HL).2) ?_
              intro p9 v39 g9 l9 m9 hB39
              have q9 : wr.heap.size ≤ p9 := Nat.le_trans hHeld.size g9
              refine hK.out _ _ (bl hHeld hB39) (fun hHeld => ?_)
              clear hK K
              try simp only [Act.put, List.setIfInBounds_toArray, List.set_cons_zero, List.set_cons_succ]
              have n8_9 : p8 ≠ p9 := by omega
              have m8 := m8.below hB39 l8
              have l8 := Nat.lt_of_lt_of_le l8 hB39.size
              refine wpAnyH_ready (rs := [8]) (by kernel_rfl) (by simp) ?_
              refine (AllReadyH.cons rfl (fun K hK => ?_) AllReadyH.nil)
              go_simp
              refine (sub_any HL (ad k) sf _ (hok.out k) hsf.out).mono ?_
              rintro e v40 ⟨rfl, hB40⟩
              refine hK.out _ _ (bl hHeld hB40) (fun hHeld => ?_)
              clear hK K
              try simp only [Act.put, List.setIfInBounds_toArray, List.set_cons_zero, List.set_cons_succ]
              have m8 := m8.below hB40 l8
              have l8 := Nat.lt_of_lt_of_le l8 hB40.size
              have m9 := m9.below hB40 l9
              have l9 := Nat.lt_of_lt_of_le l9 hB40.size
              refine wpAnyH_ready (rs := [17]) (by kernel_rfl) (by simp) ?_
              refine (AllReadyH.cons rfl (fun K hK => ?_) AllReadyH.nil)
              go_simp
              refine (sub_any HL sf (ad k) _ hsf.out (hok.out k)).mono ?_
              rintro e v41 ⟨rfl, hB41⟩
              refine hK.out _ _ (bl hHeld hB41) (fun hHeld => ?_)
              clear hK K
              try simp only [Act.put, List.setIfInBounds_toArray, List.set_cons_zero, List.set_cons_succ]
              have m8 := m8.below hB41 l8
              have l8 := Nat.lt_of_lt_of_le l8 hB41.size
              have m9 := m9.below hB41 l9
              have l9 := Nat.lt_of_lt_of_le l9 hB41.size
              refine wpAnyH_ready (rs := [20]) (by kernel_rfl) (by simp) ?_
              refine (AllReadyH.cons rfl (fun K hK => ?_) AllReadyH.nil)
              rw [if_pos (by rfl)]
              simp only [List.getElem_toArray, List.getElem_cons_zero, List.getElem_cons_succ]
              with_reducible refine S_store 51 8 45 ta51 (L (subF (ad k) sf)) (L fun _ => 0) (L_len HL _) (L_len HL _) (L_one HL _) (p8) 0 ?_ ?_ m8 ?_
              · rfl
              · rfl
              intro v42 m8' hO42
              refine hK.out _ _ (bo hHeld hO42 q8) (fun hHeld => ?_)
              clear hK K
              try simp only [Act.put]
              have m9 := m9.only l9 hO42 (.inl (by omega))
              have l8 := Nat.lt_of_lt_of_le l8 hO42.size
              have l9 := Nat.lt_of_lt_of_le l9 hO42.size
              have m8 := m8'
              refine wpAnyH_ready (rs := [21]) (by kernel_rfl) (by simp) ?_
              refine (AllReadyH.cons rfl (fun K hK => ?_) AllReadyH.nil)
              rw [if_pos (by rfl)]
              simp only [List.getElem_toArray, List.getElem_cons_zero, List.getElem_cons_succ]
              with_reducible refine S_store 51 9 54 ta51 (L (subF sf (ad k))) (L fun _ => 0) (L_len HL _) (L_len HL _) (L_one HL _) (p9) 0 ?_ ?_ m9 ?_
              · rfl
              · rfl
              intro v43 m9' hO43
              refine hK.out _ _ (bo hHeld hO43 q9) (fun hHeld => ?_)
              clear hK K
              try simp only [Act.put]
              have m8 := m8.only l8 hO43 (.inl (by omega))
              have l8 := Nat.lt_of_lt_of_le l8 hO43.size
              have l9 := Nat.lt_of_lt_of_le l9 hO43.size
              have m9 := m9'
              refine wpAnyH_done (by kernel_rfl) ?_ _
              exact ⟨p8, p9, rfl, rfl, hHeld, m8, m9, q8, q9⟩
          · rw [if_pos (by rfl)]
            simp only [List.getElem_toArray, List.getElem_cons_zero, List.getElem_cons_succ]
            with_reducible refine S_new 51 9 (L fun _ => 0) ((L_zero HL).2) ?_
            intro p9 v44 g9 l9 m9 hB44
            have q9 : wr.heap.size ≤ p9 := Nat.le_trans hHeld.size g9
            refine hK.out _ _ (bl hHeld hB44) (fun hHeld => ?_)
            clear hK K
            try simp only [Act.put, List.setIfInBounds_toArray, List.set_cons_zero, List.set_cons_succ]
            refine wpAnyH_ready (rs := [8, 18]) (by kernel_rfl) (by simp) ?_
            refine (AllReadyH.cons rfl (fun K hK => ?_) (AllReadyH.cons rfl (fun K hK => ?_) AllReadyH.nil))
            · go_simp
              refine (sub_any HL (ad k) sf _ (hok.out k) hsf.out).mono ?_
              rintro e v45 ⟨rfl, hB45⟩
              refine hK.out _ _ (bl hHeld hB45) (fun hHeld => ?_)
              clear hK K
              try simp only [Act.put, List.setIfInBounds_toArray, List.set_cons_zero, List.set_cons_succ]
              have m9 := m9.below hB45 l9
              have l9 := Nat.lt_of_lt_of_le l9 hB45.size
              refine wpAnyH_ready (rs := [17, 18]) (by kernel_rfl) (by simp) ?_
              refine (AllReadyH.cons rfl (fun K hK => ?_) (AllReadyH.cons rfl (fun K hK => ?_) AllReadyH.nil))
              · go_simp
                refine (sub_any HL sf (ad k) _ hsf.out (hok.out k)).mono ?_
                rintro e v46 ⟨rfl, hB46⟩
                refine hK.out _ _ (bl hHeld hB46) (fun hHeld => ?_)
                clear hK K
                try simp only [Act.put, List.setIfInBounds_toArray, List.set_cons_zero, List.set_cons_succ]
                have m9 := m9.below hB46 l9
                have l9 := Nat.lt_of_lt_of_le l9 hB46.size
                refine wpAnyH_ready (rs := [18]) (by kernel_rfl) (by simp) ?_
                refine (AllReadyH.cons rfl (fun K hK => ?_) AllReadyH.nil)
                rw [if_pos (by rfl)]
                simp only [List.getElem_toArray, List.getElem_cons_zero, List.getElem_cons_succ]
                with_reducible refine S_new 51 8 (L fun _ => 0) ((L_zero HL).2) ?_
                intro p8 v47 g8 l8 m8 hB47
                have q8 : wr.heap.size ≤ p8 := Nat.le_trans hHeld.size g8
                refine hK.out _ _ (bl hHeld hB47) (fun hHeld => ?_)
                clear hK K
                try simp only [Act.put, List.setIfInBounds_toArray, List.set_cons_zero, List.set_cons_succ]
                have n9_8 : p9 ≠ p8 := by omega
                have m9 := m9.below hB47 l9
                have l9 := Nat.lt_of_lt_of_le l9 hB47.size
                refine wpAnyH_ready (rs := [20]) (by kernel_rfl) (by simp) ?_
                refine (AllReadyH.cons rfl (fun K hK => ?_) AllReadyH.nil)
                rw [if_pos (by rfl)]
                simp only [List.getElem_toArray, List.getElem_cons_zero, List.getElem_cons_succ]
                with_reducible refine S_store 51 8 45 ta51 (L (subF (ad k) sf)) (L fun _ => 0) (L_len HL _) (L_len HL _) (L_one HL _) (p8) 0 ?_ ?_ m8 ?_
                · rfl
                · rfl
                intro v48 m8' hO48
                refine hK.out _ _ (bo hHeld hO48 q8) (fun hHeld => ?_)
                clear hK K
                try simp only [Act.put]
                have m9 := m9.only l9 hO48 (.inl (by omega))
                have l9 := Nat.lt_of_lt_of_le l9 hO48.size
                have l8 := Nat.lt_of_lt_of_le l8 hO48.size
                have m8 := m8'
                refine wpAnyH_ready (rs := [21]) (by kernel_rfl) (by simp) ?_
                refine (AllReadyH.cons rfl (fun K hK => ?_) AllReadyH.nil)
                rw [if_pos (by rfl)]
                simp only [List.getElem_toArray, List.getElem_cons_zero, List.getElem_cons_succ]
                with_reducible refine S_store 51 9 54 ta51 (L (subF sf (ad k))) (L fun _ => 0) (L_len HL _) (L_len HL _) (L_one HL _) (p9) 0 ?_ ?_ m9 ?_
                · rfl
                · rfl
                intro v49 m9' hO49
                refine hK.out _ _ (bo hHeld hO49 q9) (fun hHeld => ?_)
                clear hK K
                try simp only [Act.put]
                have m8 := m8.only l8 hO49 (.inl (by omega))
                have l9 := Nat.lt_of_lt_of_le l9 hO49.size
                have l8 := Nat.lt_of_lt_of_le l8 hO49.size
                have m9 := m9'
                refine wpAnyH_done (by kernel_rfl) ?_ _
                exact ⟨p8, p9, rfl, rfl, hHeld, m8, m9, q8, q9⟩
              · rw [if_pos (by rfl)]
                simp only [List.getElem_toArray, List.getElem_cons_zero, List.getElem_cons_succ]
                with_reducible refine S_new 51 8 (L fun _ => 0) ((L_zero HL).2) ?_
                intro p8 v50 g8 l8 m8 hB50
                have q8 : wr.heap.size ≤ p8 := Nat.le_trans hHeld.size g8
                refine hK.out _ _ (bl hHeld hB50) (fun hHeld => ?_)
                clear hK K
                try simp only [Act.put, List.setIfInBounds_toArray, List.set_cons_zero, List.set_cons_succ]
                have n9_8 : p9 ≠ p8 := by omega
                have m9 := m9.below hB50 l9
                have l9 := Nat.lt_of_lt_of_le l9 hB50.size
                refine wpAnyH_ready (rs := [17]) (by kernel_rfl) (by simp) ?_
                refine (AllReadyH.cons rfl (fun K hK => ?_) AllReadyH.nil)
                go_simp
                refine (sub_any HL sf (ad k) _ hsf.out (hok.out k)).mono ?_
                rintro e v51 ⟨rfl, hB51⟩
                refine hK.out _ _ (bl hHeld hB51) (fun hHeld => ?_)
                clear hK K
                try simp only [Act.put, List.setIfInBounds_toArray, List.set_cons_zero, List.set_cons_succ]
                have m9 := m9.below hB51 l9
                have l9 := Nat.lt_of_lt_of_le l9 hB51.size
                have m8 := m8.below hB51 l8
                have l8 := Nat.lt_of_lt_of_le l8 hB51.size
                refine wpAnyH_ready (rs := [20]) (by kernel_rfl) (by simp) ?_
                refine (AllReadyH.cons rfl (fun K hK => ?_) AllReadyH.nil)
                rw [if_pos (by rfl)]
                simp only [List.getElem_toArray, List.getElem_cons_zero, List.getElem_cons_succ]
                with_reducible refine S_store 51 8 45 ta51 (L (subF (ad k) sf)) (L fun _ => 0) (L_len HL _) (L_len HL _) (L_one HL _) (p8) 0 ?_ ?_ m8 ?_
                · rfl
                · rfl
                intro v52 m8' hO52
                refine hK.out _ _ (bo hHeld hO52 q8) (fun hHeld => ?_)
                clear hK K
                try simp only [Act.put]
                have m9 := m9.only l9 hO52 (.inl (by omega))
                have l9 := Nat.lt_of_lt_of_le l9 hO52.size
                have l8 := Nat.lt_of_lt_of_le l8 hO52.size
                have m8 := m8'
                refine wpAnyH_ready (rs := [21]) (by kernel_rfl) (by simp) ?_
                refine (AllReadyH.cons rfl (fun K hK => ?_) AllReadyH.nil)
                rw [if_pos (by rfl)]
                simp only [List.getElem_toArray, List.getElem_cons_zero, List.getElem_cons_succ]
                with_reducible refine S_store 51 9 54 ta51 (L (subF sf (ad k))) (L fun _ => 0) (L_len HL _) (L_len HL _) (L_one HL _) (p9) 0 ?_ ?_ m9 ?_
                · rfl
                · rfl
                intro v53 m9' hO53
                refine hK.out _ _ (bo hHeld hO53 q9) (fun hHeld => ?_)
                clear hK K
                try simp only [Act.put]
                have m8 := m8.only l8 hO53 (.inl (by omega))
                have l9 := Nat.lt_of_lt_of_le l9 hO53.size
                have l8 := Nat.lt_of_lt_of_le l8 hO53.size
                have m9 := m9'
                refine wpAnyH_done (by kernel_rfl) ?_ _
                exact ⟨p8, p9, rfl, rfl, hHeld, m8, m9, q8, q9⟩
            · rw [if_pos (by rfl)]
              simp only [List.getElem_toArray, List.getElem_cons_zero, List.getElem_cons_succ]
              with_reducible refine S_new 51 8 (L fun _ => 0) ((L_zero HL).2) ?_
              intro p8 v54 g8 l8 m8 hB54
              have q8 : wr.heap.size ≤ p8 := Nat.le_trans hHeld.size g8
              refine hK.out _ _ (bl hHeld hB54) (fun hHeld => ?_)
              clear hK K
              try simp only [Act.put, List.setIfInBounds_toArray, List.set_cons_zero, List.set_cons_succ]
              have n9_8 : p9 ≠ p8 := by omega
              have m9 := m9.below hB54 l9
              have l9 := Nat.lt_of_lt_of_le l9 hB54.size
              refine wpAnyH_ready (rs := [8]) (by kernel_rfl) (by simp) ?_
              refine (AllReadyH.cons rfl (fun K hK => ?_) AllReadyH.nil)
              go_simp
              refine (sub_any HL (ad k) sf _ (hok.out k) hsf.out).mono ?_
              rintro e v55 ⟨rfl, hB55⟩
              refine hK.out _ _ (bl hHeld hB55) (fun hHeld => ?_)
              clear hK K
              try simp only [Act.put, List.setIfInBounds_toArray, List.set_cons_zero, List.set_cons_succ]
              have m9 := m9.below hB55 l9
              have l9 := Nat.lt_of_lt_of_le l9 hB55.size
              have m8 := m8.below hB55 l8
              have l8 := Nat.lt_of_lt_of_le l8 hB55.size
              refine wpAnyH_ready (rs := [17]) (by kernel_rfl) (by simp) ?_
              refine (AllReadyH.cons rfl (fun K hK => ?_) AllReadyH.nil)
              go_simp
              refine (sub_any HL sf (ad k) _ hsf.out (hok.out k)).mono ?_
              rintro e v56 ⟨rfl, hB56⟩
              refine hK.out _ _ (bl hHeld hB56) (fun hHeld => ?_)
              clear hK K
              try simp only [Act.put, List.setIfInBounds_toArray, List.set_cons_zero, List.set_cons_succ]
              have m9 := m9.below hB56 l9
              have l9 := Nat.lt_of_lt_of_le l9 hB56.size
              have m8 := m8.below hB56 l8
              have l8 := Nat.lt_of_lt_of_le l8 hB56.size
              refine wpAnyH_ready (rs := [20]) (by kernel_rfl) (by simp) ?_
              refine (AllReadyH.cons rfl (fun K hK => ?_) AllReadyH.nil)
              rw [if_pos (by rfl)]
              simp only [List.getElem_toArray, List.getElem_cons_zero, List.getElem_cons_succ]
              with_reducible refine S_store 51 8 45 ta51 (L (subF (ad k) sf)) (L fun _ => 0) (L_len HL _) (L_len HL _) (L_one HL _) (p8) 0 ?_ ?_ m8 ?_
              · rfl
              · rfl
              intro v57 m8' hO57
              refine hK.out _ _ (bo hHeld hO57 q8) (fun hHeld => ?_)
              clear hK K
              try simp only [Act.put]
              have m9 := m9.only l9 hO57 (.inl (by omega))
              have l9 := Nat.lt_of_lt_of_le l9 hO57.size
              have l8 := Nat.lt_of_lt_of_le l8 hO57.size
              have m8 := m8'
              refine wpAnyH_ready (rs := [21]) (by kernel_rfl) (by simp) ?_
              refine (AllReadyH.cons rfl (fun K hK => ?_) AllReadyH.nil)
              rw [if_pos (by rfl)]
              simp only [List.getElem_toArray, List.getElem_cons_zero, List.getElem_cons_succ]
              with_reducible refine S_store 51 9 54 ta51 (L (subF sf (ad k))) (L fun _ => 0) (L_len HL _) (L_len HL _) (L_one HL _) (p9) 0 ?_ ?_ m9 ?_
              · rfl
              · rfl
              intro v58 m9' hO58
              refine hK.out _ _ (bo hHeld hO58 q9) (fun hHeld => ?_)
              clear hK K
              try simp only [Act.put]
              have m8 := m8.only l8 hO58 (.inl (by omega))
              have l9 := Nat.lt_of_lt_of_le l9 hO58.size
              have l8 := Nat.lt_of_lt_of_le l8 hO58.size
              have m9 := m9'
              refine wpAnyH_done (by kernel_rfl) ?_ _
              exact ⟨p8, p9, rfl, rfl, hHeld, m8, m9, q8, q9⟩

        · rintro p8 p9 w8 ⟨B8, m8, m9, q8, q9⟩
          simp only [Act.put, List.setIfInBounds_toArray, List.set_cons_zero, List.set_cons_succ]
          have M8 : Hid (Mem w8 p8 0 (L (subF (ad k) sf))) := m8
          have M9 : Hid (Mem w8 p9 0 (L (subF sf (ad k)))) := m9
          have l8 : p8 < w8.heap.size := L_lt HL m8
          have l9 : p9 < w8.heap.size := L_lt HL m9
          have n8 : p8 ≠ N := by omega
          have n9 : p9 ≠ N := by omega
          have hNu0 : Hid (NearAt L w8 N 32 u0) := hNu0.out.below B8 lN
          have hNu1 : Hid (NearAt L w8 N 75 u1) := hNu1.out.below B8 lN
          have hNk0 : Hid (NearAt L w8 N 118 k0) := hNk0.out.below B8 lN
          have hNk1 : Hid (NearAt L w8 N 161 k1) := hNk1.out.below B8 lN
          have hNu0ok := Run.ok (fun i => ok_sub _ _) k u0 HRn.out.1
          have hNu1ok := Run.ok (fun i => ok_sub _ _) k u1 HRn.out.2.1
          have hNk0ok := Run.ok (fun i => ok_sub _ _) k k0 HRn.out.2.2.1
          have hNk1ok := Run.ok (fun i => ok_sub _ _) k k1 HRn.out.2.2.2
          have HLk : Hid (LinkAt L w8 (q k) (k : Int) (ad k) (kn k) (st k)) := HLk.out.same (B8.block _ lq)
          have lq : q k < w8.heap.size := Nat.lt_of_lt_of_le lq B8.size
          have lw8 : N < w8.heap.size := Nat.lt_of_lt_of_le lN B8.size
          have HO8 : Hid (Only N 32 172 w7 w8) := ob HO.out B8 lN7
          have H1 : Hid (kn k = true) := hkk
          clear m8 m9 q8 q9 B8 HO hcg hck HSf lN HKr hkk
          go_wp2_with fail
          refine wp_region_held_drew (S := fun w' => Only N 118 43 w8 w') (by kernel_rfl) (Only.of_below _ _ (below_drew _ w8) lw8) (fun hHeld => ?_)
          refine H_move 0 55 (.pointer (some ⟨N, 0, none⟩)) rfl (by kernel_rfl) (by kernel_rfl) (by kernel_rfl) (fun _ _ _ h => h) rfl rfl hHeld ?_
          try simp only [Act.put, List.setIfInBounds_toArray, List.set_cons_zero, List.set_cons_succ]
          refine H_take 1 56 (.pointer (some ⟨N, 0, none⟩)) rfl rfl (by kernel_rfl) (by kernel_rfl) (by kernel_rfl) (fun _ _ _ h => h) rfl ?_ hHeld ?_
          · intro _ _; go_simp
          try simp only [Act.put, List.setIfInBounds_toArray, List.set_cons_zero, List.set_cons_succ]
          refine H_take 2 57 (.pointer (some ⟨N, 118, none⟩)) rfl rfl (by kernel_rfl) (by kernel_rfl) (by kernel_rfl) (fun _ _ _ h => h) rfl ?_ hHeld ?_
          · intro _ _; go_simp
          try simp only [Act.put, List.setIfInBounds_toArray, List.set_cons_zero, List.set_cons_succ]
          refine H_take 3 58 (.pointer (some ⟨N, 118, none⟩)) rfl rfl (by kernel_rfl) (by kernel_rfl) (by kernel_rfl) (fun _ _ _ h => h) rfl ?_ hHeld ?_
          · intro _ _; go_simp
          try simp only [Act.put, List.setIfInBounds_toArray, List.set_cons_zero, List.set_cons_succ]
          refine H_move 4 59 (.pointer (some ⟨q k, 0, none⟩)) rfl (by kernel_rfl) (by kernel_rfl) (by kernel_rfl) (fun _ _ _ h => h) rfl rfl hHeld ?_
          try simp only [Act.put, List.setIfInBounds_toArray, List.set_cons_zero, List.set_cons_succ]
          refine H_load 51 5 60 ta51 (L (subF (ad k) sf)) (L_len HL _) (p8) (0) rfl (by kernel_rfl) (by kernel_rfl) (by kernel_rfl) (fun _ _ _ h => h) rfl rfl (fun w' h => M8.out.only l8 h (.inl n8)) hHeld ?_
          try simp only [Act.put, List.setIfInBounds_toArray, List.set_cons_zero, List.set_cons_succ]
          refine wpAnyH_ready (rs := [6]) (by kernel_rfl) (by simp) ?_
          refine (AllReadyH.cons rfl (fun K hK => ?_) AllReadyH.nil)
          go_simp
          refine (offer_any HL N 118 k0 ⟨q k, 0, none⟩ (subF (ad k) sf) _ (hNk0ok).1 (hNk0ok).2.1 (ok_sub _ _) (hNk0.out.below (below_drew _ w8) lw8) (hNk0ok).2.2).mono ?_
          rintro e x8 ⟨rfl, k0', hOf8, hNn8, hB1⟩
          refine hK.out _ _ (hHeld.trans (hB1.mono (by omega) (by omega))) (fun hHeld => ?_)
          clear hK K
          try simp only [Act.put, List.setIfInBounds_toArray, List.set_cons_zero, List.set_cons_succ]
          refine wpAnyH_done (by kernel_rfl) ?_ _
          have hNu0 : Hid (NearAt L x8 N 32 u0) := hNu0.out.only HL hHeld (.inr (by omega))
          have hNu1 : Hid (NearAt L x8 N 75 u1) := hNu1.out.only HL hHeld (.inr (by omega))
          have hNk1 : Hid (NearAt L x8 N 161 k1) := hNk1.out.only HL hHeld (.inr (by omega))
          have hNk0 : Hid (NearAt L x8 N 118 k0') := hNn8
          have HOf8 := Hid.mk hOf8
          have M8 := Hid.mk (M8.out.only l8 hHeld (.inl n8))
          have M9 := Hid.mk (M9.out.only l9 hHeld (.inl n9))
          have l8 := Nat.lt_of_lt_of_le l8 hHeld.size
          have l9 := Nat.lt_of_lt_of_le l9 hHeld.size
          have HLk := Hid.mk (HLk.out.same (hHeld.block _ lq hqN))
          have lq := Nat.lt_of_lt_of_le lq hHeld.size
          have lx8 : N < x8.heap.size := hNk0.out.lt
          have HO8 := Hid.mk (HO8.out.trans (hHeld.mono (by omega) (by omega)))
          clear hHeld hNn8 hOf8 lw8
          go_wp2_with fail
          refine wp_region_held_drew (S := fun w' => Only N 161 43 x8 w') (by kernel_rfl) (Only.of_below _ _ (below_drew _ x8) lx8) (fun hHeld => ?_)
          refine H_move 0 62 (.pointer (some ⟨N, 0, none⟩)) rfl (by kernel_rfl) (by kernel_rfl) (by kernel_rfl) (fun _ _ _ h => h) rfl rfl hHeld ?_
          try simp only [Act.put, List.setIfInBounds_toArray, List.set_cons_zero, List.set_cons_succ]
          refine H_take 1 63 (.pointer (some ⟨N, 0, none⟩)) rfl rfl (by kernel_rfl) (by kernel_rfl) (by kernel_rfl) (fun _ _ _ h => h) rfl ?_ hHeld ?_
          · intro _ _; go_simp
          try simp only [Act.put, List.setIfInBounds_toArray, List.set_cons_zero, List.set_cons_succ]
          refine H_take 2 64 (.pointer (some ⟨N, 118, none⟩)) rfl rfl (by kernel_rfl) (by kernel_rfl) (by kernel_rfl) (fun _ _ _ h => h) rfl ?_ hHeld ?_
          · intro _ _; go_simp
          try simp only [Act.put, List.setIfInBounds_toArray, List.set_cons_zero, List.set_cons_succ]
          refine H_take 3 65 (.pointer (some ⟨N, 161, none⟩)) rfl rfl (by kernel_rfl) (by kernel_rfl) (by kernel_rfl) (fun _ _ _ h => h) rfl ?_ hHeld ?_
          · intro _ _; go_simp
          try simp only [Act.put, List.setIfInBounds_toArray, List.set_cons_zero, List.set_cons_succ]
          refine H_move 4 66 (.pointer (some ⟨q k, 0, none⟩)) rfl (by kernel_rfl) (by kernel_rfl) (by kernel_rfl) (fun _ _ _ h => h) rfl rfl hHeld ?_
          try simp only [Act.put, List.setIfInBounds_toArray, List.set_cons_zero, List.set_cons_succ]
          refine H_load 51 5 67 ta51 (L (subF sf (ad k))) (L_len HL _) (p9) (0) rfl (by kernel_rfl) (by kernel_rfl) (by kernel_rfl) (fun _ _ _ h => h) rfl rfl (fun w' h => M9.out.only l9 h (.inl n9)) hHeld ?_
          try simp only [Act.put, List.setIfInBounds_toArray, List.set_cons_zero, List.set_cons_succ]
          refine wpAnyH_ready (rs := [6]) (by kernel_rfl) (by simp) ?_
          refine (AllReadyH.cons rfl (fun K hK => ?_) AllReadyH.nil)
          go_simp
          refine (offer_any HL N 161 k1 ⟨q k, 0, none⟩ (subF sf (ad k)) _ (hNk1ok).1 (hNk1ok).2.1 (ok_sub _ _) (hNk1.out.below (below_drew _ x8) lx8) (hNk1ok).2.2).mono ?_
          rintro e x9 ⟨rfl, k1', hOf9, hNn9, hB1⟩
          refine hK.out _ _ (hHeld.trans (hB1.mono (by omega) (by omega))) (fun hHeld => ?_)
          clear hK K
          try simp only [Act.put, List.setIfInBounds_toArray, List.set_cons_zero, List.set_cons_succ]
          refine wpAnyH_done (by kernel_rfl) ?_ _
          have hNu0 : Hid (NearAt L x9 N 32 u0) := hNu0.out.only HL hHeld (.inr (by omega))
          have hNu1 : Hid (NearAt L x9 N 75 u1) := hNu1.out.only HL hHeld (.inr (by omega))
          have hNk0 : Hid (NearAt L x9 N 118 k0') := hNk0.out.only HL hHeld (.inr (by omega))
          have hNk1 : Hid (NearAt L x9 N 161 k1') := hNn9
          have HOf9 := Hid.mk hOf9
          have M8 := Hid.mk (M8.out.only l8 hHeld (.inl n8))
          have M9 := Hid.mk (M9.out.only l9 hHeld (.inl n9))
          have l8 := Nat.lt_of_lt_of_le l8 hHeld.size
          have l9 := Nat.lt_of_lt_of_le l9 hHeld.size
          have HLk := Hid.mk (HLk.out.same (hHeld.block _ lq hqN))
          have lq := Nat.lt_of_lt_of_le lq hHeld.size
          have lx9 : N < x9.heap.size := hNk1.out.lt
          have HO8 := Hid.mk (HO8.out.trans (hHeld.mono (by omega) (by omega)))
          clear hHeld hNn9 hOf9 lx8
          have hcs := HLk.out.s
          by_cases hst : st k = 2
          · rw [hst] at hcs
            go_wp2_with fail
            refine wp_region_held_drew (S := fun w' => Only N 32 43 x9 w') (by kernel_rfl) (Only.of_below _ _ (below_drew _ x9) lx9) (fun hHeld => ?_)
            refine H_move 0 74 (.pointer (some ⟨N, 0, none⟩)) rfl (by kernel_rfl) (by kernel_rfl) (by kernel_rfl) (fun _ _ _ h => h) rfl rfl hHeld ?_
            try simp only [Act.put, List.setIfInBounds_toArray, List.set_cons_zero, List.set_cons_succ]
            refine H_take 1 75 (.pointer (some ⟨N, 0, none⟩)) rfl rfl (by kernel_rfl) (by kernel_rfl) (by kernel_rfl) (fun _ _ _ h => h) rfl ?_ hHeld ?_
            · intro _ _; go_simp
            try simp only [Act.put, List.setIfInBounds_toArray, List.set_cons_zero, List.set_cons_succ]
            refine H_take 2 76 (.pointer (some ⟨N, 32, none⟩)) rfl rfl (by kernel_rfl) (by kernel_rfl) (by kernel_rfl) (fun _ _ _ h => h) rfl ?_ hHeld ?_
            · intro _ _; go_simp
            try simp only [Act.put, List.setIfInBounds_toArray, List.set_cons_zero, List.set_cons_succ]
            refine H_take 3 77 (.pointer (some ⟨N, 32, none⟩)) rfl rfl (by kernel_rfl) (by kernel_rfl) (by kernel_rfl) (fun _ _ _ h => h) rfl ?_ hHeld ?_
            · intro _ _; go_simp
            try simp only [Act.put, List.setIfInBounds_toArray, List.set_cons_zero, List.set_cons_succ]
            refine H_move 4 78 (.pointer (some ⟨q k, 0, none⟩)) rfl (by kernel_rfl) (by kernel_rfl) (by kernel_rfl) (fun _ _ _ h => h) rfl rfl hHeld ?_
            try simp only [Act.put, List.setIfInBounds_toArray, List.set_cons_zero, List.set_cons_succ]
            refine H_load 51 5 79 ta51 (L (subF (ad k) sf)) (L_len HL _) (p8) (0) rfl (by kernel_rfl) (by kernel_rfl) (by kernel_rfl) (fun _ _ _ h => h) rfl rfl (fun w' h => M8.out.only l8 h (.inl n8)) hHeld ?_
            try simp only [Act.put, List.setIfInBounds_toArray, List.set_cons_zero, List.set_cons_succ]
            refine wpAnyH_ready (rs := [6]) (by kernel_rfl) (by simp) ?_
            refine (AllReadyH.cons rfl (fun K hK => ?_) AllReadyH.nil)
            go_simp
            refine (offer_any HL N 32 u0 ⟨q k, 0, none⟩ (subF (ad k) sf) _ (hNu0ok).1 (hNu0ok).2.1 (ok_sub _ _) (hNu0.out.below (below_drew _ x9) lx9) (hNu0ok).2.2).mono ?_
            rintro e x11 ⟨rfl, u0', hOf11, hNn11, hB1⟩
            refine hK.out _ _ (hHeld.trans (hB1.mono (by omega) (by omega))) (fun hHeld => ?_)
            clear hK K
            try simp only [Act.put, List.setIfInBounds_toArray, List.set_cons_zero, List.set_cons_succ]
            refine wpAnyH_done (by kernel_rfl) ?_ _
            have hNu1 : Hid (NearAt L x11 N 75 u1) := hNu1.out.only HL hHeld (.inr (by omega))
            have hNk0 : Hid (NearAt L x11 N 118 k0') := hNk0.out.only HL hHeld (.inr (by omega))
            have hNk1 : Hid (NearAt L x11 N 161 k1') := hNk1.out.only HL hHeld (.inr (by omega))
            have hNu0 : Hid (NearAt L x11 N 32 u0') := hNn11
            have HOf11 := Hid.mk hOf11
            have M8 := Hid.mk (M8.out.only l8 hHeld (.inl n8))
            have M9 := Hid.mk (M9.out.only l9 hHeld (.inl n9))
            have l8 := Nat.lt_of_lt_of_le l8 hHeld.size
            have l9 := Nat.lt_of_lt_of_le l9 hHeld.size
            have HLk := Hid.mk (HLk.out.same (hHeld.block _ lq hqN))
            have lq := Nat.lt_of_lt_of_le lq hHeld.size
            have lx11 : N < x11.heap.size := hNu0.out.lt
            have HO8 := Hid.mk (HO8.out.trans (hHeld.mono (by omega) (by omega)))
            clear hHeld hNn11 hOf11 lx9
            go_wp2_with fail
            refine wp_region_held_drew (S := fun w' => Only N 75 43 x11 w') (by kernel_rfl) (Only.of_below _ _ (below_drew _ x11) lx11) (fun hHeld => ?_)
            refine H_move 0 81 (.pointer (some ⟨N, 0, none⟩)) rfl (by kernel_rfl) (by kernel_rfl) (by kernel_rfl) (fun _ _ _ h => h) rfl rfl hHeld ?_
            try simp only [Act.put, List.setIfInBounds_toArray, List.set_cons_zero, List.set_cons_succ]
            refine H_take 1 82 (.pointer (some ⟨N, 0, none⟩)) rfl rfl (by kernel_rfl) (by kernel_rfl) (by kernel_rfl) (fun _ _ _ h => h) rfl ?_ hHeld ?_
            · intro _ _; go_simp
            try simp only [Act.put, List.setIfInBounds_toArray, List.set_cons_zero, List.set_cons_succ]
            refine H_take 2 83 (.pointer (some ⟨N, 32, none⟩)) rfl rfl (by kernel_rfl) (by kernel_rfl) (by kernel_rfl) (fun _ _ _ h => h) rfl ?_ hHeld ?_
            · intro _ _; go_simp
            try simp only [Act.put, List.setIfInBounds_toArray, List.set_cons_zero, List.set_cons_succ]
            refine H_take 3 84 (.pointer (some ⟨N, 75, none⟩)) rfl rfl (by kernel_rfl) (by kernel_rfl) (by kernel_rfl) (fun _ _ _ h => h) rfl ?_ hHeld ?_
            · intro _ _; go_simp
            try simp only [Act.put, List.setIfInBounds_toArray, List.set_cons_zero, List.set_cons_succ]
            refine H_move 4 85 (.pointer (some ⟨q k, 0, none⟩)) rfl (by kernel_rfl) (by kernel_rfl) (by kernel_rfl) (fun _ _ _ h => h) rfl rfl hHeld ?_
            try simp only [Act.put, List.setIfInBounds_toArray, List.set_cons_zero, List.set_cons_succ]
            refine H_load 51 5 86 ta51 (L (subF sf (ad k))) (L_len HL _) (p9) (0) rfl (by kernel_rfl) (by kernel_rfl) (by kernel_rfl) (fun _ _ _ h => h) rfl rfl (fun w' h => M9.out.only l9 h (.inl n9)) hHeld ?_
            try simp only [Act.put, List.setIfInBounds_toArray, List.set_cons_zero, List.set_cons_succ]
            refine wpAnyH_ready (rs := [6]) (by kernel_rfl) (by simp) ?_
            refine (AllReadyH.cons rfl (fun K hK => ?_) AllReadyH.nil)
            go_simp
            refine (offer_any HL N 75 u1 ⟨q k, 0, none⟩ (subF sf (ad k)) _ (hNu1ok).1 (hNu1ok).2.1 (ok_sub _ _) (hNu1.out.below (below_drew _ x11) lx11) (hNu1ok).2.2).mono ?_
            rintro e x12 ⟨rfl, u1', hOf12, hNn12, hB1⟩
            refine hK.out _ _ (hHeld.trans (hB1.mono (by omega) (by omega))) (fun hHeld => ?_)
            clear hK K
            try simp only [Act.put, List.setIfInBounds_toArray, List.set_cons_zero, List.set_cons_succ]
            refine wpAnyH_done (by kernel_rfl) ?_ _
            have hNu0 : Hid (NearAt L x12 N 32 u0') := hNu0.out.only HL hHeld (.inr (by omega))
            have hNk0 : Hid (NearAt L x12 N 118 k0') := hNk0.out.only HL hHeld (.inr (by omega))
            have hNk1 : Hid (NearAt L x12 N 161 k1') := hNk1.out.only HL hHeld (.inr (by omega))
            have hNu1 : Hid (NearAt L x12 N 75 u1') := hNn12
            have HOf12 := Hid.mk hOf12
            have M8 := Hid.mk (M8.out.only l8 hHeld (.inl n8))
            have M9 := Hid.mk (M9.out.only l9 hHeld (.inl n9))
            have l8 := Nat.lt_of_lt_of_le l8 hHeld.size
            have l9 := Nat.lt_of_lt_of_le l9 hHeld.size
            have HLk := Hid.mk (HLk.out.same (hHeld.block _ lq hqN))
            have lq := Nat.lt_of_lt_of_le lq hHeld.size
            have lx12 : N < x12.heap.size := hNu1.out.lt
            have HO8 := Hid.mk (HO8.out.trans (hHeld.mono (by omega) (by omega)))
            clear hHeld hNn12 hOf12 lx11
            clear hcs
            go_wp2_with fail
            go_roundw
            case rel =>
              refine ⟨k + 1, by omega, by go_num, HO8.out, u0', u1', k0', k1', ⟨⟨u0, HRn.out.1, ?_⟩, ⟨u1, HRn.out.2.1, ?_⟩, ⟨k0, HRn.out.2.2.1, ?_⟩, ⟨k1, HRn.out.2.2.2, ?_⟩⟩, hNu0.out, hNu1.out, hNk0.out, hNk1.out⟩
              · rw [if_pos (by simp [H1.out, hst])]; exact HOf11.out
              · rw [if_pos (by simp [H1.out, hst])]; exact HOf12.out
              · rw [if_pos H1.out]; exact HOf8.out
              · rw [if_pos H1.out]; exact HOf9.out
            case measure => simp [intOf]; omega
          · go_wp2_with fail
            go_roundw
            case rel =>
              refine ⟨k + 1, by omega, by go_num, HO8.out, u0, u1, k0', k1', ⟨⟨u0, HRn.out.1, ?_⟩, ⟨u1, HRn.out.2.1, ?_⟩, ⟨k0, HRn.out.2.2.1, ?_⟩, ⟨k1, HRn.out.2.2.2, ?_⟩⟩, hNu0.out, hNu1.out, hNk0.out, hNk1.out⟩
              · rw [if_neg (by simp [hst])]
              · rw [if_neg (by simp [hst])]
              · rw [if_pos H1.out]; exact HOf8.out
              · rw [if_pos H1.out]; exact HOf9.out
            case measure => simp [intOf]; omega
      · have hkf : kn k = false := by simpa using hkk
        rw [hkf] at hck
        go_wp2_with fail
        go_roundw
        case rel =>
          refine ⟨k + 1, by omega, by go_num, HO.out, u0, u1, k0, k1, ⟨⟨u0, HRn.out.1, ?_⟩, ⟨u1, HRn.out.2.1, ?_⟩, ⟨k0, HRn.out.2.2.1, ?_⟩, ⟨k1, HRn.out.2.2.2, ?_⟩⟩, hNu0.out, hNu1.out, hNk0.out, hNk1.out⟩
          · rw [if_neg (by simp [hkf])]
          · rw [if_neg (by simp [hkf])]
          · rw [if_neg hkk]
          · rw [if_neg hkk]
        case measure => simp [intOf]; omega
    · have hkk : k = n := by omega
      subst hkk
      have hc204 := (HO.out.cell 204 (by omega)).trans H204.out
      have hf204 := hNu0.out.fr 204
      have hNu0ok := Run.ok (fun i => ok_sub _ _) k u0 HRn.out.1
      have hNu1ok := Run.ok (fun i => ok_sub _ _) k u1 HRn.out.2.1
      have hNk0ok := Run.ok (fun i => ok_sub _ _) k k0 HRn.out.2.2.1
      have hNk1ok := Run.ok (fun i => ok_sub _ _) k k1 HRn.out.2.2.2
      have BR : Hid (Below B w wr) := BW.out.trans (HO.out.below hBN (Nat.le_trans hBw sBW))
      have HP4 : Hid (Mem wr p4 0 (nearL L Nr.zero)) := HP4.out.only l4 HO.out (.inl n4)
      have HP5 : Hid (Mem wr p5 0 (nearL L Nr.zero)) := HP5.out.only l5 HO.out (.inl n5)
      have l4 := Nat.lt_of_lt_of_le l4 HO.out.size
      have l5 := Nat.lt_of_lt_of_le l5 HO.out.size
      cases up with
      | true =>
        go_wp2_with fail
        obtain ⟨v9, hv9⟩ : ∃ V, V = wr.setCell ⟨N, 204, none⟩ (.bool true) := ⟨_, rfl⟩
        rw [← hv9]
        have o9 : Only N 204 1 wr v9 := by rw [hv9]; exact Only.setCell _ _ (Nat.le_refl _) (by omega)
        clear hv9
        have HA0 : Hid (Mem v9 N 32 (nearL L u0)) := (hNu0.out.only HL o9 (.inr (by omega))).mem HL
        have HA1 : Hid (Mem v9 N 75 (nearL L u1)) := (hNu1.out.only HL o9 (.inr (by omega))).mem HL
        have hc0 := Hid.mk hNu0ok.2.2
        have hc1 := Hid.mk hNu1ok.2.2
        have HP4 : Hid (Mem v9 p4 0 (nearL L Nr.zero)) := HP4.out.only l4 o9 (.inl n4)
        have HP5 : Hid (Mem v9 p5 0 (nearL L Nr.zero)) := HP5.out.only l5 o9 (.inl n5)
        have l4 := Nat.lt_of_lt_of_le l4 o9.size
        have l5 := Nat.lt_of_lt_of_le l5 o9.size
        have hw9 : w.heap.size ≤ v9.heap.size := Nat.le_trans BR.out.size o9.size
        have B9 : Hid (Below B w v9) := BR.out.trans (o9.below hBN (Nat.le_trans hBw BR.out.size))
        have lv9 : N < w.heap.size := hNw
        have HK9 : Hid (Links L v9 B N (.slice la k lc) k q ad kn st) := HKr.out.only o9
        clear o9 hc204 hf204
        refine wp_region_held_drew (S := fun w' => Below w.heap.size v9 w') (by kernel_rfl) (below_drew _ v9) (fun hHeld => ?_)
        refine H_move 0 93 (.pointer (some ⟨N, 0, none⟩)) rfl (by kernel_rfl) (by kernel_rfl) (by kernel_rfl) (fun _ _ _ h => h) rfl rfl hHeld ?_
        try simp only [Act.put, List.setIfInBounds_toArray, List.set_cons_zero, List.set_cons_succ]
        refine H_take 1 94 (.pointer (some ⟨N, 0, none⟩)) rfl rfl (by kernel_rfl) (by kernel_rfl) (by kernel_rfl) (fun _ _ _ h => h) rfl ?_ hHeld ?_
        · intro _ _; go_simp
        try simp only [Act.put, List.setIfInBounds_toArray, List.set_cons_zero, List.set_cons_succ]
        refine H_take 2 95 (.pointer (some ⟨N, 32, none⟩)) rfl rfl (by kernel_rfl) (by kernel_rfl) (by kernel_rfl) (fun _ _ _ h => h) rfl ?_ hHeld ?_
        · intro _ _; go_simp
        try simp only [Act.put, List.setIfInBounds_toArray, List.set_cons_zero, List.set_cons_succ]
        refine H_take 3 96 (.pointer (some ⟨N, 32, none⟩)) rfl rfl (by kernel_rfl) (by kernel_rfl) (by kernel_rfl) (fun _ _ _ h => h) rfl ?_ hHeld ?_
        · intro _ _; go_simp
        try simp only [Act.put, List.setIfInBounds_toArray, List.set_cons_zero, List.set_cons_succ]
        refine H_load 54 4 97 ta54 (nearL L u0) (nearL_len HL _) (N) (32) rfl (by kernel_rfl) (by kernel_rfl) (by kernel_rfl) (fun _ _ _ h => h) rfl rfl (fun w' h => (HA0.out.below h lv9)) hHeld ?_
        try simp only [Act.put, List.setIfInBounds_toArray, List.set_cons_zero, List.set_cons_succ]
        refine H_move 5 98 (.pointer (some ⟨N, 0, none⟩)) rfl (by kernel_rfl) (by kernel_rfl) (by kernel_rfl) (fun _ _ _ h => h) rfl rfl hHeld ?_
        try simp only [Act.put, List.setIfInBounds_toArray, List.set_cons_zero, List.set_cons_succ]
        refine H_take 6 99 (.pointer (some ⟨N, 0, none⟩)) rfl rfl (by kernel_rfl) (by kernel_rfl) (by kernel_rfl) (fun _ _ _ h => h) rfl ?_ hHeld ?_
        · intro _ _; go_simp
        try simp only [Act.put, List.setIfInBounds_toArray, List.set_cons_zero, List.set_cons_succ]
        refine H_take 7 100 (.pointer (some ⟨N, 32, none⟩)) rfl rfl (by kernel_rfl) (by kernel_rfl) (by kernel_rfl) (fun _ _ _ h => h) rfl ?_ hHeld ?_
        · intro _ _; go_simp
        try simp only [Act.put, List.setIfInBounds_toArray, List.set_cons_zero, List.set_cons_succ]
        refine H_take 8 101 (.pointer (some ⟨N, 75, none⟩)) rfl rfl (by kernel_rfl) (by kernel_rfl) (by kernel_rfl) (fun _ _ _ h => h) rfl ?_ hHeld ?_
        · intro _ _; go_simp
        try simp only [Act.put, List.setIfInBounds_toArray, List.set_cons_zero, List.set_cons_succ]
        refine H_load 54 9 102 ta54 (nearL L u1) (nearL_len HL _) (N) (75) rfl (by kernel_rfl) (by kernel_rfl) (by kernel_rfl) (fun _ _ _ h => h) rfl rfl (fun w' h => (HA1.out.below h lv9)) hHeld ?_
        try simp only [Act.put, List.setIfInBounds_toArray, List.set_cons_zero, List.set_cons_succ]
        refine wpAnyH_ready (rs := [10]) (by kernel_rfl) (by simp) ?_
        refine (AllReadyH.cons rfl (fun K hK => ?_) AllReadyH.nil)
        rw [if_pos (by rfl)]
        simp only [List.getElem_toArray, List.getElem_cons_zero, List.getElem_cons_succ]
        with_reducible refine S_store 54 4 97 ta54 (nearL L u0) (nearL L Nr.zero) (nearL_len HL _) (nearL_len HL _) (nearL_one HL _ hc0.out) p4 0 ?_ ?_ (HP4.out.below (below_drew _ v9) l4) ?_
        · rfl
        · rfl
        intro y4 m4 o4
        have m5 := (HP5.out.below (below_drew _ v9) l5).only l5 o4 (.inl n45.symm)
        have l4 := Nat.lt_of_lt_of_le l4 o4.size
        refine hK.out _ _ (hHeld.trans (o4.below q4 (Nat.le_trans hw9 hHeld.size))) (fun hHeld => ?_)
        clear hK K
        try simp only [Act.put]
        refine wpAnyH_ready (rs := [11]) (by kernel_rfl) (by simp) ?_
        refine (AllReadyH.cons rfl (fun K hK => ?_) AllReadyH.nil)
        rw [if_pos (by rfl)]
        simp only [List.getElem_toArray, List.getElem_cons_zero, List.getElem_cons_succ]
        with_reducible refine S_store 54 5 102 ta54 (nearL L u1) (nearL L Nr.zero) (nearL_len HL _) (nearL_len HL _) (nearL_one HL _ hc1.out) p5 0 ?_ ?_ m5 ?_
        · rfl
        · rfl
        intro y5 m5 o5
        have m4 := m4.only l4 o5 (.inl n45)
        refine hK.out _ _ (hHeld.trans (o5.below q5 (Nat.le_trans hw9 hHeld.size))) (fun hHeld => ?_)
        clear hK K
        try simp only [Act.put]
        refine wpAnyH_done (by kernel_rfl) ?_ _
        go_wp2_with fail
        refine bodyPost_ret (R_results2 ta54 ta54 Try.results25 _ _ p4 0 p5 0 (nearL L u0) (nearL L u1) (nearL_len HL _) (nearL_len HL _) rfl rfl m4 m5) rfl ⟨u0, u1, rfl, ?_, ?_, B9.out.trans (hHeld.mono hBw), HK9.out.keep (C := w.heap.size) (fun b hb _ => hHeld.block b hb) HC.out.1 HC.out.2⟩
        · have h := HRn.out; simpa using h.1
        · have h := HRn.out; simpa using h.2.1
      | false =>
        go_wp2_with fail
        obtain ⟨v9, hv9⟩ : ∃ V, V = wr.setCell ⟨N, 204, none⟩ (.bool true) := ⟨_, rfl⟩
        rw [← hv9]
        have o9 : Only N 204 1 wr v9 := by rw [hv9]; exact Only.setCell _ _ (Nat.le_refl _) (by omega)
        clear hv9
        have HA0 : Hid (Mem v9 N 118 (nearL L k0)) := (hNk0.out.only HL o9 (.inr (by omega))).mem HL
        have HA1 : Hid (Mem v9 N 161 (nearL L k1)) := (hNk1.out.only HL o9 (.inr (by omega))).mem HL
        have hc0 := Hid.mk hNk0ok.2.2
        have hc1 := Hid.mk hNk1ok.2.2
        have HP4 : Hid (Mem v9 p4 0 (nearL L Nr.zero)) := HP4.out.only l4 o9 (.inl n4)
        have HP5 : Hid (Mem v9 p5 0 (nearL L Nr.zero)) := HP5.out.only l5 o9 (.inl n5)
        have l4 := Nat.lt_of_lt_of_le l4 o9.size
        have l5 := Nat.lt_of_lt_of_le l5 o9.size
        have hw9 : w.heap.size ≤ v9.heap.size := Nat.le_trans BR.out.size o9.size
        have B9 : Hid (Below B w v9) := BR.out.trans (o9.below hBN (Nat.le_trans hBw BR.out.size))
        have lv9 : N < w.heap.size := hNw
        have HK9 : Hid (Links L v9 B N (.slice la k lc) k q ad kn st) := HKr.out.only o9
        clear o9 hc204 hf204
        refine wp_region_held_drew (S := fun w' => Below w.heap.size v9 w') (by kernel_rfl) (below_drew _ v9) (fun hHeld => ?_)
        refine H_move 0 103 (.pointer (some ⟨N, 0, none⟩)) rfl (by kernel_rfl) (by kernel_rfl) (by kernel_rfl) (fun _ _ _ h => h) rfl rfl hHeld ?_
        try simp only [Act.put, List.setIfInBounds_toArray, List.set_cons_zero, List.set_cons_succ]
        refine H_take 1 104 (.pointer (some ⟨N, 0, none⟩)) rfl rfl (by kernel_rfl) (by kernel_rfl) (by kernel_rfl) (fun _ _ _ h => h) rfl ?_ hHeld ?_
        · intro _ _; go_simp
        try simp only [Act.put, List.setIfInBounds_toArray, List.set_cons_zero, List.set_cons_succ]
        refine H_take 2 105 (.pointer (some ⟨N, 118, none⟩)) rfl rfl (by kernel_rfl) (by kernel_rfl) (by kernel_rfl) (fun _ _ _ h => h) rfl ?_ hHeld ?_
        · intro _ _; go_simp
        try simp only [Act.put, List.setIfInBounds_toArray, List.set_cons_zero, List.set_cons_succ]
        refine H_take 3 106 (.pointer (some ⟨N, 118, none⟩)) rfl rfl (by kernel_rfl) (by kernel_rfl) (by kernel_rfl) (fun _ _ _ h => h) rfl ?_ hHeld ?_
        · intro _ _; go_simp
        try simp only [Act.put, List.setIfInBounds_toArray, List.set_cons_zero, List.set_cons_succ]
        refine H_load 54 4 107 ta54 (nearL L k0) (nearL_len HL _) (N) (118) rfl (by kernel_rfl) (by kernel_rfl) (by kernel_rfl) (fun _ _ _ h => h) rfl rfl (fun w' h => (HA0.out.below h lv9)) hHeld ?_
        try simp only [Act.put, List.setIfInBounds_toArray, List.set_cons_zero, List.set_cons_succ]
        refine H_move 5 108 (.pointer (some ⟨N, 0, none⟩)) rfl (by kernel_rfl) (by kernel_rfl) (by kernel_rfl) (fun _ _ _ h => h) rfl rfl hHeld ?_
        try simp only [Act.put, List.setIfInBounds_toArray, List.set_cons_zero, List.set_cons_succ]
        refine H_take 6 109 (.pointer (some ⟨N, 0, none⟩)) rfl rfl (by kernel_rfl) (by kernel_rfl) (by kernel_rfl) (fun _ _ _ h => h) rfl ?_ hHeld ?_
        · intro _ _; go_simp
        try simp only [Act.put, List.setIfInBounds_toArray, List.set_cons_zero, List.set_cons_succ]
        refine H_take 7 110 (.pointer (some ⟨N, 118, none⟩)) rfl rfl (by kernel_rfl) (by kernel_rfl) (by kernel_rfl) (fun _ _ _ h => h) rfl ?_ hHeld ?_
        · intro _ _; go_simp
        try simp only [Act.put, List.setIfInBounds_toArray, List.set_cons_zero, List.set_cons_succ]
        refine H_take 8 111 (.pointer (some ⟨N, 161, none⟩)) rfl rfl (by kernel_rfl) (by kernel_rfl) (by kernel_rfl) (fun _ _ _ h => h) rfl ?_ hHeld ?_
        · intro _ _; go_simp
        try simp only [Act.put, List.setIfInBounds_toArray, List.set_cons_zero, List.set_cons_succ]
        refine H_load 54 9 112 ta54 (nearL L k1) (nearL_len HL _) (N) (161) rfl (by kernel_rfl) (by kernel_rfl) (by kernel_rfl) (fun _ _ _ h => h) rfl rfl (fun w' h => (HA1.out.below h lv9)) hHeld ?_
        try simp only [Act.put, List.setIfInBounds_toArray, List.set_cons_zero, List.set_cons_succ]
        refine wpAnyH_ready (rs := [10]) (by kernel_rfl) (by simp) ?_
        refine (AllReadyH.cons rfl (fun K hK => ?_) AllReadyH.nil)
        rw [if_pos (by rfl)]
        simp only [List.getElem_toArray, List.getElem_cons_zero, List.getElem_cons_succ]
        with_reducible refine S_store 54 4 107 ta54 (nearL L k0) (nearL L Nr.zero) (nearL_len HL _) (nearL_len HL _) (nearL_one HL _ hc0.out) p4 0 ?_ ?_ (HP4.out.below (below_drew _ v9) l4) ?_
        · rfl
        · rfl
        intro y4 m4 o4
        have m5 := (HP5.out.below (below_drew _ v9) l5).only l5 o4 (.inl n45.symm)
        have l4 := Nat.lt_of_lt_of_le l4 o4.size
        refine hK.out _ _ (hHeld.trans (o4.below q4 (Nat.le_trans hw9 hHeld.size))) (fun hHeld => ?_)
        clear hK K
        try simp only [Act.put]
        refine wpAnyH_ready (rs := [11]) (by kernel_rfl) (by simp) ?_
        refine (AllReadyH.cons rfl (fun K hK => ?_) AllReadyH.nil)
        rw [if_pos (by rfl)]
        simp only [List.getElem_toArray, List.getElem_cons_zero, List.getElem_cons_succ]
        with_reducible refine S_store 54 5 112 ta54 (nearL L k1) (nearL L Nr.zero) (nearL_len HL _) (nearL_len HL _) (nearL_one HL _ hc1.out) p5 0 ?_ ?_ m5 ?_
        · rfl
        · rfl
        intro y5 m5 o5
        have m4 := m4.only l4 o5 (.inl n45)
        refine hK.out _ _ (hHeld.trans (o5.below q5 (Nat.le_trans hw9 hHeld.size))) (fun hHeld => ?_)
        clear hK K
        try simp only [Act.put]
        refine wpAnyH_done (by kernel_rfl) ?_ _
        go_wp2_with fail
        refine bodyPost_ret (R_results2 ta54 ta54 Try.results25 _ _ p4 0 p5 0 (nearL L k0) (nearL L k1) (nearL_len HL _) (nearL_len HL _) rfl rfl m4 m5) rfl ⟨k0, k1, rfl, ?_, ?_, B9.out.trans (hHeld.mono hBw), HK9.out.keep (C := w.heap.size) (fun b hb _ => hHeld.block b hb) HC.out.1 HC.out.2⟩
        · have h := HRn.out; simpa using h.2.2.1
        · have h := HRn.out; simpa using h.2.2.2
end Go.Proofs.Qxb6609493a
