import Derived.Test.Qxb6609493aSides
namespace Go.Proofs.Qxb6609493a
open Go.RowKit

/-- The offset of an address on a side. -/
def offF (c : Bool) (sf a : Nat → Int) : Nat → Int := if c then subF a sf else subF sf a
theorem ok_off (c : Bool) (sf a : Nat → Int) : Ok (offF c sf a) := by unfold offF; split <;> exact ok_sub _ _

set_option maxHeartbeats 1000000 in
/-- ovB1Offset. -/
theorem offset_any {L : (Nat → Int) → List Value} (HL : IsL L) (sf a : Nat → Int) (c : Bool) (w : World) (hs : Hid (Ok sf)) (ha : Hid (Ok a)) :
    Calls Try.prog 26 #[.agg (L sf).toArray, .agg (L a).toArray, .bool c] w fun e w' => e = .returned (.agg (L (offF c sf a)).toArray) ∧ Below w.heap.size w w' := by
  cases c with
  | true =>
    show Calls Try.prog 26 _ w fun e w' => e = .returned (.agg (L (subF a sf)).toArray) ∧ Below w.heap.size w w'
    go_enter Try.func26, Try.ntmps26
    go_wp2_with (first | ((with_reducible refine D_box 30 3 (L sf) ?_ ?_); (rfl); (intro p3 w3 g3 l3 m3 B3)) | ((with_reducible refine D_box 30 4 (L a) ?_ ?_); (rfl); (intro p4 w4 g4 l4 m4 B4)) | ((with_reducible refine D_new 30 6 _ (L_zero HL).1 ?_); (intro p6 w6 g6 l6 m6 B6)) | ((with_reducible refine D_load 30 8 ta30 (L a) (L_len HL _) p4 0 ?_ ?_ ?_); (rfl); (exact m4.below B6 l4)) | ((with_reducible refine D_load 30 9 ta30 (L sf) (L_len HL _) p3 0 ?_ ?_ ?_); (rfl); (exact m3.below (bl B4 B6) l3)))
    refine (ovSub_any HL a sf _ ha hs).mono ?_
    rintro e w7 ⟨rfl, B7⟩
    go_wp2_with ((with_reducible refine D_store 30 6 10 ta30 (L (subF a sf)) (L fun _ => 0) (L_len HL _) (L_len HL _) (L_one HL _) p6 0 ?_ ?_ ?_ ?_); (rfl); (rfl); (exact m6.below B7 l6); (intro w9 m9 o9))
    exact bodyPost_ret (R_results ta30 Try.results26 _ _ p6 0 (L (subF a sf)) (L_len HL _) rfl m9) rfl ⟨rfl, bo (bl (bl (bl B3 B4) B6) B7) o9 (Nat.le_trans (bl B3 B4).size g6)⟩
  | false =>
    show Calls Try.prog 26 _ w fun e w' => e = .returned (.agg (L (subF sf a)).toArray) ∧ Below w.heap.size w w'
    go_enter Try.func26, Try.ntmps26
    go_wp2_with (first | ((with_reducible refine D_box 30 3 (L sf) ?_ ?_); (rfl); (intro p3 w3 g3 l3 m3 B3)) | ((with_reducible refine D_box 30 4 (L a) ?_ ?_); (rfl); (intro p4 w4 g4 l4 m4 B4)) | ((with_reducible refine D_new 30 6 _ (L_zero HL).1 ?_); (intro p6 w6 g6 l6 m6 B6)) | ((with_reducible refine D_load 30 12 ta30 (L a) (L_len HL _) p4 0 ?_ ?_ ?_); (rfl); (exact m4.below B6 l4)) | ((with_reducible refine D_load 30 11 ta30 (L sf) (L_len HL _) p3 0 ?_ ?_ ?_); (rfl); (exact m3.below (bl B4 B6) l3)))
    refine (ovSub_any HL sf a _ hs ha).mono ?_
    rintro e w7 ⟨rfl, B7⟩
    go_wp2_with ((with_reducible refine D_store 30 6 13 ta30 (L (subF sf a)) (L fun _ => 0) (L_len HL _) (L_len HL _) (L_one HL _) p6 0 ?_ ?_ ?_ ?_); (rfl); (rfl); (exact m6.below B7 l6); (intro w9 m9 o9))
    exact bodyPost_ret (R_results ta30 Try.results26 _ _ p6 0 (L (subF sf a)) (L_len HL _) rfl m9) rfl ⟨rfl, bo (bl (bl (bl B3 B4) B6) B7) o9 (Nat.le_trans (bl B3 B4).size g6)⟩

section
variable {ops : Array Oper} {rest : List Oper} {a : Act} {w : World} {Q : Exit → Act → World → Prop}
/-- A new variable, nothing of its block frozen. -/
theorem D_newF (t k : Nat) {ty : TypeId} {pos : String} {after : Array Edge} (vs : List Value) (hz : ∀ w, (zeroValue t).run Try.prog w = .ok (.agg vs.toArray) w)
    (h : ∀ p w', w.heap.size ≤ p → p < w'.heap.size → Mem w' p 0 vs → (∀ j, w'.frozen? ⟨p, j, none⟩ = false) → Below w.heap.size w w' → wpList Try.prog ops Q rest (a.put (some k) (.pointer (some ⟨p, 0, none⟩))) w') : wpList Try.prog ops Q ({ dst := some k, op := .alloc t, type := ty, pos := pos, after := after, guard := none } :: rest) a w :=
  wpList_plain rfl fun K' hK => by
    have hN := new_block (w := w) (p := w.heap.size) t vs rfl
    unfold Oper.wp
    simp only [execOp, Instr.alloc, Sem.run_bind, hz, Result.andThen_ok, newVar, newRow, Value.cells]
    exact hK _ _ (h w.heap.size (w.alloc (.cells vs.toArray t)) (Nat.le_refl _) hN.1 hN.2.1 (fun j => frozen_of_row _ _ j _ _ (heap_alloc_new w _)) hN.2.2)
end

/-- ZZNearestCount. -/
theorem count_near {L : (Nat → Int) → List Value} (b o : Nat) (s : Nr) (w : World) (h : Hid (NearAt L w b o s)) :
    Calls Try.prog 15 #[.pointer (some ⟨b, o, none⟩)] w fun e w' => e = .returned (.int .i64 s.n) ∧ w' = w := by
  have hc := h.out.n
  go_enter Try.func15, Try.ntmps15
  go_wp2_with fail
  go_ret
  exact ⟨rfl, rfl⟩

set_option maxHeartbeats 1000000 in
/-- ZZNearestOffset. -/
theorem offset_near {L : (Nat → Int) → List Value} (HL : IsL L) (b o : Nat) (s : Nr) (k : Nat) (hk : k < 2) (w : World) (h : Hid (NearAt L w b o s)) :
    Calls Try.prog 16 #[.pointer (some ⟨b, o, none⟩), .int .i64 k] w fun e w' => e = .returned (.agg (L (s.r k)).toArray) ∧ Below w.heap.size w w' := by
  have h0 : (0 : Int) ≤ (k : Int) := by omega
  have h1 : (k : Int) < 2 := by omega
  have hl := h.out.lt
  go_enter Try.func16, Try.ntmps16
  go_wp2_with (first | ((with_reducible refine D_new 30 4 _ (L_zero HL).1 ?_); (intro p4 w4 g4 l4 m4 B4)) | ((with_reducible refine D_load 51 10 ta51 (L (s.r k)) (L_len HL _) b (o + 2 + k * 20) ?_ ?_ ?_); (rfl); (exact (h.out.r k hk).below B4 hl)) | ((with_reducible refine D_store 30 4 10 ta30 (L (s.r k)) (L fun _ => 0) (L_len HL _) (L_len HL _) (L_one HL _) p4 0 ?_ ?_ ?_ ?_); (rfl); (rfl); (exact m4); (intro w9 m9 o9)))
  exact bodyPost_ret (R_results ta30 Try.results16 _ _ p4 0 (L (s.r k)) (L_len HL _) rfl m9) rfl ⟨rfl, bo B4 o9 g4⟩

/-- ZZNearestLinkMade. -/
theorem made_near {L : (Nat → Int) → List Value} (b o : Nat) (s : Nr) (k p : Nat) (i : Int) (hk : k < 2) (w : World) (h : Hid (NearAt L w b o s)) (hp : s.p k = .pointer (some ⟨p, 0, none⟩)) (hc : w.cell? ⟨p, 2, none⟩ = some (.int .u64 i)) :
    Calls Try.prog 27 #[.pointer (some ⟨b, o, none⟩), .int .i64 k] w fun e w' => e = .returned (.int .u64 i) ∧ w' = w := by
  have h0 : (0 : Int) ≤ (k : Int) := by omega
  have h1 : (k : Int) < 2 := by omega
  have hk' := h.out.p k hk
  rw [hp] at hk'
  go_enter Try.func27, Try.ntmps27
  go_wp2_with fail
  go_ret
  exact ⟨rfl, rfl⟩

set_option maxHeartbeats 2000000 in
/-- ZZNodeSides. -/
theorem nodeSides_any {L : (Nat → Int) → List Value} (HL : IsL L) (B N : Nat) (sf : Nat → Int) (lv : Value) (n : Nat) (q : Nat → Nat) (ad : Nat → Nat → Int) (kn : Nat → Bool) (st : Nat → Int) (up : Bool) (w : World) (hn : n ≤ 20000) (hBw : B ≤ w.heap.size) (hBN : B ≤ N)
    (hM : Hid (NodeM L w N sf lv)) (hK : Hid (Links L w B N lv n q ad kn st)) (hok : Hid (∀ i, Ok (ad i))) (hsf : Hid (Ok sf)) :
    Calls Try.prog 20 #[.pointer (some ⟨N, 0, none⟩), .bool up] w fun e w' => ∃ s0 s1 b0 b1, e = .returned (.tuple #[.pointer (some ⟨b0, 0, none⟩), .pointer (some ⟨b1, 0, none⟩)]) ∧
      Run (fun i => kn i && (!up || st i == 2)) (fun i => subF (ad i) sf) q n s0 ∧ Run (fun i => kn i && (!up || st i == 2)) (fun i => subF sf (ad i)) q n s1 ∧ Below B w w' ∧ Links L w' B N lv n q ad kn st ∧ NearAt L w' b0 0 s0 ∧ NearAt L w' b1 0 s1 := by
  go_enter Try.func20, Try.ntmps20
  go_wp2_with fail
  refine (sides_any HL B N sf lv n q ad kn st up _ hn hBw hBN hM hK hok hsf).mono ?_
  rintro e w1 ⟨s0, s1, rfl, R0, R1, B1, K1⟩
  have R0 : Hid _ := R0
  have R1 : Hid _ := R1
  have c0 := Hid.mk (Run.ok (fun i => ok_sub _ _) n s0 R0).2.2
  have c1 := Hid.mk (Run.ok (fun i => ok_sub _ _) n s1 R1).2.2
  have K1 := Hid.mk K1
  go_wp2_with (first | ((with_reducible refine D_newF 54 6 _ (zero54 HL) ?_); (intro p6 w6 g6 l6 m6 f6 B6)) | ((with_reducible refine D_newF 54 7 _ (zero54 HL) ?_); (intro p7 w7 g7 l7 m7 f7 B7)) | ((with_reducible refine D_store 54 6 12 ta54 (nearL L s0) (nearL L Nr.zero) (nearL_len HL _) (nearL_len HL _) (nearL_one HL _ c0.out) p6 0 ?_ ?_ ?_ ?_); (rfl); (rfl); (exact m6.below B7 l6); (intro w8 m8 o8)) | ((with_reducible refine D_store 54 7 13 ta54 (nearL L s1) (nearL L Nr.zero) (nearL_len HL _) (nearL_len HL _) (nearL_one HL _ c1.out) p7 0 ?_ ?_ ?_ ?_); (rfl); (rfl); (exact m7.only l7 o8 (.inl (by omega))); (intro w9 m9 o9)))
  go_ret2
  have n67 : p6 ≠ p7 := by omega
  have q6 : w1.heap.size ≤ p6 := g6
  have q7 : w1.heap.size ≤ p7 := Nat.le_trans B6.size g7
  have E : Below w1.heap.size w1 w9 := bo (bo (bl B6 B7) o8 q6) o9 q7
  refine ⟨s0, s1, p6, p7, rfl, R0, R1, ?_, K1.out.below E, NearAt.of_mem HL (m8.only (Nat.lt_of_lt_of_le (Nat.lt_of_lt_of_le l6 B7.size) o8.size) o9 (.inl n67)) fun j => ?_, NearAt.of_mem HL m9 fun j => ?_⟩
  · exact B1.trans ⟨E.os, E.tape, E.output, E.size, fun i hi => E.block i (Nat.lt_of_lt_of_le hi (Nat.le_trans hBw B1.size))⟩
  · rw [o9.frozen_far (Nat.lt_of_lt_of_le (Nat.lt_of_lt_of_le l6 B7.size) o8.size) n67, o8.frozen, B7.frozen (p := ⟨p6, j, none⟩) l6]; exact f6 j
  · rw [o9.frozen, o8.frozen_far l7 n67.symm]; exact f7 j
end Go.Proofs.Qxb6609493a
