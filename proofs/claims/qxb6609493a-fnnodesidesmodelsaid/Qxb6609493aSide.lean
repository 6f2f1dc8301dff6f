import Derived.Test.Qxb6609493aFm
namespace Go.Proofs.Qxb6609493a
open Go.RowKit

def idx : Option Nat → Int
  | none => -1
  | some j => (j : Int)
def offO (off : Nat → Nat → Int) : Option Nat → Nat → Int
  | none => fun _ => 0
  | some j => off j
theorem L_equal30 {L : (Nat → Int) → List Value} (HL : IsL L) (r : Nat → Int) (hr : Ok r) (w : World) : (Op.equalIn 10000 30 (.agg (L r).toArray) (.agg (L r).toArray)).run Try.prog w = .ok true w := by
  rw [HL r, run_equal20 30 Try.underlying30 9998 r r w, eqF_V hr hr]; simp

set_option maxHeartbeats 16000000 in
set_option maxRecDepth 100000 in
/-- ovB1SideMatches. -/
theorem side_any {L : (Nat → Int) → List Value} (HL : IsL L) (b0 : Nat) (s : Nr) (sf : Nat → Int) (n : Nat) (aA kA sA : Option Addr) (aC kC sC : Nat) (ad : Nat → Nat → Int) (kn : Nat → Bool) (st : Nat → Int) (up c : Bool) (q : Nat → Nat) (el : Nat → Bool) (off : Nat → Nat → Int) (w : World) (hn : n ≤ 20000)
    (HI : Hid (Ins w n aA kA sA ad kn st)) (hok : Hid (∀ i, Ok (ad i))) (hsf : Hid (Ok sf)) (hel : Hid (∀ i, el i = (kn i && (!up || st i == 2)))) (hoff : Hid (∀ i, off i = offF c sf (ad i)))
    (hN : Hid (NearAt L w b0 0 s)) (hS : Hid (Spec el off q n s)) (hQ : Hid (∀ i, i < n → w.cell? ⟨q i, 2, none⟩ = some (.int .u64 (i : Int)))) :
    Calls Try.prog 21 #[.pointer (some ⟨b0, 0, none⟩), .agg (L sf).toArray, .slice aA n aC, .slice kA n kC, .slice sA n sC, .bool up, .bool c] w fun e w' => e = .returned (.bool true) ∧ Below w.heap.size w w' := by
  have hoko : Hid (∀ i, Ok (off i)) := fun i => by rw [hoff.out i]; exact ok_off _ _ _
  have hI0 : (0 : Int) ≤ (n : Int) := by omega
  go_enter Try.func21, Try.ntmps21
  go_wp2_with (first | ((with_reducible refine D_box 30 8 (L sf) ?_ ?_); (rfl); (intro p8 w8 g8 l8 m8 B8)) | ((with_reducible refine D_new 30 17 _ (L_zero HL).1 ?_); (intro p17 w17 g17 l17 m17 B17)) | ((with_reducible refine D_new 30 18 _ (L_zero HL).1 ?_); (intro p18 w18 g18 l18 m18 B18)))
  have M8' : Hid (Mem w18 p8 0 (L sf)) := m8.below (bl B17 B18) l8
  have M17' : Hid (Mem w18 p17 0 (L fun _ => 0)) := m17.below B18 l17
  have M18' : Hid (Mem w18 p18 0 (L fun _ => 0)) := m18
  have BW : Hid (Below w.heap.size w w18) := bl (bl B8 B17) B18
  have n8 : p8 ≠ p17 := by omega
  have n88 : p8 ≠ p18 := by have := B17.size; omega
  have n17 : p17 ≠ p18 := by omega
  have q17 : w.heap.size ≤ p17 := Nat.le_trans B8.size g17
  have q18 : w.heap.size ≤ p18 := Nat.le_trans (bl B8 B17).size g18
  have l8' : p8 < w18.heap.size := Nat.lt_of_lt_of_le l8 (bl B17 B18).size
  have l17' : p17 < w18.heap.size := Nat.lt_of_lt_of_le l17 B18.size
  have l18' : p18 < w18.heap.size := l18
  have hbw : w.heap.size ≤ w18.heap.size := BW.out.size
  clear m8 m17 m18 B8 B17 B18 g8 g17 g18 l8 l17 l18
  go_loopw [15, 19] (fun v15 v19 wr => ∃ (k : Nat) (m : Option Nat), k ≤ n ∧ v15 = .int .i64 (idx m) ∧ v19 = .int .i64 k ∧ Hid (fmin el (fun i => V (off i)) k = m) ∧ Hid (Mem wr p17 0 (L (offO off m))) ∧ Hid (Only p17 0 20 w18 wr)) (fun _ v _ => n - (intOf v).toNat)
  case atStart => exact ⟨0, none, by omega, rfl, rfl, rfl, M17'.out, Only.refl _ _ _ _⟩
  case round =>
    obtain ⟨k, m, hk, rfl, rfl, HF, HM, HO⟩ := hrel
    have BR : Hid (Below w.heap.size w wr) := BW.out.trans (HO.out.below q17 hbw)
    have lr17 : p17 < wr.heap.size := Nat.lt_of_lt_of_le l17' HO.out.size
    by_cases hkn : k < n
    · have HIr := HI.out.below BR.out
      obtain ⟨A, ao, hA, hAr⟩ := HIr.a (by omega)
      obtain ⟨kb, ko, hKb, hKr⟩ := HIr.k (by omega)
      obtain ⟨sb, so, hSb, hSr⟩ := HIr.s (by omega)
      have hck := hKr k hkn
      have hcs := hSr k hkn
      have HAk : Hid (∀ w', Below wr.heap.size wr w' → w'.rangeAt A (ao + k * 20) (L (ad k))) := by
        intro w' hw' j v hv
        rw [HL] at hv
        have hc := hAr k hkn j v hv
        exact (hw'.cell (p := ⟨A, ao + k * 20 + j, none⟩) (World.block_lt_of_cell? wr _ hc)).trans hc
      have HIh : Hid (Ins wr n aA kA sA ad kn st) := HIr
      have hAh : Hid (aA = some ⟨A, ao, none⟩) := hA
      clear HIr hAr hKr hSr
      subst hA
      subst hKb
      subst hSb
      have M8 : Hid (Mem wr p8 0 (L sf)) := M8'.out.only l8' HO.out (.inl n8)
      have l8 : p8 < wr.heap.size := Nat.lt_of_lt_of_le l8' HO.out.size
      have HOff : Hid (∀ w : World, Calls Try.prog 26 #[.agg (L sf).toArray, .agg (L (ad k)).toArray, .bool c] w fun e w' => e = .returned (.agg (L (off k)).toArray) ∧ Below w.heap.size w w') := by
        intro w; rw [hoff.out k]; exact offset_any HL sf (ad k) c w hsf (hok.out k)
      have hI1 : (k : Int) < (n : Int) := by omega
      have hI2 : (0 : Int) ≤ (k : Int) := by omega
      have hElk := hel.out k
      have HEl : Hid (el k = (kn k && (!up || st k == 2))) := hElk
      clear hElk
      cases hkk : kn k with
      | false =>
        rw [hkk] at hck
        have HT : Hid (el k = false) := by show el k = false; rw [HEl.out, hkk]; rfl
        go_wp2_with fail
        go_roundw
        case rel =>
          refine ⟨k + 1, m, by omega, rfl, by go_num, ?_, HM.out, HO.out⟩
          show fmin _ _ (k + 1) = m
          rw [fmin_no (HT.out)]; exact HF.out
        case measure => simp [intOf]; omega
      | true =>
        rw [hkk] at hck
        cases up with
        | false =>
          have HT : Hid (el k = true) := by show el k = true; rw [HEl.out, hkk]; rfl
          go_wp2_with fail
          refine cut1 (fun a' p => ((((((((a'.put (some 45) (.agg (L sf).toArray)).put (some 46) (.slice (some ⟨A, ao, none⟩) n aC)).put (some 47) (.int .i64 k)).put (some 48) (.pointer (some ⟨A, ao + k * 20, none⟩))).put (some 49) (.agg (L (ad k)).toArray)).put (some 50) (.bool c)).put (some 51) (.agg (L (off k)).toArray)).put (some 20) (.pointer (some ⟨p, 0, none⟩)))) (fun p w' => Below wr.heap.size wr w' ∧ Mem w' p 0 (L (off k)) ∧ wr.heap.size ≤ p) ?_ ?_
          · try simp only [Act.put, List.setIfInBounds_toArray, List.set_cons_zero, List.set_cons_succ]
            refine wp_region_held_drew (S := fun w' => Below wr.heap.size wr w') (by kernel_rfl) (below_drew _ wr) (fun hHeld => ?_)
            refine H_load 30 0 45 ta30 (L sf) (L_len HL _) (p8) (0) rfl (by kernel_rfl) (by kernel_rfl) (by kernel_rfl) (fun _ _ _ ⟨_, h, _⟩ => nomatch h) rfl rfl (fun w' h => M8.out.below h l8) hHeld ?_
            try simp only [Act.put, List.setIfInBounds_toArray, List.set_cons_zero, List.set_cons_succ]
            refine H_move 1 46 (.slice (some ⟨A, ao, none⟩) n aC) rfl (by kernel_rfl) (by kernel_rfl) (by kernel_rfl) (fun _ _ _ ⟨_, h, _⟩ => nomatch h) rfl rfl hHeld ?_
            try simp only [Act.put, List.setIfInBounds_toArray, List.set_cons_zero, List.set_cons_succ]
            refine H_move 2 47 (.int .i64 k) rfl (by kernel_rfl) (by kernel_rfl) (by kernel_rfl) (fun _ _ _ ⟨_, h, _⟩ => nomatch h) rfl rfl hHeld ?_
            try simp only [Act.put, List.setIfInBounds_toArray, List.set_cons_zero, List.set_cons_succ]
            refine H_take 3 48 (.pointer (some ⟨A, ao + k * 20, none⟩)) rfl rfl (by kernel_rfl) (by kernel_rfl) (by kernel_rfl) (fun _ _ _ ⟨_, h, _⟩ => nomatch h) rfl ?_ hHeld ?_
            · intro _ _; go_simp
            try simp only [Act.put, List.setIfInBounds_toArray, List.set_cons_zero, List.set_cons_succ]
            refine H_loadR 30 4 49 ta30 (L (ad k)) (L_len HL _) (A) (ao + k * 20) rfl (by kernel_rfl) (by kernel_rfl) (by kernel_rfl) (fun _ _ _ ⟨_, h, _⟩ => nomatch h) rfl rfl (fun w' h => HAk.out w' h) hHeld ?_
            try simp only [Act.put, List.setIfInBounds_toArray, List.set_cons_zero, List.set_cons_succ]
            refine H_move 5 50 (.bool c) rfl (by kernel_rfl) (by kernel_rfl) (by kernel_rfl) (fun _ _ _ ⟨_, h, _⟩ => nomatch h) rfl rfl hHeld ?_
            try simp only [Act.put, List.setIfInBounds_toArray, List.set_cons_zero, List.set_cons_succ]
            refine wpAnyH_ready (rs := [6, 7]) (by kernel_rfl) (by simp) ?_
            refine (AllReadyH.cons rfl (fun K hK => ?_) (AllReadyH.cons rfl (fun K hK => ?_) AllReadyH.nil))
            · go_simp
              refine (HOff.out _).mono ?_
              rintro e v1 ⟨rfl, hB1⟩
              refine hK.out _ _ (bl hHeld hB1) (fun hHeld => ?_)
              clear hK K
              try simp only [Act.put, List.setIfInBounds_toArray, List.set_cons_zero, List.set_cons_succ]
              refine wpAnyH_ready (rs := [7]) (by kernel_rfl) (by simp) ?_
              refine (AllReadyH.cons rfl (fun K hK => ?_) AllReadyH.nil)
              rw [if_pos (by rfl)]
              simp only [List.getElem_toArray, List.getElem_cons_zero, List.getElem_cons_succ]
              with_reducible refine S_new 30 20 (L fun _ => 0) ((L_zero HL).1) ?_
              intro p20 v2 g20 l20 m20 hB2
              have q20 : wr.heap.size ≤ p20 := Nat.le_trans hHeld.size g20
              refine hK.out _ _ (bl hHeld hB2) (fun hHeld => ?_)
              clear hK K
              try simp only [Act.put, List.setIfInBounds_toArray, List.set_cons_zero, List.set_cons_succ]
              refine wpAnyH_ready (rs := [8]) (by kernel_rfl) (by simp) ?_
              refine (AllReadyH.cons rfl (fun K hK => ?_) AllReadyH.nil)
              rw [if_pos (by rfl)]
              simp only [List.getElem_toArray, List.getElem_cons_zero, List.getElem_cons_succ]
              with_reducible refine S_store 30 20 51 ta30 (L (off k)) (L fun _ => 0) (L_len HL _) (L_len HL _) (L_one HL _) (p20) 0 ?_ ?_ m20 ?_
              · rfl
              · rfl
              intro v3 m20' hO3
              refine hK.out _ _ (bo hHeld hO3 q20) (fun hHeld => ?_)
              clear hK K
              try simp only [Act.put]
              have l20 := Nat.lt_of_lt_of_le l20 hO3.size
              have m20 := m20'
              refine wpAnyH_done (by kernel_rfl) ?_ _
              exact ⟨p20, rfl, rfl, hHeld, m20, q20⟩
            · rw [if_pos (by rfl)]
              simp only [List.getElem_toArray, List.getElem_cons_zero, List.getElem_cons_succ]
              with_reducible refine S_new 30 20 (L fun _ => 0) ((L_zero HL).1) ?_
              intro p20 v4 g20 l20 m20 hB4
              have q20 : wr.heap.size ≤ p20 := Nat.le_trans hHeld.size g20
              refine hK.out _ _ (bl hHeld hB4) (fun hHeld => ?_)
              clear hK K
              try simp only [Act.put, List.setIfInBounds_toArray, List.set_cons_zero, List.set_cons_succ]
              refine wpAnyH_ready (rs := [6]) (by kernel_rfl) (by simp) ?_
              refine (AllReadyH.cons rfl (fun K hK => ?_) AllReadyH.nil)
              go_simp
              refine (HOff.out _).mono ?_
              rintro e v5 ⟨rfl, hB5⟩
              refine hK.out _ _ (bl hHeld hB5) (fun hHeld => ?_)
              clear hK K
              try simp only [Act.put, List.setIfInBounds_toArray, List.set_cons_zero, List.set_cons_succ]
              have m20 := m20.below hB5 l20
              have l20 := Nat.lt_of_lt_of_le l20 hB5.size
              refine wpAnyH_ready (rs := [8]) (by kernel_rfl) (by simp) ?_
              refine (AllReadyH.cons rfl (fun K hK => ?_) AllReadyH.nil)
              rw [if_pos (by rfl)]
              simp only [List.getElem_toArray, List.getElem_cons_zero, List.getElem_cons_succ]
              with_reducible refine S_store 30 20 51 ta30 (L (off k)) (L fun _ => 0) (L_len HL _) (L_len HL _) (L_one HL _) (p20) 0 ?_ ?_ m20 ?_
              · rfl
              · rfl
              intro v6 m20' hO6
              refine hK.out _ _ (bo hHeld hO6 q20) (fun hHeld => ?_)
              clear hK K
              try simp only [Act.put]
              have l20 := Nat.lt_of_lt_of_le l20 hO6.size
              have m20 := m20'
              refine wpAnyH_done (by kernel_rfl) ?_ _
              exact ⟨p20, rfl, rfl, hHeld, m20, q20⟩
          · rintro p20 w20 ⟨B20, m20, q20⟩
            simp only [Act.put, List.setIfInBounds_toArray, List.set_cons_zero, List.set_cons_succ]
            have M20 : Hid (Mem w20 p20 0 (L (off k))) := m20
            have l20 : p20 < w20.heap.size := L_lt HL m20
            have n20 : p20 ≠ p17 := by omega
            have HM20 : Hid (Mem w20 p17 0 (L (offO off m))) := HM.out.below B20 lr17
            have HO20 : Hid (Only p17 0 20 w18 w20) := ob HO.out B20 l17'
            have l17 : p17 < w20.heap.size := Nat.lt_of_lt_of_le lr17 B20.size
            clear m20 q20 B20 HM HO hck hcs
            cases m with
            | none =>
              have hneg : idx none = -1 := rfl
              simp only [hneg]
              go_wp2_with (first | ((with_reducible refine D_load 30 60 ta30 (L (off k)) (L_len HL _) p20 0 ?_ ?_ ?_); (rfl); (exact M20.out)) | ((with_reducible refine D_store 30 17 60 ta30 (L (off k)) (L (offO off none)) (L_len HL _) (L_len HL _) (L_one HL _) p17 0 ?_ ?_ ?_ ?_); (rfl); (rfl); (exact HM20.out); (intro w22 m22 o22)))
              go_roundw
              case rel =>
                refine ⟨k + 1, some k, by omega, rfl, by go_num, ?_, m22, HO20.out.trans o22⟩
                show fmin _ _ (k + 1) = some k
                exact fmin_yes_none HT.out HF.out
              case measure => simp [intOf]; omega
            | some j =>
              have hix : idx (some j) = (j : Int) := rfl
              simp only [hix]
              have hj0 : (0 : Int) ≤ (j : Int) := by omega
              have hj1 : ¬ (j : Int) < 0 := by omega
              go_wp2_with (first | ((with_reducible refine G_load 30 55 ta30 (L (off k)) (L_len HL _) p20 0 ?_ ?_ ?_ ?_); (rfl); (rfl); (exact M20.out)) | ((with_reducible refine G_load 30 56 ta30 (L (off j)) (L_len HL _) p17 0 ?_ ?_ ?_ ?_); (rfl); (rfl); (exact HM20.out)))
              refine (less_any HL (off k) (off j) _ (hoko.out k) (hoko.out j)).mono ?_
              rintro e w21 ⟨rfl, B21⟩
              have M20 : Hid (Mem w21 p20 0 (L (off k))) := M20.out.below B21 l20
              have HM20 : Hid (Mem w21 p17 0 (L (offO off (some j)))) := HM20.out.below B21 l17
              have HO20 : Hid (Only p17 0 20 w18 w21) := ob HO20.out B21 l17'
              clear B21
              by_cases hlt : V (off k) < V (off j)
              · have HLt : Hid (V (off k) < V (off j)) := hlt
                rw [decide_eq_true hlt]
                clear hlt
                go_wp2_with (first | ((with_reducible refine D_load 30 60 ta30 (L (off k)) (L_len HL _) p20 0 ?_ ?_ ?_); (rfl); (exact M20.out)) | ((with_reducible refine D_store 30 17 60 ta30 (L (off k)) (L (offO off (some j))) (L_len HL _) (L_len HL _) (L_one HL _) p17 0 ?_ ?_ ?_ ?_); (rfl); (rfl); (exact HM20.out); (intro w22 m22 o22)))
                go_roundw
                case rel =>
                  refine ⟨k + 1, some k, by omega, rfl, by go_num, ?_, m22, HO20.out.trans o22⟩
                  show fmin _ _ (k + 1) = some k
                  exact fmin_yes_lt HT.out HF.out HLt.out
                case measure => simp [intOf]; omega
              · have HLt : Hid (¬ V (off k) < V (off j)) := hlt
                rw [decide_eq_false hlt]
                clear hlt
                go_wp2_with fail
                go_roundw
                case rel =>
                  refine ⟨k + 1, some j, by omega, rfl, by go_num, ?_, HM20.out, HO20.out⟩
                  show fmin _ _ (k + 1) = some j
                  exact fmin_yes_ge HT.out HF.out (by have := HLt.out; omega)
                case measure => simp [intOf]; omega
        | true =>
          by_cases hst : st k = 2
          · have HT : Hid (el k = true) := by show el k = true; rw [HEl.out, hkk, hst]; rfl
            rw [hst] at hcs
            go_wp2_with fail
            refine cut1 (fun a' p => ((((((((a'.put (some 45) (.agg (L sf).toArray)).put (some 46) (.slice (some ⟨A, ao, none⟩) n aC)).put (some 47) (.int .i64 k)).put (some 48) (.pointer (some ⟨A, ao + k * 20, none⟩))).put (some 49) (.agg (L (ad k)).toArray)).put (some 50) (.bool c)).put (some 51) (.agg (L (off k)).toArray)).put (some 20) (.pointer (some ⟨p, 0, none⟩)))) (fun p w' => Below wr.heap.size wr w' ∧ Mem w' p 0 (L (off k)) ∧ wr.heap.size ≤ p) ?_ ?_
            · try simp only [Act.put, List.setIfInBounds_toArray, List.set_cons_zero, List.set_cons_succ]
              refine wp_region_held_drew (S := fun w' => Below wr.heap.size wr w') (by kernel_rfl) (below_drew _ wr) (fun hHeld => ?_)
              refine H_load 30 0 45 ta30 (L sf) (L_len HL _) (p8) (0) rfl (by kernel_rfl) (by kernel_rfl) (by kernel_rfl) (fun _ _ _ ⟨_, h, _⟩ => nomatch h) rfl rfl (fun w' h => M8.out.below h l8) hHeld ?_
              try simp only [Act.put, List.setIfInBounds_toArray, List.set_cons_zero, List.set_cons_succ]
              refine H_move 1 46 (.slice (some ⟨A, ao, none⟩) n aC) rfl (by kernel_rfl) (by kernel_rfl) (by kernel_rfl) (fun _ _ _ ⟨_, h, _⟩ => nomatch h) rfl rfl hHeld ?_
              try simp only [Act.put, List.setIfInBounds_toArray, List.set_cons_zero, List.set_cons_succ]
              refine H_move 2 47 (.int .i64 k) rfl (by kernel_rfl) (by kernel_rfl) (by kernel_rfl) (fun _ _ _ ⟨_, h, _⟩ => nomatch h) rfl rfl hHeld ?_
              try simp only [Act.put, List.setIfInBounds_toArray, List.set_cons_zero, List.set_cons_succ]
              refine H_take 3 48 (.pointer (some ⟨A, ao + k * 20, none⟩)) rfl rfl (by kernel_rfl) (by kernel_rfl) (by kernel_rfl) (fun _ _ _ ⟨_, h, _⟩ => nomatch h) rfl ?_ hHeld ?_
              · intro _ _; go_simp
              try simp only [Act.put, List.setIfInBounds_toArray, List.set_cons_zero, List.set_cons_succ]
              refine H_loadR 30 4 49 ta30 (L (ad k)) (L_len HL _) (A) (ao + k * 20) rfl (by kernel_rfl) (by kernel_rfl) (by kernel_rfl) (fun _ _ _ ⟨_, h, _⟩ => nomatch h) rfl rfl (fun w' h => HAk.out w' h) hHeld ?_
              try simp only [Act.put, List.setIfInBounds_toArray, List.set_cons_zero, List.set_cons_succ]
              refine H_move 5 50 (.bool c) rfl (by kernel_rfl) (by kernel_rfl) (by kernel_rfl) (fun _ _ _ ⟨_, h, _⟩ => nomatch h) rfl rfl hHeld ?_
              try simp only [Act.put, List.setIfInBounds_toArray, List.set_cons_zero, List.set_cons_succ]
              refine wpAnyH_ready (rs := [6, 7]) (by kernel_rfl) (by simp) ?_
              refine (AllReadyH.cons rfl (fun K hK => ?_) (AllReadyH.cons rfl (fun K hK => ?_) AllReadyH.nil))
              · go_simp
                refine (HOff.out _).mono ?_
                rintro e v1 ⟨rfl, hB1⟩
                refine hK.out _ _ (bl hHeld hB1) (fun hHeld => ?_)
                clear hK K
                try simp only [Act.put, List.setIfInBounds_toArray, List.set_cons_zero, List.set_cons_succ]
                refine wpAnyH_ready (rs := [7]) (by kernel_rfl) (by simp) ?_
                refine (AllReadyH.cons rfl (fun K hK => ?_) AllReadyH.nil)
                rw [if_pos (by rfl)]
                simp only [List.getElem_toArray, List.getElem_cons_zero, List.getElem_cons_succ]
                with_reducible refine S_new 30 20 (L fun _ => 0) ((L_zero HL).1) ?_
                intro p20 v2 g20 l20 m20 hB2
                have q20 : wr.heap.size ≤ p20 := Nat.le_trans hHeld.size g20
                refine hK.out _ _ (bl hHeld hB2) (fun hHeld => ?_)
                clear hK K
                try simp only [Act.put, List.setIfInBounds_toArray, List.set_cons_zero, List.set_cons_succ]
                refine wpAnyH_ready (rs := [8]) (by kernel_rfl) (by simp) ?_
                refine (AllReadyH.cons rfl (fun K hK => ?_) AllReadyH.nil)
                rw [if_pos (by rfl)]
                simp only [List.getElem_toArray, List.getElem_cons_zero, List.getElem_cons_succ]
                with_reducible refine S_store 30 20 51 ta30 (L (off k)) (L fun _ => 0) (L_len HL _) (L_len HL _) (L_one HL _) (p20) 0 ?_ ?_ m20 ?_
                · rfl
                · rfl
                intro v3 m20' hO3
                refine hK.out _ _ (bo hHeld hO3 q20) (fun hHeld => ?_)
                clear hK K
                try simp only [Act.put]
                have l20 := Nat.lt_of_lt_of_le l20 hO3.size
                have m20 := m20'
                refine wpAnyH_done (by kernel_rfl) ?_ _
                exact ⟨p20, rfl, rfl, hHeld, m20, q20⟩
              · rw [if_pos (by rfl)]
                simp only [List.getElem_toArray, List.getElem_cons_zero, List.getElem_cons_succ]
                with_reducible refine S_new 30 20 (L fun _ => 0) ((L_zero HL).1) ?_
                intro p20 v4 g20 l20 m20 hB4
                have q20 : wr.heap.size ≤ p20 := Nat.le_trans hHeld.size g20
                refine hK.out _ _ (bl hHeld hB4) (fun hHeld => ?_)
                clear hK K
                try simp only [Act.put, List.setIfInBounds_toArray, List.set_cons_zero, List.set_cons_succ]
                refine wpAnyH_ready (rs := [6]) (by kernel_rfl) (by simp) ?_
                refine (AllReadyH.cons rfl (fun K hK => ?_) AllReadyH.nil)
                go_simp
                refine (HOff.out _).mono ?_
                rintro e v5 ⟨rfl, hB5⟩
                refine hK.out _ _ (bl hHeld hB5) (fun hHeld => ?_)
                clear hK K
                try simp only [Act.put, List.setIfInBounds_toArray, List.set_cons_zero, List.set_cons_succ]
                have m20 := m20.below hB5 l20
                have l20 := Nat.lt_of_lt_of_le l20 hB5.size
                refine wpAnyH_ready (rs := [8]) (by kernel_rfl) (by simp) ?_
                refine (AllReadyH.cons rfl (fun K hK => ?_) AllReadyH.nil)
                rw [if_pos (by rfl)]
                simp only [List.getElem_toArray, List.getElem_cons_zero, List.getElem_cons_succ]
                with_reducible refine S_store 30 20 51 ta30 (L (off k)) (L fun _ => 0) (L_len HL _) (L_len HL _) (L_one HL _) (p20) 0 ?_ ?_ m20 ?_
                · rfl
                · rfl
                intro v6 m20' hO6
                refine hK.out _ _ (bo hHeld hO6 q20) (fun hHeld => ?_)
                clear hK K
                try simp only [Act.put]
                have l20 := Nat.lt_of_lt_of_le l20 hO6.size
                have m20 := m20'
                refine wpAnyH_done (by kernel_rfl) ?_ _
                exact ⟨p20, rfl, rfl, hHeld, m20, q20⟩
            · rintro p20 w20 ⟨B20, m20, q20⟩
              simp only [Act.put, List.setIfInBounds_toArray, List.set_cons_zero, List.set_cons_succ]
              have M20 : Hid (Mem w20 p20 0 (L (off k))) := m20
              have l20 : p20 < w20.heap.size := L_lt HL m20
              have n20 : p20 ≠ p17 := by omega
              have HM20 : Hid (Mem w20 p17 0 (L (offO off m))) := HM.out.below B20 lr17
              have HO20 : Hid (Only p17 0 20 w18 w20) := ob HO.out B20 l17'
              have l17 : p17 < w20.heap.size := Nat.lt_of_lt_of_le lr17 B20.size
              clear m20 q20 B20 HM HO hck hcs
              cases m with
              | none =>
                have hneg : idx none = -1 := rfl
                simp only [hneg]
                go_wp2_with (first | ((with_reducible refine D_load 30 60 ta30 (L (off k)) (L_len HL _) p20 0 ?_ ?_ ?_); (rfl); (exact M20.out)) | ((with_reducible refine D_store 30 17 60 ta30 (L (off k)) (L (offO off none)) (L_len HL _) (L_len HL _) (L_one HL _) p17 0 ?_ ?_ ?_ ?_); (rfl); (rfl); (exact HM20.out); (intro w22 m22 o22)))
                go_roundw
                case rel =>
                  refine ⟨k + 1, some k, by omega, rfl, by go_num, ?_, m22, HO20.out.trans o22⟩
                  show fmin _ _ (k + 1) = some k
                  exact fmin_yes_none HT.out HF.out
                case measure => simp [intOf]; omega
              | some j =>
                have hix : idx (some j) = (j : Int) := rfl
                simp only [hix]
                have hj0 : (0 : Int) ≤ (j : Int) := by omega
                have hj1 : ¬ (j : Int) < 0 := by omega
                go_wp2_with (first | ((with_reducible refine G_load 30 55 ta30 (L (off k)) (L_len HL _) p20 0 ?_ ?_ ?_ ?_); (rfl); (rfl); (exact M20.out)) | ((with_reducible refine G_load 30 56 ta30 (L (off j)) (L_len HL _) p17 0 ?_ ?_ ?_ ?_); (rfl); (rfl); (exact HM20.out)))
                refine (less_any HL (off k) (off j) _ (hoko.out k) (hoko.out j)).mono ?_
                rintro e w21 ⟨rfl, B21⟩
                have M20 : Hid (Mem w21 p20 0 (L (off k))) := M20.out.below B21 l20
                have HM20 : Hid (Mem w21 p17 0 (L (offO off (some j)))) := HM20.out.below B21 l17
                have HO20 : Hid (Only p17 0 20 w18 w21) := ob HO20.out B21 l17'
                clear B21
                by_cases hlt : V (off k) < V (off j)
                · have HLt : Hid (V (off k) < V (off j)) := hlt
                  rw [decide_eq_true hlt]
                  clear hlt
                  go_wp2_with (first | ((with_reducible refine D_load 30 60 ta30 (L (off k)) (L_len HL _) p20 0 ?_ ?_ ?_); (rfl); (exact M20.out)) | ((with_reducible refine D_store 30 17 60 ta30 (L (off k)) (L (offO off (some j))) (L_len HL _) (L_len HL _) (L_one HL _) p17 0 ?_ ?_ ?_ ?_); (rfl); (rfl); (exact HM20.out); (intro w22 m22 o22)))
                  go_roundw
                  case rel =>
                    refine ⟨k + 1, some k, by omega, rfl, by go_num, ?_, m22, HO20.out.trans o22⟩
                    show fmin _ _ (k + 1) = some k
                    exact fmin_yes_lt HT.out HF.out HLt.out
                  case measure => simp [intOf]; omega
                · have HLt : Hid (¬ V (off k) < V (off j)) := hlt
                  rw [decide_eq_false hlt]
                  clear hlt
                  go_wp2_with fail
                  go_roundw
                  case rel =>
                    refine ⟨k + 1, some j, by omega, rfl, by go_num, ?_, HM20.out, HO20.out⟩
                    show fmin _ _ (k + 1) = some j
                    exact fmin_yes_ge HT.out HF.out (by have := HLt.out; omega)
                  case measure => simp [intOf]; omega
          · have HT : Hid (el k = false) := by show el k = false; rw [HEl.out, hkk]; simp [hst]
            go_wp2_with fail
            go_roundw
            case rel =>
              refine ⟨k + 1, m, by omega, rfl, by go_num, ?_, HM.out, HO.out⟩
              show fmin _ _ (k + 1) = m
              rw [fmin_no (HT.out)]; exact HF.out
            case measure => simp [intOf]; omega
    · have hkk : n = k := by omega
      subst hkk
      cases m with
      | none =>
        have hneg : idx none = -1 := rfl
        simp only [hneg]
        have hsn : s.n = 0 := by
          rcases hS.out with ⟨_, h⟩ | ⟨j, f1, _⟩
          · exact h
          · rw [HF.out] at f1; exact absurd f1 (by simp)
        go_wp2_with fail
        have HNT : Hid (NearAt L wr b0 0 s) := hN.out.below BR.out hN.out.lt
        have lbT := HNT.out.lt
        refine (count_near b0 0 s _ HNT).mono ?_
        rintro e x ⟨rfl, hx⟩
        rw [hx, hsn]
        clear hx x
        go_wp2_with fail
        refine wp_region_held_drew (S := fun w' => Below wr.heap.size wr w') (by kernel_rfl) (below_drew _ wr) (fun hHeld => ?_)
        refine H_move 0 113 (.int .i64 0) rfl (by kernel_rfl) (by kernel_rfl) (by kernel_rfl) (fun _ _ _ h => h) rfl rfl hHeld ?_
        try simp only [Act.put, List.setIfInBounds_toArray, List.set_cons_zero, List.set_cons_succ]
        refine H_take 1 114 (.bool false) rfl rfl (by kernel_rfl) (by kernel_rfl) (by kernel_rfl) (fun _ _ _ h => h) rfl ?_ hHeld ?_
        · intro _ _; go_simp
        try simp only [Act.put, List.setIfInBounds_toArray, List.set_cons_zero, List.set_cons_succ]
        refine H_move 2 115 (.bool false) rfl (by kernel_rfl) (by kernel_rfl) (by kernel_rfl) (fun _ _ _ h => h) rfl rfl hHeld ?_
        try simp only [Act.put, List.setIfInBounds_toArray, List.set_cons_zero, List.set_cons_succ]
        refine H_skip 3 116 rfl rfl (by kernel_rfl) (by kernel_rfl) (by kernel_rfl) (fun _ _ _ h => h) rfl hHeld ?_
        try simp only [Act.put, List.setIfInBounds_toArray, List.set_cons_zero, List.set_cons_succ]
        refine H_skip 4 117 rfl rfl (by kernel_rfl) (by kernel_rfl) (by kernel_rfl) (fun _ _ _ h => h) rfl hHeld ?_
        try simp only [Act.put, List.setIfInBounds_toArray, List.set_cons_zero, List.set_cons_succ]
        refine H_skip 5 118 rfl rfl (by kernel_rfl) (by kernel_rfl) (by kernel_rfl) (fun _ _ _ h => h) rfl hHeld ?_
        try simp only [Act.put, List.setIfInBounds_toArray, List.set_cons_zero, List.set_cons_succ]
        refine H_skip 6 119 rfl rfl (by kernel_rfl) (by kernel_rfl) (by kernel_rfl) (fun _ _ _ h => h) rfl hHeld ?_
        try simp only [Act.put, List.setIfInBounds_toArray, List.set_cons_zero, List.set_cons_succ]
        refine H_skip 7 120 rfl rfl (by kernel_rfl) (by kernel_rfl) (by kernel_rfl) (fun _ _ _ h => h) rfl hHeld ?_
        try simp only [Act.put, List.setIfInBounds_toArray, List.set_cons_zero, List.set_cons_succ]
        refine H_skip 8 121 rfl rfl (by kernel_rfl) (by kernel_rfl) (by kernel_rfl) (fun _ _ _ h => h) rfl hHeld ?_
        try simp only [Act.put, List.setIfInBounds_toArray, List.set_cons_zero, List.set_cons_succ]
        refine H_skip 9 122 rfl rfl (by kernel_rfl) (by kernel_rfl) (by kernel_rfl) (fun _ _ _ h => h) rfl hHeld ?_
        try simp only [Act.put, List.setIfInBounds_toArray, List.set_cons_zero, List.set_cons_succ]
        refine H_skip 10 123 rfl rfl (by kernel_rfl) (by kernel_rfl) (by kernel_rfl) (fun _ _ _ h => h) rfl hHeld ?_
        try simp only [Act.put, List.setIfInBounds_toArray, List.set_cons_zero, List.set_cons_succ]
        refine H_skip 11 124 rfl rfl (by kernel_rfl) (by kernel_rfl) (by kernel_rfl) (fun _ _ _ h => h) rfl hHeld ?_
        try simp only [Act.put, List.setIfInBounds_toArray, List.set_cons_zero, List.set_cons_succ]
        refine H_skip 12 125 rfl rfl (by kernel_rfl) (by kernel_rfl) (by kernel_rfl) (fun _ _ _ h => h) rfl hHeld ?_
        try simp only [Act.put, List.setIfInBounds_toArray, List.set_cons_zero, List.set_cons_succ]
        refine H_skip 13 126 rfl rfl (by kernel_rfl) (by kernel_rfl) (by kernel_rfl) (fun _ _ _ h => h) rfl hHeld ?_
        try simp only [Act.put, List.setIfInBounds_toArray, List.set_cons_zero, List.set_cons_succ]
        refine H_take 14 127 (.bool false) rfl rfl (by kernel_rfl) (by kernel_rfl) (by kernel_rfl) (fun _ _ _ h => h) rfl ?_ hHeld ?_
        · intro _ _; go_simp
        try simp only [Act.put, List.setIfInBounds_toArray, List.set_cons_zero, List.set_cons_succ]
        refine wpAnyH_done (by kernel_rfl) ?_ _
        obtain ⟨y1, hy1⟩ : ∃ V, V = wr.drew := ⟨_, rfl⟩
        rw [← hy1] at hHeld ⊢
        clear hy1
        have HT1 := Hid.mk hHeld
        clear hHeld
        have HNT : Hid (NearAt L y1 b0 0 s) := HNT.out.below HT1.out lbT
        have lbT := HNT.out.lt
        go_wp2_with fail
        refine wp_region_held_drew (S := fun w' => Below y1.heap.size y1 w') (by kernel_rfl) (below_drew _ y1) (fun hHeld => ?_)
        refine H_move 0 128 (.int .i64 0) rfl (by kernel_rfl) (by kernel_rfl) (by kernel_rfl) (fun _ _ _ h => h) rfl rfl hHeld ?_
        try simp only [Act.put, List.setIfInBounds_toArray, List.set_cons_zero, List.set_cons_succ]
        refine H_take 1 129 (.bool false) rfl rfl (by kernel_rfl) (by kernel_rfl) (by kernel_rfl) (fun _ _ _ h => h) rfl ?_ hHeld ?_
        · intro _ _; go_simp
        try simp only [Act.put, List.setIfInBounds_toArray, List.set_cons_zero, List.set_cons_succ]
        refine H_move 2 130 (.bool false) rfl (by kernel_rfl) (by kernel_rfl) (by kernel_rfl) (fun _ _ _ h => h) rfl rfl hHeld ?_
        try simp only [Act.put, List.setIfInBounds_toArray, List.set_cons_zero, List.set_cons_succ]
        refine H_skip 3 131 rfl rfl (by kernel_rfl) (by kernel_rfl) (by kernel_rfl) (fun _ _ _ h => h) rfl hHeld ?_
        try simp only [Act.put, List.setIfInBounds_toArray, List.set_cons_zero, List.set_cons_succ]
        refine H_skip 4 132 rfl rfl (by kernel_rfl) (by kernel_rfl) (by kernel_rfl) (fun _ _ _ h => h) rfl hHeld ?_
        try simp only [Act.put, List.setIfInBounds_toArray, List.set_cons_zero, List.set_cons_succ]
        refine H_skip 5 133 rfl rfl (by kernel_rfl) (by kernel_rfl) (by kernel_rfl) (fun _ _ _ h => h) rfl hHeld ?_
        try simp only [Act.put, List.setIfInBounds_toArray, List.set_cons_zero, List.set_cons_succ]
        refine H_skip 6 134 rfl rfl (by kernel_rfl) (by kernel_rfl) (by kernel_rfl) (fun _ _ _ h => h) rfl hHeld ?_
        try simp only [Act.put, List.setIfInBounds_toArray, List.set_cons_zero, List.set_cons_succ]
        refine H_skip 7 135 rfl rfl (by kernel_rfl) (by kernel_rfl) (by kernel_rfl) (fun _ _ _ h => h) rfl hHeld ?_
        try simp only [Act.put, List.setIfInBounds_toArray, List.set_cons_zero, List.set_cons_succ]
        refine H_skip 8 136 rfl rfl (by kernel_rfl) (by kernel_rfl) (by kernel_rfl) (fun _ _ _ h => h) rfl hHeld ?_
        try simp only [Act.put, List.setIfInBounds_toArray, List.set_cons_zero, List.set_cons_succ]
        refine H_skip 9 137 rfl rfl (by kernel_rfl) (by kernel_rfl) (by kernel_rfl) (fun _ _ _ h => h) rfl hHeld ?_
        try simp only [Act.put, List.setIfInBounds_toArray, List.set_cons_zero, List.set_cons_succ]
        refine H_skip 10 138 rfl rfl (by kernel_rfl) (by kernel_rfl) (by kernel_rfl) (fun _ _ _ h => h) rfl hHeld ?_
        try simp only [Act.put, List.setIfInBounds_toArray, List.set_cons_zero, List.set_cons_succ]
        refine H_skip 11 139 rfl rfl (by kernel_rfl) (by kernel_rfl) (by kernel_rfl) (fun _ _ _ h => h) rfl hHeld ?_
        try simp only [Act.put, List.setIfInBounds_toArray, List.set_cons_zero, List.set_cons_succ]
        refine H_skip 12 140 rfl rfl (by kernel_rfl) (by kernel_rfl) (by kernel_rfl) (fun _ _ _ h => h) rfl hHeld ?_
        try simp only [Act.put, List.setIfInBounds_toArray, List.set_cons_zero, List.set_cons_succ]
        refine H_skip 13 141 rfl rfl (by kernel_rfl) (by kernel_rfl) (by kernel_rfl) (fun _ _ _ h => h) rfl hHeld ?_
        try simp only [Act.put, List.setIfInBounds_toArray, List.set_cons_zero, List.set_cons_succ]
        refine H_take 14 142 (.bool false) rfl rfl (by kernel_rfl) (by kernel_rfl) (by kernel_rfl) (fun _ _ _ h => h) rfl ?_ hHeld ?_
        · intro _ _; go_simp
        try simp only [Act.put, List.setIfInBounds_toArray, List.set_cons_zero, List.set_cons_succ]
        refine wpAnyH_done (by kernel_rfl) ?_ _
        have HT2 := Hid.mk hHeld
        clear hHeld
        go_wp2_with fail
        go_ret
        exact ⟨rfl, bl (bl (BR.out) HT1.out) HT2.out⟩
      | some j =>
        have hix : idx (some j) = (j : Int) := rfl
        simp only [hix]
        have hj0 : (0 : Int) ≤ (j : Int) := by omega
        obtain ⟨x2, hx2⟩ : ∃ x, x = wr := ⟨_, rfl⟩
        subst hx2
        have M8x : Hid (Mem x2 p8 0 (L sf)) := M8'.out.only l8' HO.out (.inl n8)
        have M18x : Hid (Mem x2 p18 0 (L fun _ => 0)) := M18'.out.only l18' HO.out (.inl n17.symm)
        have M17x : Hid (Mem x2 p17 0 (L (off j))) := HM.out
        have lx8 : p8 < x2.heap.size := Nat.lt_of_lt_of_le l8' HO.out.size
        have lx18 : p18 < x2.heap.size := Nat.lt_of_lt_of_le l18' HO.out.size
        have lx17 := lr17
        have hbx : w.heap.size ≤ x2.heap.size := BR.out.size
        have BX := BR
        have HF1 := HF
        clear HM HO BR lr17 HF M8' M17' M18' l8' l17' l18' BW hbw
        go_wp2_with fail
        go_loopw [16, 21] (fun v16 v21 wr => ∃ (k : Nat) (m : Option Nat), k ≤ n ∧ v16 = .int .i64 (idx m) ∧ v21 = .int .i64 k ∧ Hid (fmin (above el (fun i => V (off i)) j) (fun i => V (off i)) k = m) ∧ Hid (Mem wr p18 0 (L (offO off m))) ∧ Hid (Only p18 0 20 x2 wr)) (fun _ v _ => n - (intOf v).toNat)
        case atStart => exact ⟨0, none, by omega, rfl, rfl, rfl, M18x.out, Only.refl _ _ _ _⟩
        case round =>
          obtain ⟨k, m, hk, rfl, rfl, HF, HM, HO⟩ := hrel
          have BR : Hid (Below w.heap.size w wr) := BX.out.trans (HO.out.below q18 hbx)
          have lr18 : p18 < wr.heap.size := Nat.lt_of_lt_of_le lx18 HO.out.size
          have lr17 : p17 < wr.heap.size := Nat.lt_of_lt_of_le lx17 HO.out.size
          have M17r : Hid (Mem wr p17 0 (L (off j))) := M17x.out.only lx17 HO.out (.inl n17)
          by_cases hkn : k < n
          · have HIr := HI.out.below BR.out
            obtain ⟨A, ao, hA, hAr⟩ := HIr.a (by omega)
            obtain ⟨kb, ko, hKb, hKr⟩ := HIr.k (by omega)
            obtain ⟨sb, so, hSb, hSr⟩ := HIr.s (by omega)
            have hck := hKr k hkn
            have hcs := hSr k hkn
            have HAk : Hid (∀ w', Below wr.heap.size wr w' → w'.rangeAt A (ao + k * 20) (L (ad k))) := by
              intro w' hw' j v hv
              rw [HL] at hv
              have hc := hAr k hkn j v hv
              exact (hw'.cell (p := ⟨A, ao + k * 20 + j, none⟩) (World.block_lt_of_cell? wr _ hc)).trans hc
            have HIh : Hid (Ins wr n aA kA sA ad kn st) := HIr
            have hAh : Hid (aA = some ⟨A, ao, none⟩) := hA
            clear HIr hAr hKr hSr
            subst hA
            subst hKb
            subst hSb
            have M8 : Hid (Mem wr p8 0 (L sf)) := M8x.out.only lx8 HO.out (.inl n88)
            have l8 : p8 < wr.heap.size := Nat.lt_of_lt_of_le lx8 HO.out.size
            have HOff : Hid (∀ w : World, Calls Try.prog 26 #[.agg (L sf).toArray, .agg (L (ad k)).toArray, .bool c] w fun e w' => e = .returned (.agg (L (off k)).toArray) ∧ Below w.heap.size w w') := by
              intro w; rw [hoff.out k]; exact offset_any HL sf (ad k) c w hsf (hok.out k)
            have hI1 : (k : Int) < (n : Int) := by omega
            have hI2 : (0 : Int) ≤ (k : Int) := by omega
            have hElk := hel.out k
            have HEl : Hid (el k = (kn k && (!up || st k == 2))) := hElk
            clear hElk
            cases hkk : kn k with
            | false =>
              rw [hkk] at hck
              have HT : Hid (el k = false) := by show el k = false; rw [HEl.out, hkk]; rfl
              go_wp2_with fail
              go_roundw
              case rel =>
                refine ⟨k + 1, m, by omega, rfl, by go_num, ?_, HM.out, HO.out⟩
                show fmin _ _ (k + 1) = m
                rw [fmin_no (by rw [above, HT.out]; rfl)]; exact HF.out
              case measure => simp [intOf]; omega
            | true =>
              rw [hkk] at hck
              cases up with
              | false =>
                have HT : Hid (el k = true) := by show el k = true; rw [HEl.out, hkk]; rfl
                go_wp2_with fail
                refine cut1 (fun a' p => ((((((((a'.put (some 84) (.agg (L sf).toArray)).put (some 85) (.slice (some ⟨A, ao, none⟩) n aC)).put (some 86) (.int .i64 k)).put (some 87) (.pointer (some ⟨A, ao + k * 20, none⟩))).put (some 88) (.agg (L (ad k)).toArray)).put (some 89) (.bool c)).put (some 90) (.agg (L (off k)).toArray)).put (some 22) (.pointer (some ⟨p, 0, none⟩)))) (fun p w' => Below wr.heap.size wr w' ∧ Mem w' p 0 (L (off k)) ∧ wr.heap.size ≤ p) ?_ ?_
                · try simp only [Act.put, List.setIfInBounds_toArray, List.set_cons_zero, List.set_cons_succ]
                  refine wp_region_held_drew (S := fun w' => Below wr.heap.size wr w') (by kernel_rfl) (below_drew _ wr) (fun hHeld => ?_)
                  refine H_load 30 0 84 ta30 (L sf) (L_len HL _) (p8) (0) rfl (by kernel_rfl) (by kernel_rfl) (by kernel_rfl) (fun _ _ _ ⟨_, h, _⟩ => nomatch h) rfl rfl (fun w' h => M8.out.below h l8) hHeld ?_
                  try simp only [Act.put, List.setIfInBounds_toArray, List.set_cons_zero, List.set_cons_succ]
                  refine H_move 1 85 (.slice (some ⟨A, ao, none⟩) n aC) rfl (by kernel_rfl) (by kernel_rfl) (by kernel_rfl) (fun _ _ _ ⟨_, h, _⟩ => nomatch h) rfl rfl hHeld ?_
                  try simp only [Act.put, List.setIfInBounds_toArray, List.set_cons_zero, List.set_cons_succ]
                  refine H_move 2 86 (.int .i64 k) rfl (by kernel_rfl) (by kernel_rfl) (by kernel_rfl) (fun _ _ _ ⟨_, h, _⟩ => nomatch h) rfl rfl hHeld ?_
                  try simp only [Act.put, List.setIfInBounds_toArray, List.set_cons_zero, List.set_cons_succ]
                  refine H_take 3 87 (.pointer (some ⟨A, ao + k * 20, none⟩)) rfl rfl (by kernel_rfl) (by kernel_rfl) (by kernel_rfl) (fun _ _ _ ⟨_, h, _⟩ => nomatch h) rfl ?_ hHeld ?_
                  · intro _ _; go_simp
                  try simp only [Act.put, List.setIfInBounds_toArray, List.set_cons_zero, List.set_cons_succ]
                  refine H_loadR 30 4 88 ta30 (L (ad k)) (L_len HL _) (A) (ao + k * 20) rfl (by kernel_rfl) (by kernel_rfl) (by kernel_rfl) (fun _ _ _ ⟨_, h, _⟩ => nomatch h) rfl rfl (fun w' h => HAk.out w' h) hHeld ?_
                  try simp only [Act.put, List.setIfInBounds_toArray, List.set_cons_zero, List.set_cons_succ]
                  refine H_move 5 89 (.bool c) rfl (by kernel_rfl) (by kernel_rfl) (by kernel_rfl) (fun _ _ _ ⟨_, h, _⟩ => nomatch h) rfl rfl hHeld ?_
                  try simp only [Act.put, List.setIfInBounds_toArray, List.set_cons_zero, List.set_cons_succ]
                  refine wpAnyH_ready (rs := [6, 7]) (by kernel_rfl) (by simp) ?_
                  refine (AllReadyH.cons rfl (fun K hK => ?_) (AllReadyH.cons rfl (fun K hK => ?_) AllReadyH.nil))
                  · go_simp
                    refine (HOff.out _).mono ?_
                    rintro e v1 ⟨rfl, hB1⟩
                    refine hK.out _ _ (bl hHeld hB1) (fun hHeld => ?_)
                    clear hK K
                    try simp only [Act.put, List.setIfInBounds_toArray, List.set_cons_zero, List.set_cons_succ]
                    refine wpAnyH_ready (rs := [7]) (by kernel_rfl) (by simp) ?_
                    refine (AllReadyH.cons rfl (fun K hK => ?_) AllReadyH.nil)
                    rw [if_pos (by rfl)]
                    simp only [List.getElem_toArray, List.getElem_cons_zero, List.getElem_cons_succ]
                    with_reducible refine S_new 30 22 (L fun _ => 0) ((L_zero HL).1) ?_
                    intro p22 v2 g22 l22 m22 hB2
                    have q22 : wr.heap.size ≤ p22 := Nat.le_trans hHeld.size g22
                    refine hK.out _ _ (bl hHeld hB2) (fun hHeld => ?_)
                    clear hK K
                    try simp only [Act.put, List.setIfInBounds_toArray, List.set_cons_zero, List.set_cons_succ]
                    refine wpAnyH_ready (rs := [8]) (by kernel_rfl) (by simp) ?_
                    refine (AllReadyH.cons rfl (fun K hK => ?_) AllReadyH.nil)
                    rw [if_pos (by rfl)]
                    simp only [List.getElem_toArray, List.getElem_cons_zero, List.getElem_cons_succ]
                    with_reducible refine S_store 30 22 90 ta30 (L (off k)) (L fun _ => 0) (L_len HL _) (L_len HL _) (L_one HL _) (p22) 0 ?_ ?_ m22 ?_
                    · rfl
                    · rfl
                    intro v3 m22' hO3
                    refine hK.out _ _ (bo hHeld hO3 q22) (fun hHeld => ?_)
                    clear hK K
                    try simp only [Act.put]
                    have l22 := Nat.lt_of_lt_of_le l22 hO3.size
                    have m22 := m22'
                    refine wpAnyH_done (by kernel_rfl) ?_ _
                    exact ⟨p22, rfl, rfl, hHeld, m22, q22⟩
                  · rw [if_pos (by rfl)]
                    simp only [List.getElem_toArray, List.getElem_cons_zero, List.getElem_cons_succ]
                    with_reducible refine S_new 30 22 (L fun _ => 0) ((L_zero HL).1) ?_
                    intro p22 v4 g22 l22 m22 hB4
                    have q22 : wr.heap.size ≤ p22 := Nat.le_trans hHeld.size g22
                    refine hK.out _ _ (bl hHeld hB4) (fun hHeld => ?_)
                    clear hK K
                    try simp only [Act.put, List.setIfInBounds_toArray, List.set_cons_zero, List.set_cons_succ]
                    refine wpAnyH_ready (rs := [6]) (by kernel_rfl) (by simp) ?_
                    refine (AllReadyH.cons rfl (fun K hK => ?_) AllReadyH.nil)
                    go_simp
                    refine (HOff.out _).mono ?_
                    rintro e v5 ⟨rfl, hB5⟩
                    refine hK.out _ _ (bl hHeld hB5) (fun hHeld => ?_)
                    clear hK K
                    try simp only [Act.put, List.setIfInBounds_toArray, List.set_cons_zero, List.set_cons_succ]
                    have m22 := m22.below hB5 l22
                    have l22 := Nat.lt_of_lt_of_le l22 hB5.size
                    refine wpAnyH_ready (rs := [8]) (by kernel_rfl) (by simp) ?_
                    refine (AllReadyH.cons rfl (fun K hK => ?_) AllReadyH.nil)
                    rw [if_pos (by rfl)]
                    simp only [List.getElem_toArray, List.getElem_cons_zero, List.getElem_cons_succ]
                    with_reducible refine S_store 30 22 90 ta30 (L (off k)) (L fun _ => 0) (L_len HL _) (L_len HL _) (L_one HL _) (p22) 0 ?_ ?_ m22 ?_
                    · rfl
                    · rfl
                    intro v6 m22' hO6
                    refine hK.out _ _ (bo hHeld hO6 q22) (fun hHeld => ?_)
                    clear hK K
                    try simp only [Act.put]
                    have l22 := Nat.lt_of_lt_of_le l22 hO6.size
                    have m22 := m22'
                    refine wpAnyH_done (by kernel_rfl) ?_ _
                    exact ⟨p22, rfl, rfl, hHeld, m22, q22⟩
                · rintro p22 w22 ⟨B22, m22, q22⟩
                  simp only [Act.put, List.setIfInBounds_toArray, List.set_cons_zero, List.set_cons_succ]
                  have M22 : Hid (Mem w22 p22 0 (L (off k))) := m22
                  have l22 : p22 < w22.heap.size := L_lt HL m22
                  have HM22 : Hid (Mem w22 p18 0 (L (offO off m))) := HM.out.below B22 lr18
                  have HO22 : Hid (Only p18 0 20 x2 w22) := ob HO.out B22 lx18
                  have l18 : p18 < w22.heap.size := Nat.lt_of_lt_of_le lr18 B22.size
                  have M17 : Hid (Mem w22 p17 0 (L (off j))) := M17r.out.below B22 lr17
                  have l17 : p17 < w22.heap.size := Nat.lt_of_lt_of_le lr17 B22.size
                  clear m22 q22 B22 HM HO hck hcs
                  go_wp2_with (first | ((with_reducible refine D_load 30 91 ta30 (L (off j)) (L_len HL _) p17 0 ?_ ?_ ?_); (rfl); (exact M17.out)) | ((with_reducible refine D_load 30 92 ta30 (L (off k)) (L_len HL _) p22 0 ?_ ?_ ?_); (rfl); (exact M22.out)))
                  refine (less_any HL (off j) (off k) _ (hoko.out j) (hoko.out k)).mono ?_
                  rintro e w23 ⟨rfl, B23⟩
                  have M22 : Hid (Mem w23 p22 0 (L (off k))) := M22.out.below B23 l22
                  have HM22 : Hid (Mem w23 p18 0 (L (offO off m))) := HM22.out.below B23 l18
                  have HO22 : Hid (Only p18 0 20 x2 w23) := ob HO22.out B23 lx18
                  have l22 : p22 < w23.heap.size := Nat.lt_of_lt_of_le l22 B23.size
                  have l18 : p18 < w23.heap.size := Nat.lt_of_lt_of_le l18 B23.size
                  clear B23 M17 l17
                  by_cases hab : V (off j) < V (off k)
                  · have HA : Hid (above el (fun i => V (off i)) j k = true) := by show above _ _ _ _ = true; rw [above, HT.out, decide_eq_true hab]; rfl
                    rw [decide_eq_true hab]
                    clear hab
                    cases m with
                    | none =>
                      have hneg : idx none = -1 := rfl
                      simp only [hneg]
                      go_wp2_with (first | ((with_reducible refine D_load 30 104 ta30 (L (off k)) (L_len HL _) p22 0 ?_ ?_ ?_); (rfl); (exact M22.out)) | ((with_reducible refine D_store 30 18 104 ta30 (L (off k)) (L (offO off none)) (L_len HL _) (L_len HL _) (L_one HL _) p18 0 ?_ ?_ ?_ ?_); (rfl); (rfl); (exact HM22.out); (intro w25 m25 o25)))
                      go_roundw
                      case rel =>
                        refine ⟨k + 1, some k, by omega, rfl, by go_num, ?_, m25, HO22.out.trans o25⟩
                        show fmin _ _ (k + 1) = some k
                        exact fmin_yes_none HA.out HF.out
                      case measure => simp [intOf]; omega
                    | some j2 =>
                      have hix : idx (some j2) = (j2 : Int) := rfl
                      simp only [hix]
                      have hj0 : (0 : Int) ≤ (j2 : Int) := by omega
                      have hj1 : ¬ (j2 : Int) < 0 := by omega
                      go_wp2_with (first | ((with_reducible refine G_load 30 98 ta30 (L (off k)) (L_len HL _) p22 0 ?_ ?_ ?_ ?_); (rfl); (rfl); (exact M22.out)) | ((with_reducible refine G_load 30 99 ta30 (L (off j2)) (L_len HL _) p18 0 ?_ ?_ ?_ ?_); (rfl); (rfl); (exact HM22.out)))
                      refine (less_any HL (off k) (off j2) _ (hoko.out k) (hoko.out j2)).mono ?_
                      rintro e w24 ⟨rfl, B24⟩
                      have M22 : Hid (Mem w24 p22 0 (L (off k))) := M22.out.below B24 l22
                      have HM22 : Hid (Mem w24 p18 0 (L (offO off (some j2)))) := HM22.out.below B24 l18
                      have HO22 : Hid (Only p18 0 20 x2 w24) := ob HO22.out B24 lx18
                      clear B24
                      by_cases hlt : V (off k) < V (off j2)
                      · have HLt : Hid (V (off k) < V (off j2)) := hlt
                        rw [decide_eq_true hlt]
                        clear hlt
                        go_wp2_with (first | ((with_reducible refine D_load 30 104 ta30 (L (off k)) (L_len HL _) p22 0 ?_ ?_ ?_); (rfl); (exact M22.out)) | ((with_reducible refine D_store 30 18 104 ta30 (L (off k)) (L (offO off (some j2))) (L_len HL _) (L_len HL _) (L_one HL _) p18 0 ?_ ?_ ?_ ?_); (rfl); (rfl); (exact HM22.out); (intro w25 m25 o25)))
                        go_roundw
                        case rel =>
                          refine ⟨k + 1, some k, by omega, rfl, by go_num, ?_, m25, HO22.out.trans o25⟩
                          show fmin _ _ (k + 1) = some k
                          exact fmin_yes_lt HA.out HF.out HLt.out
                        case measure => simp [intOf]; omega
                      · have HLt : Hid (V (off j2) ≤ V (off k)) := by show _ ≤ _; omega
                        rw [decide_eq_false hlt]
                        clear hlt
                        go_wp2_with fail
                        go_roundw
                        case rel =>
                          refine ⟨k + 1, some j2, by omega, rfl, by go_num, ?_, HM22.out, HO22.out⟩
                          show fmin _ _ (k + 1) = some j2
                          exact fmin_yes_ge HA.out HF.out (by have := HLt.out; omega)
                        case measure => simp [intOf]; omega
                  · have HA : Hid (above el (fun i => V (off i)) j k = false) := by show above _ _ _ _ = false; rw [above, decide_eq_false hab]; simp
                    rw [decide_eq_false hab]
                    clear hab
                    go_wp2_with fail
                    go_roundw
                    case rel =>
                      refine ⟨k + 1, m, by omega, rfl, by go_num, ?_, HM22.out, HO22.out⟩
                      show fmin _ _ (k + 1) = m
                      rw [fmin_no HA.out]; exact HF.out
                    case measure => simp [intOf]; omega
              | true =>
                by_cases hst : st k = 2
                · have HT : Hid (el k = true) := by show el k = true; rw [HEl.out, hkk, hst]; rfl
                  rw [hst] at hcs
                  go_wp2_with fail
                  refine cut1 (fun a' p => ((((((((a'.put (some 84) (.agg (L sf).toArray)).put (some 85) (.slice (some ⟨A, ao, none⟩) n aC)).put (some 86) (.int .i64 k)).put (some 87) (.pointer (some ⟨A, ao + k * 20, none⟩))).put (some 88) (.agg (L (ad k)).toArray)).put (some 89) (.bool c)).put (some 90) (.agg (L (off k)).toArray)).put (some 22) (.pointer (some ⟨p, 0, none⟩)))) (fun p w' => Below wr.heap.size wr w' ∧ Mem w' p 0 (L (off k)) ∧ wr.heap.size ≤ p) ?_ ?_
                  · try simp only [Act.put, List.setIfInBounds_toArray, List.set_cons_zero, List.set_cons_succ]
                    refine wp_region_held_drew (S := fun w' => Below wr.heap.size wr w') (by kernel_rfl) (below_drew _ wr) (fun hHeld => ?_)
                    refine H_load 30 0 84 ta30 (L sf) (L_len HL _) (p8) (0) rfl (by kernel_rfl) (by kernel_rfl) (by kernel_rfl) (fun _ _ _ ⟨_, h, _⟩ => nomatch h) rfl rfl (fun w' h => M8.out.below h l8) hHeld ?_
                    try simp only [Act.put, List.setIfInBounds_toArray, List.set_cons_zero, List.set_cons_succ]
                    refine H_move 1 85 (.slice (some ⟨A, ao, none⟩) n aC) rfl (by kernel_rfl) (by kernel_rfl) (by kernel_rfl) (fun _ _ _ ⟨_, h, _⟩ => nomatch h) rfl rfl hHeld ?_
                    try simp only [Act.put, List.setIfInBounds_toArray, List.set_cons_zero, List.set_cons_succ]
                    refine H_move 2 86 (.int .i64 k) rfl (by kernel_rfl) (by kernel_rfl) (by kernel_rfl) (fun _ _ _ ⟨_, h, _⟩ => nomatch h) rfl rfl hHeld ?_
                    try simp only [Act.put, List.setIfInBounds_toArray, List.set_cons_zero, List.set_cons_succ]
                    refine H_take 3 87 (.pointer (some ⟨A, ao + k * 20, none⟩)) rfl rfl (by kernel_rfl) (by kernel_rfl) (by kernel_rfl) (fun _ _ _ ⟨_, h, _⟩ => nomatch h) rfl ?_ hHeld ?_
                    · intro _ _; go_simp
                    try simp only [Act.put, List.setIfInBounds_toArray, List.set_cons_zero, List.set_cons_succ]
                    refine H_loadR 30 4 88 ta30 (L (ad k)) (L_len HL _) (A) (ao + k * 20) rfl (by kernel_rfl) (by kernel_rfl) (by kernel_rfl) (fun _ _ _ ⟨_, h, _⟩ => nomatch h) rfl rfl (fun w' h => HAk.out w' h) hHeld ?_
                    try simp only [Act.put, List.setIfInBounds_toArray, List.set_cons_zero, List.set_cons_succ]
                    refine H_move 5 89 (.bool c) rfl (by kernel_rfl) (by kernel_rfl) (by kernel_rfl) (fun _ _ _ ⟨_, h, _⟩ => nomatch h) rfl rfl hHeld ?_
                    try simp only [Act.put, List.setIfInBounds_toArray, List.set_cons_zero, List.set_cons_succ]
                    refine wpAnyH_ready (rs := [6, 7]) (by kernel_rfl) (by simp) ?_
                    refine (AllReadyH.cons rfl (fun K hK => ?_) (AllReadyH.cons rfl (fun K hK => ?_) AllReadyH.nil))
                    · go_simp
                      refine (HOff.out _).mono ?_
                      rintro e v1 ⟨rfl, hB1⟩
                      refine hK.out _ _ (bl hHeld hB1) (fun hHeld => ?_)
                      clear hK K
                      try simp only [Act.put, List.setIfInBounds_toArray, List.set_cons_zero, List.set_cons_succ]
                      refine wpAnyH_ready (rs := [7]) (by kernel_rfl) (by simp) ?_
                      refine (AllReadyH.cons rfl (fun K hK => ?_) AllReadyH.nil)
                      rw [if_pos (by rfl)]
                      simp only [List.getElem_toArray, List.getElem_cons_zero, List.getElem_cons_succ]
                      with_reducible refine S_new 30 22 (L fun _ => 0) ((L_zero HL).1) ?_
                      intro p22 v2 g22 l22 m22 hB2
                      have q22 : wr.heap.size ≤ p22 := Nat.le_trans hHeld.size g22
                      refine hK.out _ _ (bl hHeld hB2) (fun hHeld => ?_)
                      clear hK K
                      try simp only [Act.put, List.setIfInBounds_toArray, List.set_cons_zero, List.set_cons_succ]
                      refine wpAnyH_ready (rs := [8]) (by kernel_rfl) (by simp) ?_
                      refine (AllReadyH.cons rfl (fun K hK => ?_) AllReadyH.nil)
                      rw [if_pos (by rfl)]
                      simp only [List.getElem_toArray, List.getElem_cons_zero, List.getElem_cons_succ]
                      with_reducible refine S_store 30 22 90 ta30 (L (off k)) (L fun _ => 0) (L_len HL _) (L_len HL _) (L_one HL _) (p22) 0 ?_ ?_ m22 ?_
                      · rfl
                      · rfl
                      intro v3 m22' hO3
                      refine hK.out _ _ (bo hHeld hO3 q22) (fun hHeld => ?_)
                      clear hK K
                      try simp only [Act.put]
                      have l22 := Nat.lt_of_lt_of_le l22 hO3.size
                      have m22 := m22'
                      refine wpAnyH_done (by kernel_rfl) ?_ _
                      exact ⟨p22, rfl, rfl, hHeld, m22, q22⟩
                    · rw [if_pos (by rfl)]
                      simp only [List.getElem_toArray, List.getElem_cons_zero, List.getElem_cons_succ]
                      with_reducible refine S_new 30 22 (L fun _ => 0) ((L_zero HL).1) ?_
                      intro p22 v4 g22 l22 m22 hB4
                      have q22 : wr.heap.size ≤ p22 := Nat.le_trans hHeld.size g22
                      refine hK.out _ _ (bl hHeld hB4) (fun hHeld => ?_)
                      clear hK K
                      try simp only [Act.put, List.setIfInBounds_toArray, List.set_cons_zero, List.set_cons_succ]
                      refine wpAnyH_ready (rs := [6]) (by kernel_rfl) (by simp) ?_
                      refine (AllReadyH.cons rfl (fun K hK => ?_) AllReadyH.nil)
                      go_simp
                      refine (HOff.out _).mono ?_
                      rintro e v5 ⟨rfl, hB5⟩
                      refine hK.out _ _ (bl hHeld hB5) (fun hHeld => ?_)
                      clear hK K
                      try simp only [Act.put, List.setIfInBounds_toArray, List.set_cons_zero, List.set_cons_succ]
                      have m22 := m22.below hB5 l22
                      have l22 := Nat.lt_of_lt_of_le l22 hB5.size
                      refine wpAnyH_ready (rs := [8]) (by kernel_rfl) (by simp) ?_
                      refine (AllReadyH.cons rfl (fun K hK => ?_) AllReadyH.nil)
                      rw [if_pos (by rfl)]
                      simp only [List.getElem_toArray, List.getElem_cons_zero, List.getElem_cons_succ]
                      with_reducible refine S_store 30 22 90 ta30 (L (off k)) (L fun _ => 0) (L_len HL _) (L_len HL _) (L_one HL _) (p22) 0 ?_ ?_ m22 ?_
                      · rfl
                      · rfl
                      intro v6 m22' hO6
                      refine hK.out _ _ (bo hHeld hO6 q22) (fun hHeld => ?_)
                      clear hK K
                      try simp only [Act.put]
                      have l22 := Nat.lt_of_lt_of_le l22 hO6.size
                      have m22 := m22'
                      refine wpAnyH_done (by kernel_rfl) ?_ _
                      exact ⟨p22, rfl, rfl, hHeld, m22, q22⟩
                  · rintro p22 w22 ⟨B22, m22, q22⟩
                    simp only [Act.put, List.setIfInBounds_toArray, List.set_cons_zero, List.set_cons_succ]
                    have M22 : Hid (Mem w22 p22 0 (L (off k))) := m22
                    have l22 : p22 < w22.heap.size := L_lt HL m22
                    have HM22 : Hid (Mem w22 p18 0 (L (offO off m))) := HM.out.below B22 lr18
                    have HO22 : Hid (Only p18 0 20 x2 w22) := ob HO.out B22 lx18
                    have l18 : p18 < w22.heap.size := Nat.lt_of_lt_of_le lr18 B22.size
                    have M17 : Hid (Mem w22 p17 0 (L (off j))) := M17r.out.below B22 lr17
                    have l17 : p17 < w22.heap.size := Nat.lt_of_lt_of_le lr17 B22.size
                    clear m22 q22 B22 HM HO hck hcs
                    go_wp2_with (first | ((with_reducible refine D_load 30 91 ta30 (L (off j)) (L_len HL _) p17 0 ?_ ?_ ?_); (rfl); (exact M17.out)) | ((with_reducible refine D_load 30 92 ta30 (L (off k)) (L_len HL _) p22 0 ?_ ?_ ?_); (rfl); (exact M22.out)))
                    refine (less_any HL (off j) (off k) _ (hoko.out j) (hoko.out k)).mono ?_
                    rintro e w23 ⟨rfl, B23⟩
                    have M22 : Hid (Mem w23 p22 0 (L (off k))) := M22.out.below B23 l22
                    have HM22 : Hid (Mem w23 p18 0 (L (offO off m))) := HM22.out.below B23 l18
                    have HO22 : Hid (Only p18 0 20 x2 w23) := ob HO22.out B23 lx18
                    have l22 : p22 < w23.heap.size := Nat.lt_of_lt_of_le l22 B23.size
                    have l18 : p18 < w23.heap.size := Nat.lt_of_lt_of_le l18 B23.size
                    clear B23 M17 l17
                    by_cases hab : V (off j) < V (off k)
                    · have HA : Hid (above el (fun i => V (off i)) j k = true) := by show above _ _ _ _ = true; rw [above, HT.out, decide_eq_true hab]; rfl
                      rw [decide_eq_true hab]
                      clear hab
                      cases m with
                      | none =>
                        have hneg : idx none = -1 := rfl
                        simp only [hneg]
                        go_wp2_with (first | ((with_reducible refine D_load 30 104 ta30 (L (off k)) (L_len HL _) p22 0 ?_ ?_ ?_); (rfl); (exact M22.out)) | ((with_reducible refine D_store 30 18 104 ta30 (L (off k)) (L (offO off none)) (L_len HL _) (L_len HL _) (L_one HL _) p18 0 ?_ ?_ ?_ ?_); (rfl); (rfl); (exact HM22.out); (intro w25 m25 o25)))
                        go_roundw
                        case rel =>
                          refine ⟨k + 1, some k, by omega, rfl, by go_num, ?_, m25, HO22.out.trans o25⟩
                          show fmin _ _ (k + 1) = some k
                          exact fmin_yes_none HA.out HF.out
                        case measure => simp [intOf]; omega
                      | some j2 =>
                        have hix : idx (some j2) = (j2 : Int) := rfl
                        simp only [hix]
                        have hj0 : (0 : Int) ≤ (j2 : Int) := by omega
                        have hj1 : ¬ (j2 : Int) < 0 := by omega
                        go_wp2_with (first | ((with_reducible refine G_load 30 98 ta30 (L (off k)) (L_len HL _) p22 0 ?_ ?_ ?_ ?_); (rfl); (rfl); (exact M22.out)) | ((with_reducible refine G_load 30 99 ta30 (L (off j2)) (L_len HL _) p18 0 ?_ ?_ ?_ ?_); (rfl); (rfl); (exact HM22.out)))
                        refine (less_any HL (off k) (off j2) _ (hoko.out k) (hoko.out j2)).mono ?_
                        rintro e w24 ⟨rfl, B24⟩
                        have M22 : Hid (Mem w24 p22 0 (L (off k))) := M22.out.below B24 l22
                        have HM22 : Hid (Mem w24 p18 0 (L (offO off (some j2)))) := HM22.out.below B24 l18
                        have HO22 : Hid (Only p18 0 20 x2 w24) := ob HO22.out B24 lx18
                        clear B24
                        by_cases hlt : V (off k) < V (off j2)
                        · have HLt : Hid (V (off k) < V (off j2)) := hlt
                          rw [decide_eq_true hlt]
                          clear hlt
                          go_wp2_with (first | ((with_reducible refine D_load 30 104 ta30 (L (off k)) (L_len HL _) p22 0 ?_ ?_ ?_); (rfl); (exact M22.out)) | ((with_reducible refine D_store 30 18 104 ta30 (L (off k)) (L (offO off (some j2))) (L_len HL _) (L_len HL _) (L_one HL _) p18 0 ?_ ?_ ?_ ?_); (rfl); (rfl); (exact HM22.out); (intro w25 m25 o25)))
                          go_roundw
                          case rel =>
                            refine ⟨k + 1, some k, by omega, rfl, by go_num, ?_, m25, HO22.out.trans o25⟩
                            show fmin _ _ (k + 1) = some k
                            exact fmin_yes_lt HA.out HF.out HLt.out
                          case measure => simp [intOf]; omega
                        · have HLt : Hid (V (off j2) ≤ V (off k)) := by show _ ≤ _; omega
                          rw [decide_eq_false hlt]
                          clear hlt
                          go_wp2_with fail
                          go_roundw
                          case rel =>
                            refine ⟨k + 1, some j2, by omega, rfl, by go_num, ?_, HM22.out, HO22.out⟩
                            show fmin _ _ (k + 1) = some j2
                            exact fmin_yes_ge HA.out HF.out (by have := HLt.out; omega)
                          case measure => simp [intOf]; omega
                    · have HA : Hid (above el (fun i => V (off i)) j k = false) := by show above _ _ _ _ = false; rw [above, decide_eq_false hab]; simp
                      rw [decide_eq_false hab]
                      clear hab
                      go_wp2_with fail
                      go_roundw
                      case rel =>
                        refine ⟨k + 1, m, by omega, rfl, by go_num, ?_, HM22.out, HO22.out⟩
                        show fmin _ _ (k + 1) = m
                        rw [fmin_no HA.out]; exact HF.out
                      case measure => simp [intOf]; omega
                · have HT : Hid (el k = false) := by show el k = false; rw [HEl.out, hkk]; simp [hst]
                  go_wp2_with fail
                  go_roundw
                  case rel =>
                    refine ⟨k + 1, m, by omega, rfl, by go_num, ?_, HM.out, HO.out⟩
                    show fmin _ _ (k + 1) = m
                    rw [fmin_no (by rw [above, HT.out]; rfl)]; exact HF.out
                  case measure => simp [intOf]; omega
          · have hkk : n = k := by omega
            subst hkk
            obtain ⟨f1, _⟩ | ⟨jj, f1, hp0, hr0, hs2⟩ := hS.out
            · rw [HF1.out] at f1; exact absurd f1 (by simp)
            have hjj : j = jj := by have := HF1.out.symm.trans f1; simpa using this
            subst hjj
            have hjn0 : j < n := (fmin_some f1).1
            clear f1
            cases m with
            | none =>
              have hneg : idx none = -1 := rfl
              simp only [hneg]
              have hsn : s.n = 1 := by
                rcases hs2 with ⟨_, h⟩ | ⟨j2, f2, _⟩
                · exact h
                · rw [HF.out] at f2; exact absurd f2 (by simp)
              clear hs2
              have M17T := M17r
              have l17T := lr17
              go_wp2_with fail
              have HNT : Hid (NearAt L wr b0 0 s) := hN.out.below BR.out hN.out.lt
              have lbT := HNT.out.lt
              refine (count_near b0 0 s _ HNT).mono ?_
              rintro e x ⟨rfl, hx⟩
              rw [hx, hsn]
              clear hx x
              have hm0 : Hid (wr.cell? ⟨q j, 2, none⟩ = some (.int .u64 (j : Int))) := ((BR.out).cell (p := ⟨q j, 2, none⟩) (World.block_lt_of_cell? w _ (hQ.out j hjn0))).trans (hQ.out j hjn0)
              have lq0 : q j < wr.heap.size := World.block_lt_of_cell? wr _ hm0.out
              have hwj : IntKind.u64.wrap (j : Int) = (j : Int) := by simp only [IntKind.wrap, IntKind.signed, IntKind.bits]; simp; omega
              have hzj : (0 : Int) ≤ (j : Int) := by omega
              have HOn0 : Hid (∀ w : World, Hid (NearAt L w b0 0 s) → Calls Try.prog 16 #[.pointer (some ⟨b0, 0, none⟩), .int .i64 0] w fun e w' => e = .returned (.agg (L (off j)).toArray) ∧ Below w.heap.size w w') := by
                intro w h; rw [← hr0]; exact offset_near HL b0 0 s 0 (by omega) w h
              go_wp2_with fail
              refine wp_region_held_drew (S := fun w' => Below wr.heap.size wr w') (by kernel_rfl) (below_drew _ wr) (fun hHeld => ?_)
              refine H_move 0 113 (.int .i64 1) rfl (by kernel_rfl) (by kernel_rfl) (by kernel_rfl) (fun _ _ _ h => h) rfl rfl hHeld ?_
              try simp only [Act.put, List.setIfInBounds_toArray, List.set_cons_zero, List.set_cons_succ]
              refine H_take 1 114 (.bool true) rfl rfl (by kernel_rfl) (by kernel_rfl) (by kernel_rfl) (fun _ _ _ h => h) rfl ?_ hHeld ?_
              · intro _ _; go_simp
              try simp only [Act.put, List.setIfInBounds_toArray, List.set_cons_zero, List.set_cons_succ]
              refine H_move 2 115 (.bool true) rfl (by kernel_rfl) (by kernel_rfl) (by kernel_rfl) (fun _ _ _ h => h) rfl rfl hHeld ?_
              try simp only [Act.put, List.setIfInBounds_toArray, List.set_cons_zero, List.set_cons_succ]
              refine H_move 3 116 (.pointer (some ⟨b0, 0, none⟩)) rfl (by kernel_rfl) (by kernel_rfl) (by kernel_rfl) (fun _ _ _ h => h) rfl rfl hHeld ?_
              try simp only [Act.put, List.setIfInBounds_toArray, List.set_cons_zero, List.set_cons_succ]
              refine H_load 30 5 118 ta30 (L (off j)) (L_len HL _) (p17) (0) rfl (by kernel_rfl) (by kernel_rfl) (by kernel_rfl) (fun _ _ _ h => h) rfl rfl (fun w' h => (M17T.out.below h l17T)) hHeld ?_
              try simp only [Act.put, List.setIfInBounds_toArray, List.set_cons_zero, List.set_cons_succ]
              refine wpAnyH_ready (rs := [4]) (by kernel_rfl) (by simp) ?_
              refine (AllReadyH.cons rfl (fun K hK => ?_) AllReadyH.nil)
              go_simp
              refine (HOn0.out _ (HNT.out.below hHeld lbT)).mono ?_
              rintro e y1 ⟨rfl, hB1⟩
              refine hK.out _ _ (bl hHeld hB1) (fun hHeld => ?_)
              clear hK K
              try simp only [Act.put, List.setIfInBounds_toArray, List.set_cons_zero, List.set_cons_succ]
              refine H_take 6 119 (.bool false) rfl rfl (by kernel_rfl) (by kernel_rfl) (by kernel_rfl) (fun _ _ _ h => h) rfl ?_ hHeld ?_
              · intro w' _; have hq := L_equal30 HL (off j) (hoko.out j) w'; go_simp
              try simp only [Act.put, List.setIfInBounds_toArray, List.set_cons_zero, List.set_cons_succ]
              refine H_move 7 120 (.bool false) rfl (by kernel_rfl) (by kernel_rfl) (by kernel_rfl) (fun _ _ _ h => h) rfl rfl hHeld ?_
              try simp only [Act.put, List.setIfInBounds_toArray, List.set_cons_zero, List.set_cons_succ]
              refine H_move 8 121 (.pointer (some ⟨b0, 0, none⟩)) rfl (by kernel_rfl) (by kernel_rfl) (by kernel_rfl) (fun _ _ _ h => h) rfl rfl hHeld ?_
              try simp only [Act.put, List.setIfInBounds_toArray, List.set_cons_zero, List.set_cons_succ]
              refine H_move 10 123 (.int .i64 j) rfl (by kernel_rfl) (by kernel_rfl) (by kernel_rfl) (fun _ _ _ h => h) rfl rfl hHeld ?_
              try simp only [Act.put, List.setIfInBounds_toArray, List.set_cons_zero, List.set_cons_succ]
              refine H_take 11 124 (.int .u64 j) rfl rfl (by kernel_rfl) (by kernel_rfl) (by kernel_rfl) (fun _ _ _ h => h) rfl ?_ hHeld ?_
              · intro _ _; have hw := hwj; go_simp
              try simp only [Act.put, List.setIfInBounds_toArray, List.set_cons_zero, List.set_cons_succ]
              refine wpAnyH_ready (rs := [9]) (by kernel_rfl) (by simp) ?_
              refine (AllReadyH.cons rfl (fun K hK => ?_) AllReadyH.nil)
              go_simp
              refine (made_near b0 0 s 0 (q j) j (by omega) _ (HNT.out.below hHeld lbT) hp0 ((hHeld.cell (p := ⟨q j, 2, none⟩) lq0).trans hm0.out)).mono ?_
              rintro e v2 ⟨rfl, hB2⟩
              rw [hB2]
              clear hB2 v2
              refine hK.out _ _ (hHeld) (fun hHeld => ?_)
              clear hK K
              try simp only [Act.put, List.setIfInBounds_toArray, List.set_cons_zero, List.set_cons_succ]
              refine H_take 12 125 (.bool false) rfl rfl (by kernel_rfl) (by kernel_rfl) (by kernel_rfl) (fun _ _ _ h => h) rfl ?_ hHeld ?_
              · intro _ _; go_simp
              try simp only [Act.put, List.setIfInBounds_toArray, List.set_cons_zero, List.set_cons_succ]
              refine H_take 13 126 (.bool false) rfl rfl (by kernel_rfl) (by kernel_rfl) (by kernel_rfl) (fun _ _ _ h => h) rfl ?_ hHeld ?_
              · intro _ _; go_simp
              try simp only [Act.put, List.setIfInBounds_toArray, List.set_cons_zero, List.set_cons_succ]
              refine H_take 14 127 (.bool false) rfl rfl (by kernel_rfl) (by kernel_rfl) (by kernel_rfl) (fun _ _ _ h => h) rfl ?_ hHeld ?_
              · intro _ _; go_simp
              try simp only [Act.put, List.setIfInBounds_toArray, List.set_cons_zero, List.set_cons_succ]
              refine wpAnyH_done (by kernel_rfl) ?_ _
              have HT1 := Hid.mk hHeld
              clear hHeld
              have HNT : Hid (NearAt L y1 b0 0 s) := HNT.out.below HT1.out lbT
              have lbT := HNT.out.lt
              go_wp2_with fail
              refine wp_region_held_drew (S := fun w' => Below y1.heap.size y1 w') (by kernel_rfl) (below_drew _ y1) (fun hHeld => ?_)
              refine H_move 0 128 (.int .i64 1) rfl (by kernel_rfl) (by kernel_rfl) (by kernel_rfl) (fun _ _ _ h => h) rfl rfl hHeld ?_
              try simp only [Act.put, List.setIfInBounds_toArray, List.set_cons_zero, List.set_cons_succ]
              refine H_take 1 129 (.bool false) rfl rfl (by kernel_rfl) (by kernel_rfl) (by kernel_rfl) (fun _ _ _ h => h) rfl ?_ hHeld ?_
              · intro _ _; go_simp
              try simp only [Act.put, List.setIfInBounds_toArray, List.set_cons_zero, List.set_cons_succ]
              refine H_move 2 130 (.bool false) rfl (by kernel_rfl) (by kernel_rfl) (by kernel_rfl) (fun _ _ _ h => h) rfl rfl hHeld ?_
              try simp only [Act.put, List.setIfInBounds_toArray, List.set_cons_zero, List.set_cons_succ]
              refine H_skip 3 131 rfl rfl (by kernel_rfl) (by kernel_rfl) (by kernel_rfl) (fun _ _ _ h => h) rfl hHeld ?_
              try simp only [Act.put, List.setIfInBounds_toArray, List.set_cons_zero, List.set_cons_succ]
              refine H_skip 4 132 rfl rfl (by kernel_rfl) (by kernel_rfl) (by kernel_rfl) (fun _ _ _ h => h) rfl hHeld ?_
              try simp only [Act.put, List.setIfInBounds_toArray, List.set_cons_zero, List.set_cons_succ]
              refine H_skip 5 133 rfl rfl (by kernel_rfl) (by kernel_rfl) (by kernel_rfl) (fun _ _ _ h => h) rfl hHeld ?_
              try simp only [Act.put, List.setIfInBounds_toArray, List.set_cons_zero, List.set_cons_succ]
              refine H_skip 6 134 rfl rfl (by kernel_rfl) (by kernel_rfl) (by kernel_rfl) (fun _ _ _ h => h) rfl hHeld ?_
              try simp only [Act.put, List.setIfInBounds_toArray, List.set_cons_zero, List.set_cons_succ]
              refine H_skip 7 135 rfl rfl (by kernel_rfl) (by kernel_rfl) (by kernel_rfl) (fun _ _ _ h => h) rfl hHeld ?_
              try simp only [Act.put, List.setIfInBounds_toArray, List.set_cons_zero, List.set_cons_succ]
              refine H_skip 8 136 rfl rfl (by kernel_rfl) (by kernel_rfl) (by kernel_rfl) (fun _ _ _ h => h) rfl hHeld ?_
              try simp only [Act.put, List.setIfInBounds_toArray, List.set_cons_zero, List.set_cons_succ]
              refine H_skip 9 137 rfl rfl (by kernel_rfl) (by kernel_rfl) (by kernel_rfl) (fun _ _ _ h => h) rfl hHeld ?_
              try simp only [Act.put, List.setIfInBounds_toArray, List.set_cons_zero, List.set_cons_succ]
              refine H_skip 10 138 rfl rfl (by kernel_rfl) (by kernel_rfl) (by kernel_rfl) (fun _ _ _ h => h) rfl hHeld ?_
              try simp only [Act.put, List.setIfInBounds_toArray, List.set_cons_zero, List.set_cons_succ]
              refine H_skip 11 139 rfl rfl (by kernel_rfl) (by kernel_rfl) (by kernel_rfl) (fun _ _ _ h => h) rfl hHeld ?_
              try simp only [Act.put, List.setIfInBounds_toArray, List.set_cons_zero, List.set_cons_succ]
              refine H_skip 12 140 rfl rfl (by kernel_rfl) (by kernel_rfl) (by kernel_rfl) (fun _ _ _ h => h) rfl hHeld ?_
              try simp only [Act.put, List.setIfInBounds_toArray, List.set_cons_zero, List.set_cons_succ]
              refine H_skip 13 141 rfl rfl (by kernel_rfl) (by kernel_rfl) (by kernel_rfl) (fun _ _ _ h => h) rfl hHeld ?_
              try simp only [Act.put, List.setIfInBounds_toArray, List.set_cons_zero, List.set_cons_succ]
              refine H_take 14 142 (.bool false) rfl rfl (by kernel_rfl) (by kernel_rfl) (by kernel_rfl) (fun _ _ _ h => h) rfl ?_ hHeld ?_
              · intro _ _; go_simp
              try simp only [Act.put, List.setIfInBounds_toArray, List.set_cons_zero, List.set_cons_succ]
              refine wpAnyH_done (by kernel_rfl) ?_ _
              have HT2 := Hid.mk hHeld
              clear hHeld
              go_wp2_with fail
              go_ret
              exact ⟨rfl, bl (bl (BR.out) HT1.out) HT2.out⟩
            | some j2 =>
              have hix : idx (some j2) = (j2 : Int) := rfl
              simp only [hix]
              have hj20 : (0 : Int) ≤ (j2 : Int) := by omega
              obtain ⟨f2, _⟩ | ⟨jj2, f2, hsn, hp1, hr1⟩ := hs2
              · rw [HF.out] at f2; exact absurd f2 (by simp)
              have hjj2 : j2 = jj2 := by have := HF.out.symm.trans f2; simpa using this
              subst hjj2
              have hjn1 : j2 < n := (fmin_some f2).1
              clear f2
              have M17T := M17r
              have l17T := lr17
              have M18T : Hid (Mem wr p18 0 (L (off j2))) := HM.out
              have l18T := lr18
              go_wp2_with fail
              have HNT : Hid (NearAt L wr b0 0 s) := hN.out.below BR.out hN.out.lt
              have lbT := HNT.out.lt
              refine (count_near b0 0 s _ HNT).mono ?_
              rintro e x ⟨rfl, hx⟩
              rw [hx, hsn]
              clear hx x
              have hm0 : Hid (wr.cell? ⟨q j, 2, none⟩ = some (.int .u64 (j : Int))) := ((BR.out).cell (p := ⟨q j, 2, none⟩) (World.block_lt_of_cell? w _ (hQ.out j hjn0))).trans (hQ.out j hjn0)
              have lq0 : q j < wr.heap.size := World.block_lt_of_cell? wr _ hm0.out
              have hwj : IntKind.u64.wrap (j : Int) = (j : Int) := by simp only [IntKind.wrap, IntKind.signed, IntKind.bits]; simp; omega
              have hzj : (0 : Int) ≤ (j : Int) := by omega
              have HOn0 : Hid (∀ w : World, Hid (NearAt L w b0 0 s) → Calls Try.prog 16 #[.pointer (some ⟨b0, 0, none⟩), .int .i64 0] w fun e w' => e = .returned (.agg (L (off j)).toArray) ∧ Below w.heap.size w w') := by
                intro w h; rw [← hr0]; exact offset_near HL b0 0 s 0 (by omega) w h
              have hm1 : Hid (wr.cell? ⟨q j2, 2, none⟩ = some (.int .u64 (j2 : Int))) := ((BR.out).cell (p := ⟨q j2, 2, none⟩) (World.block_lt_of_cell? w _ (hQ.out j2 hjn1))).trans (hQ.out j2 hjn1)
              have lq1 : q j2 < wr.heap.size := World.block_lt_of_cell? wr _ hm1.out
              have hwj2 : IntKind.u64.wrap (j2 : Int) = (j2 : Int) := by simp only [IntKind.wrap, IntKind.signed, IntKind.bits]; simp; omega
              have hzj2 : (0 : Int) ≤ (j2 : Int) := by omega
              have HOn1 : Hid (∀ w : World, Hid (NearAt L w b0 0 s) → Calls Try.prog 16 #[.pointer (some ⟨b0, 0, none⟩), .int .i64 1] w fun e w' => e = .returned (.agg (L (off j2)).toArray) ∧ Below w.heap.size w w') := by
                intro w h; rw [← hr1]; exact offset_near HL b0 0 s 1 (by omega) w h
              go_wp2_with fail
              refine wp_region_held_drew (S := fun w' => Below wr.heap.size wr w') (by kernel_rfl) (below_drew _ wr) (fun hHeld => ?_)
              refine H_move 0 113 (.int .i64 2) rfl (by kernel_rfl) (by kernel_rfl) (by kernel_rfl) (fun _ _ _ h => h) rfl rfl hHeld ?_
              try simp only [Act.put, List.setIfInBounds_toArray, List.set_cons_zero, List.set_cons_succ]
              refine H_take 1 114 (.bool true) rfl rfl (by kernel_rfl) (by kernel_rfl) (by kernel_rfl) (fun _ _ _ h => h) rfl ?_ hHeld ?_
              · intro _ _; go_simp
              try simp only [Act.put, List.setIfInBounds_toArray, List.set_cons_zero, List.set_cons_succ]
              refine H_move 2 115 (.bool true) rfl (by kernel_rfl) (by kernel_rfl) (by kernel_rfl) (fun _ _ _ h => h) rfl rfl hHeld ?_
              try simp only [Act.put, List.setIfInBounds_toArray, List.set_cons_zero, List.set_cons_succ]
              refine H_move 3 116 (.pointer (some ⟨b0, 0, none⟩)) rfl (by kernel_rfl) (by kernel_rfl) (by kernel_rfl) (fun _ _ _ h => h) rfl rfl hHeld ?_
              try simp only [Act.put, List.setIfInBounds_toArray, List.set_cons_zero, List.set_cons_succ]
              refine H_load 30 5 118 ta30 (L (off j)) (L_len HL _) (p17) (0) rfl (by kernel_rfl) (by kernel_rfl) (by kernel_rfl) (fun _ _ _ h => h) rfl rfl (fun w' h => (M17T.out.below h l17T)) hHeld ?_
              try simp only [Act.put, List.setIfInBounds_toArray, List.set_cons_zero, List.set_cons_succ]
              refine wpAnyH_ready (rs := [4]) (by kernel_rfl) (by simp) ?_
              refine (AllReadyH.cons rfl (fun K hK => ?_) AllReadyH.nil)
              go_simp
              refine (HOn0.out _ (HNT.out.below hHeld lbT)).mono ?_
              rintro e y1 ⟨rfl, hB1⟩
              refine hK.out _ _ (bl hHeld hB1) (fun hHeld => ?_)
              clear hK K
              try simp only [Act.put, List.setIfInBounds_toArray, List.set_cons_zero, List.set_cons_succ]
              refine H_take 6 119 (.bool false) rfl rfl (by kernel_rfl) (by kernel_rfl) (by kernel_rfl) (fun _ _ _ h => h) rfl ?_ hHeld ?_
              · intro w' _; have hq := L_equal30 HL (off j) (hoko.out j) w'; go_simp
              try simp only [Act.put, List.setIfInBounds_toArray, List.set_cons_zero, List.set_cons_succ]
              refine H_move 7 120 (.bool false) rfl (by kernel_rfl) (by kernel_rfl) (by kernel_rfl) (fun _ _ _ h => h) rfl rfl hHeld ?_
              try simp only [Act.put, List.setIfInBounds_toArray, List.set_cons_zero, List.set_cons_succ]
              refine H_move 8 121 (.pointer (some ⟨b0, 0, none⟩)) rfl (by kernel_rfl) (by kernel_rfl) (by kernel_rfl) (fun _ _ _ h => h) rfl rfl hHeld ?_
              try simp only [Act.put, List.setIfInBounds_toArray, List.set_cons_zero, List.set_cons_succ]
              refine H_move 10 123 (.int .i64 j) rfl (by kernel_rfl) (by kernel_rfl) (by kernel_rfl) (fun _ _ _ h => h) rfl rfl hHeld ?_
              try simp only [Act.put, List.setIfInBounds_toArray, List.set_cons_zero, List.set_cons_succ]
              refine H_take 11 124 (.int .u64 j) rfl rfl (by kernel_rfl) (by kernel_rfl) (by kernel_rfl) (fun _ _ _ h => h) rfl ?_ hHeld ?_
              · intro _ _; have hw := hwj; go_simp
              try simp only [Act.put, List.setIfInBounds_toArray, List.set_cons_zero, List.set_cons_succ]
              refine wpAnyH_ready (rs := [9]) (by kernel_rfl) (by simp) ?_
              refine (AllReadyH.cons rfl (fun K hK => ?_) AllReadyH.nil)
              go_simp
              refine (made_near b0 0 s 0 (q j) j (by omega) _ (HNT.out.below hHeld lbT) hp0 ((hHeld.cell (p := ⟨q j, 2, none⟩) lq0).trans hm0.out)).mono ?_
              rintro e v2 ⟨rfl, hB2⟩
              rw [hB2]
              clear hB2 v2
              refine hK.out _ _ (hHeld) (fun hHeld => ?_)
              clear hK K
              try simp only [Act.put, List.setIfInBounds_toArray, List.set_cons_zero, List.set_cons_succ]
              refine H_take 12 125 (.bool false) rfl rfl (by kernel_rfl) (by kernel_rfl) (by kernel_rfl) (fun _ _ _ h => h) rfl ?_ hHeld ?_
              · intro _ _; go_simp
              try simp only [Act.put, List.setIfInBounds_toArray, List.set_cons_zero, List.set_cons_succ]
              refine H_take 13 126 (.bool false) rfl rfl (by kernel_rfl) (by kernel_rfl) (by kernel_rfl) (fun _ _ _ h => h) rfl ?_ hHeld ?_
              · intro _ _; go_simp
              try simp only [Act.put, List.setIfInBounds_toArray, List.set_cons_zero, List.set_cons_succ]
              refine H_take 14 127 (.bool false) rfl rfl (by kernel_rfl) (by kernel_rfl) (by kernel_rfl) (fun _ _ _ h => h) rfl ?_ hHeld ?_
              · intro _ _; go_simp
              try simp only [Act.put, List.setIfInBounds_toArray, List.set_cons_zero, List.set_cons_succ]
              refine wpAnyH_done (by kernel_rfl) ?_ _
              have HT1 := Hid.mk hHeld
              clear hHeld
              have HNT : Hid (NearAt L y1 b0 0 s) := HNT.out.below HT1.out lbT
              have lbT := HNT.out.lt
              have M18T : Hid (Mem y1 p18 0 (L (off j2))) := M18T.out.below HT1.out l18T
              have l18T := Nat.lt_of_lt_of_le l18T HT1.out.size
              have hm1 := Hid.mk ((HT1.out.cell (p := ⟨q j2, 2, none⟩) lq1).trans hm1.out)
              have lq1 := Nat.lt_of_lt_of_le lq1 HT1.out.size
              go_wp2_with fail
              refine wp_region_held_drew (S := fun w' => Below y1.heap.size y1 w') (by kernel_rfl) (below_drew _ y1) (fun hHeld => ?_)
              refine H_move 0 128 (.int .i64 2) rfl (by kernel_rfl) (by kernel_rfl) (by kernel_rfl) (fun _ _ _ h => h) rfl rfl hHeld ?_
              try simp only [Act.put, List.setIfInBounds_toArray, List.set_cons_zero, List.set_cons_succ]
              refine H_take 1 129 (.bool true) rfl rfl (by kernel_rfl) (by kernel_rfl) (by kernel_rfl) (fun _ _ _ h => h) rfl ?_ hHeld ?_
              · intro _ _; go_simp
              try simp only [Act.put, List.setIfInBounds_toArray, List.set_cons_zero, List.set_cons_succ]
              refine H_move 2 130 (.bool true) rfl (by kernel_rfl) (by kernel_rfl) (by kernel_rfl) (fun _ _ _ h => h) rfl rfl hHeld ?_
              try simp only [Act.put, List.setIfInBounds_toArray, List.set_cons_zero, List.set_cons_succ]
              refine H_move 3 131 (.pointer (some ⟨b0, 0, none⟩)) rfl (by kernel_rfl) (by kernel_rfl) (by kernel_rfl) (fun _ _ _ h => h) rfl rfl hHeld ?_
              try simp only [Act.put, List.setIfInBounds_toArray, List.set_cons_zero, List.set_cons_succ]
              refine H_load 30 5 133 ta30 (L (off j2)) (L_len HL _) (p18) (0) rfl (by kernel_rfl) (by kernel_rfl) (by kernel_rfl) (fun _ _ _ h => h) rfl rfl (fun w' h => (M18T.out.below h l18T)) hHeld ?_
              try simp only [Act.put, List.setIfInBounds_toArray, List.set_cons_zero, List.set_cons_succ]
              refine wpAnyH_ready (rs := [4]) (by kernel_rfl) (by simp) ?_
              refine (AllReadyH.cons rfl (fun K hK => ?_) AllReadyH.nil)
              go_simp
              refine (HOn1.out _ (HNT.out.below hHeld lbT)).mono ?_
              rintro e v1 ⟨rfl, hB1⟩
              refine hK.out _ _ (bl hHeld hB1) (fun hHeld => ?_)
              clear hK K
              try simp only [Act.put, List.setIfInBounds_toArray, List.set_cons_zero, List.set_cons_succ]
              refine H_take 6 134 (.bool false) rfl rfl (by kernel_rfl) (by kernel_rfl) (by kernel_rfl) (fun _ _ _ h => h) rfl ?_ hHeld ?_
              · intro w' _; have hq := L_equal30 HL (off j2) (hoko.out j2) w'; go_simp
              try simp only [Act.put, List.setIfInBounds_toArray, List.set_cons_zero, List.set_cons_succ]
              refine H_move 7 135 (.bool false) rfl (by kernel_rfl) (by kernel_rfl) (by kernel_rfl) (fun _ _ _ h => h) rfl rfl hHeld ?_
              try simp only [Act.put, List.setIfInBounds_toArray, List.set_cons_zero, List.set_cons_succ]
              refine H_move 8 136 (.pointer (some ⟨b0, 0, none⟩)) rfl (by kernel_rfl) (by kernel_rfl) (by kernel_rfl) (fun _ _ _ h => h) rfl rfl hHeld ?_
              try simp only [Act.put, List.setIfInBounds_toArray, List.set_cons_zero, List.set_cons_succ]
              refine H_move 10 138 (.int .i64 j2) rfl (by kernel_rfl) (by kernel_rfl) (by kernel_rfl) (fun _ _ _ h => h) rfl rfl hHeld ?_
              try simp only [Act.put, List.setIfInBounds_toArray, List.set_cons_zero, List.set_cons_succ]
              refine H_take 11 139 (.int .u64 j2) rfl rfl (by kernel_rfl) (by kernel_rfl) (by kernel_rfl) (fun _ _ _ h => h) rfl ?_ hHeld ?_
              · intro _ _; have hw := hwj2; go_simp
              try simp only [Act.put, List.setIfInBounds_toArray, List.set_cons_zero, List.set_cons_succ]
              refine wpAnyH_ready (rs := [9]) (by kernel_rfl) (by simp) ?_
              refine (AllReadyH.cons rfl (fun K hK => ?_) AllReadyH.nil)
              go_simp
              refine (made_near b0 0 s 1 (q j2) j2 (by omega) _ (HNT.out.below hHeld lbT) hp1 ((hHeld.cell (p := ⟨q j2, 2, none⟩) lq1).trans hm1.out)).mono ?_
              rintro e v2 ⟨rfl, hB2⟩
              rw [hB2]
              clear hB2 v2
              refine hK.out _ _ (hHeld) (fun hHeld => ?_)
              clear hK K
              try simp only [Act.put, List.setIfInBounds_toArray, List.set_cons_zero, List.set_cons_succ]
              refine H_take 12 140 (.bool false) rfl rfl (by kernel_rfl) (by kernel_rfl) (by kernel_rfl) (fun _ _ _ h => h) rfl ?_ hHeld ?_
              · intro _ _; go_simp
              try simp only [Act.put, List.setIfInBounds_toArray, List.set_cons_zero, List.set_cons_succ]
              refine H_take 13 141 (.bool false) rfl rfl (by kernel_rfl) (by kernel_rfl) (by kernel_rfl) (fun _ _ _ h => h) rfl ?_ hHeld ?_
              · intro _ _; go_simp
              try simp only [Act.put, List.setIfInBounds_toArray, List.set_cons_zero, List.set_cons_succ]
              refine H_take 14 142 (.bool false) rfl rfl (by kernel_rfl) (by kernel_rfl) (by kernel_rfl) (fun _ _ _ h => h) rfl ?_ hHeld ?_
              · intro _ _; go_simp
              try simp only [Act.put, List.setIfInBounds_toArray, List.set_cons_zero, List.set_cons_succ]
              refine wpAnyH_done (by kernel_rfl) ?_ _
              have HT2 := Hid.mk hHeld
              clear hHeld
              go_wp2_with fail
              go_ret
              exact ⟨rfl, bl (bl (BR.out) HT1.out) HT2.out⟩
end Go.Proofs.Qxb6609493a
