import Derived.Test.Qxb6609493aZz
namespace Go.Proofs.Qxb6609493a
open Go.RowKit

set_option maxHeartbeats 8000000 in
set_option maxRecDepth 100000 in
/-- The law, where the three slices are of one length. -/
theorem law_same {L : (Nat → Int) → List Value} (HL : IsL L) (sf : Nat → Int) (n : Nat) (aA kA sA : Option Addr) (aC kC sC : Nat) (up : Bool) (ad : Nat → Nat → Int) (kn : Nat → Bool) (st : Nat → Int) (w : World) (hn : n ≤ 16384)
    (HI : Hid (Ins w n aA kA sA ad kn st)) (hok : Hid (∀ i, Ok (ad i))) (hsf : Hid (Ok sf)) (hst : Hid (∀ i, 0 ≤ st i ∧ st i ≤ 255)) :
    Calls Try.prog 6 #[.agg (L sf).toArray, .slice aA n aC, .slice kA n kC, .slice sA n sC, .bool up] w fun e w' => e = .returned (.bool true) ∧ Below w.heap.size w w' := by
  have hI0 : (0 : Int) ≤ (n : Int) := by omega
  have hI1 : (n : Int) ≤ 16384 := by omega
  have hI2 : ¬ (16384 : Int) < (n : Int) := by omega
  go_enter Try.func6, Try.ntmps6
  go_wp2_with (first | ((with_reducible refine D_box 30 5 (L sf) ?_ ?_); (rfl); (intro p5 w5 g5 l5 m5 B5)) | ((with_reducible refine D_load 30 16 ta30 (L sf) (L_len HL _) p5 0 ?_ ?_ ?_); (rfl); (exact m5)))
  refine (zzb_any HL sf n n n aA kA sA aC kC sC up _ (by omega) (by omega) (by omega)).mono ?_
  rintro e w6 ⟨b, rfl, B6⟩
  have M5 : Hid (Mem w6 p5 0 (L sf)) := m5.below B6 l5
  have l56 : p5 < w6.heap.size := Nat.lt_of_lt_of_le l5 B6.size
  have B0 : Hid (Below w.heap.size w w6) := bl B5 B6
  have q5 : w.heap.size ≤ p5 := g5
  clear m5 l5 B5 B6 g5
  cases b with
  | false =>
    go_wp2_with fail
    go_ret
    exact ⟨rfl, B0.out⟩
  | true =>
    go_wp2_with fail
    go_loopw [11] (fun i wr => ∃ k : Nat, k ≤ n ∧ i = .int .i64 k ∧ wr = w6) (fun i _ => n - (intOf i).toNat)
    case atStart => exact ⟨0, by omega, rfl, rfl⟩
    case round =>
      obtain ⟨k, hk, rfl, hwr⟩ := hrel
      rw [hwr]
      clear hwr
      by_cases hkn : k < n
      · have HIr := HI.out.below B0.out
        obtain ⟨kb, ko, hKb, hKr⟩ := HIr.k (by omega)
        obtain ⟨sb, so, hSb, hSr⟩ := HIr.s (by omega)
        have hck := hKr k hkn
        have hcs := hSr k hkn
        have hsb := hst.out k
        clear HIr hKr hSr
        subst hKb
        subst hSb
        obtain ⟨x, hx⟩ : ∃ x, x = st k := ⟨_, rfl⟩
        rw [← hx] at hcs hsb
        clear hx
        obtain ⟨hx0, hx1⟩ := hsb
        have hJ1 : (k : Int) < (n : Int) := by omega
        have hJ2 : (0 : Int) ≤ (k : Int) := by omega
        by_cases h2 : 2 < x
        · go_wp2_with fail
          go_ret
          exact ⟨rfl, B0.out⟩
        · by_cases h3 : x = 2
          · subst h3
            cases hkk : kn k with
            | false =>
              rw [hkk] at hck
              go_wp2_with fail
              go_ret
              exact ⟨rfl, B0.out⟩
            | true =>
              rw [hkk] at hck
              go_wp2_with fail
              go_roundw
              case rel => exact ⟨k + 1, by omega, by go_num, trivial⟩
              case measure => simp [intOf]; omega
          · go_wp2_with fail
            go_roundw
            case rel => exact ⟨k + 1, by omega, by go_num, trivial⟩
            case measure => simp [intOf]; omega
      · have hkk : n = k := by omega
        subst hkk
        go_wp2_with ((with_reducible refine D_load 30 73 ta30 (L sf) (L_len HL _) p5 0 ?_ ?_ ?_); (rfl); (exact M5.out))
        refine (newNode_any HL sf _).mono ?_
        rintro e w7 ⟨N, rfl, hBN, hNo0, B7⟩
        have HNo0 : Hid (NodeM L w7 N sf (.slice none 0 0)) := hNo0
        have B07 : Hid (Below w6.heap.size w6 w7) := B7
        clear hNo0 B7
        go_wp2_with fail
        go_loopw [13] (fun i wr => ∃ (k : Nat) (lv : Value) (q : Nat → Nat), k ≤ n ∧ i = .int .i64 k ∧ Hid (NodeM L wr N sf lv) ∧ Hid (Links L wr w6.heap.size N lv k q ad kn st) ∧ Hid (Below w6.heap.size w6 wr)) (fun i _ => n - (intOf i).toNat)
        case atStart => exact ⟨0, .slice none 0 0, fun _ => 0, by omega, rfl, HNo0.out, ⟨World.ownsRow_nil _ _ _ _, by simp [Value.ownBlock], fun i hi => by omega, fun i hi => by omega⟩, B07.out⟩
        case round =>
          obtain ⟨k, lv, q, hk, rfl, HNo, HLi, HBr⟩ := hrel
          by_cases hkn : k < n
          · have HIr := HI.out.below (bl B0.out HBr.out)
            have HI6 := HI.out.below B0.out
            obtain ⟨A, ao, hA, hAr⟩ := HI6.a (by omega)
            obtain ⟨kb, ko, hKb, hKr⟩ := HI6.k (by omega)
            obtain ⟨sb, so, hSb, hSr⟩ := HI6.s (by omega)
            have HAk : Hid (∀ w', Below w6.heap.size w6 w' → w'.rangeAt A (ao + k * 20) (L (ad k))) := by
              intro w' hw' j v hv
              rw [HL] at hv
              have hc := hAr k hkn j v hv
              exact (hw'.cell (p := ⟨A, ao + k * 20 + j, none⟩) (World.block_lt_of_cell? w6 _ hc)).trans hc
            have HKk : Hid (∀ w', Below w6.heap.size w6 w' → w'.cell? ⟨kb, ko + k, none⟩ = some (.bool (kn k))) := fun w' hw' => (hw'.cell (p := ⟨kb, ko + k, none⟩) (World.block_lt_of_cell? w6 _ (hKr k hkn))).trans (hKr k hkn)
            have HSk : Hid (∀ w', Below w6.heap.size w6 w' → w'.cell? ⟨sb, so + k, none⟩ = some (.int .u8 (st k))) := fun w' hw' => (hw'.cell (p := ⟨sb, so + k, none⟩) (World.block_lt_of_cell? w6 _ (hSr k hkn))).trans (hSr k hkn)
            have hsb := hst.out k
            have hw64 : IntKind.i64.wrap (st k) = st k := by simp only [IntKind.wrap, IntKind.signed, IntKind.bits]; simp; omega
            clear HIr HI6 hAr hKr hSr hsb
            subst hA
            subst hKb
            subst hSb
            have hJ1 : (k : Int) < (n : Int) := by omega
            have hJ2 : (0 : Int) ≤ (k : Int) := by omega
            go_wp2_with fail
            refine wp_region_held_drew (S := fun w' => Below w6.heap.size w6 w') (by kernel_rfl) (HBr.out.trans (below_drew _ wr)) (fun hHeld => ?_)
            refine H_move 0 81 (.pointer (some ⟨N, 0, none⟩)) rfl (by kernel_rfl) (by kernel_rfl) (by kernel_rfl) (fun _ _ _ h => h) rfl rfl hHeld ?_
            try simp only [Act.put, List.setIfInBounds_toArray, List.set_cons_zero, List.set_cons_succ]
            refine H_move 1 82 (.slice (some ⟨A, ao, none⟩) n aC) rfl (by kernel_rfl) (by kernel_rfl) (by kernel_rfl) (fun _ _ _ h => h) rfl rfl hHeld ?_
            try simp only [Act.put, List.setIfInBounds_toArray, List.set_cons_zero, List.set_cons_succ]
            refine H_move 2 83 (.int .i64 k) rfl (by kernel_rfl) (by kernel_rfl) (by kernel_rfl) (fun _ _ _ h => h) rfl rfl hHeld ?_
            try simp only [Act.put, List.setIfInBounds_toArray, List.set_cons_zero, List.set_cons_succ]
            refine H_take 3 84 (.pointer (some ⟨A, ao + k * 20, none⟩)) rfl rfl (by kernel_rfl) (by kernel_rfl) (by kernel_rfl) (fun _ _ _ h => h) rfl ?_ hHeld ?_
            · intro _ _; go_simp
            try simp only [Act.put, List.setIfInBounds_toArray, List.set_cons_zero, List.set_cons_succ]
            refine H_loadR 30 4 85 ta30 (L (ad k)) (L_len HL _) (A) (ao + k * 20) rfl (by kernel_rfl) (by kernel_rfl) (by kernel_rfl) (fun _ _ _ h => h) rfl rfl (fun w' h => HAk.out w' h) hHeld ?_
            try simp only [Act.put, List.setIfInBounds_toArray, List.set_cons_zero, List.set_cons_succ]
            refine H_move 5 86 (.slice (some ⟨kb, ko, none⟩) n kC) rfl (by kernel_rfl) (by kernel_rfl) (by kernel_rfl) (fun _ _ _ h => h) rfl rfl hHeld ?_
            try simp only [Act.put, List.setIfInBounds_toArray, List.set_cons_zero, List.set_cons_succ]
            refine H_move 6 87 (.int .i64 k) rfl (by kernel_rfl) (by kernel_rfl) (by kernel_rfl) (fun _ _ _ h => h) rfl rfl hHeld ?_
            try simp only [Act.put, List.setIfInBounds_toArray, List.set_cons_zero, List.set_cons_succ]
            refine H_take 7 88 (.pointer (some ⟨kb, ko + k, none⟩)) rfl rfl (by kernel_rfl) (by kernel_rfl) (by kernel_rfl) (fun _ _ _ h => h) rfl ?_ hHeld ?_
            · intro _ _; go_simp
            try simp only [Act.put, List.setIfInBounds_toArray, List.set_cons_zero, List.set_cons_succ]
            refine H_take 8 89 (.bool (kn k)) rfl rfl (by kernel_rfl) (by kernel_rfl) (by kernel_rfl) (fun _ _ _ h => h) rfl ?_ hHeld ?_
            · intro w' h; have hc := HKk.out w' h; go_simp
            try simp only [Act.put, List.setIfInBounds_toArray, List.set_cons_zero, List.set_cons_succ]
            refine H_move 9 90 (.slice (some ⟨sb, so, none⟩) n sC) rfl (by kernel_rfl) (by kernel_rfl) (by kernel_rfl) (fun _ _ _ h => h) rfl rfl hHeld ?_
            try simp only [Act.put, List.setIfInBounds_toArray, List.set_cons_zero, List.set_cons_succ]
            refine H_move 10 91 (.int .i64 k) rfl (by kernel_rfl) (by kernel_rfl) (by kernel_rfl) (fun _ _ _ h => h) rfl rfl hHeld ?_
            try simp only [Act.put, List.setIfInBounds_toArray, List.set_cons_zero, List.set_cons_succ]
            refine H_take 11 92 (.pointer (some ⟨sb, so + k, none⟩)) rfl rfl (by kernel_rfl) (by kernel_rfl) (by kernel_rfl) (fun _ _ _ h => h) rfl ?_ hHeld ?_
            · intro _ _; go_simp
            try simp only [Act.put, List.setIfInBounds_toArray, List.set_cons_zero, List.set_cons_succ]
            refine H_take 12 93 (.int .u8 (st k)) rfl rfl (by kernel_rfl) (by kernel_rfl) (by kernel_rfl) (fun _ _ _ h => h) rfl ?_ hHeld ?_
            · intro w' h; have hc := HSk.out w' h; go_simp
            try simp only [Act.put, List.setIfInBounds_toArray, List.set_cons_zero, List.set_cons_succ]
            refine H_take 13 94 (.int .i64 (st k)) rfl rfl (by kernel_rfl) (by kernel_rfl) (by kernel_rfl) (fun _ _ _ h => h) rfl ?_ hHeld ?_
            · intro _ _; have hc := hw64; go_simp
            try simp only [Act.put, List.setIfInBounds_toArray, List.set_cons_zero, List.set_cons_succ]
            refine wpAnyH_ready (rs := [14]) (by kernel_rfl) (by simp) ?_
            refine (AllReadyH.cons rfl (fun K hK => ?_) AllReadyH.nil)
            go_simp
            refine (addLink_any HL w6.heap.size N sf lv k q ad kn st (ad k) (kn k) (st k) _ (by omega) hHeld.size hBN (HNo.out.below (below_drew _ wr) HNo.out.lt) (HLi.out.below (below_drew _ wr)) rfl rfl rfl).mono ?_
            rintro e v1 ⟨rfl, lv', p', hB1, hNo', hLi'⟩
            refine hK.out _ _ (hHeld.trans hB1) (fun hHeld => ?_)
            clear hK K
            try simp only [Act.put, List.setIfInBounds_toArray, List.set_cons_zero, List.set_cons_succ]
            refine wpAnyH_done (by kernel_rfl) ?_ _
            have HNo2 : Hid (NodeM L _ N sf lv') := hNo'
            have HLi2 : Hid (Links L _ w6.heap.size N lv' (k + 1) (upd q k p') ad kn st) := hLi'
            have HBr2 := Hid.mk hHeld
            clear hNo' hLi' hHeld
            go_wp2_with fail
            go_roundw
            case rel => exact ⟨k + 1, lv', upd q k p', by omega, by go_num, HNo2.out, HLi2.out, HBr2.out⟩
            case measure => simp [intOf]; omega
          · have hkk : n = k := by omega
            subst hkk
            have M5r : Hid (Mem wr p5 0 (L sf)) := M5.out.below HBr.out l56
            have l5r : p5 < wr.heap.size := Nat.lt_of_lt_of_le l56 HBr.out.size
            go_wp2_with fail
            refine (nodeSides_any HL w6.heap.size N sf lv n q ad kn st up _ (by omega) HBr.out.size hBN HNo HLi hok hsf).mono ?_
            rintro e w8 ⟨s0, s1, b0, b1, rfl, R0, R1, B8, K8, N0, N1⟩
            have HR0 : Hid (Spec (fun i => kn i && (!up || st i == 2)) (fun i => subF (ad i) sf) q n s0) := run_spec n s0 R0
            have HR1 : Hid (Spec (fun i => kn i && (!up || st i == 2)) (fun i => subF sf (ad i)) q n s1) := run_spec n s1 R1
            have HN0 := Hid.mk N0
            have HN1 := Hid.mk N1
            have B68 : Hid (Below w6.heap.size w6 w8) := HBr.out.trans B8
            have M58 : Hid (Mem w8 p5 0 (L sf)) := M5.out.below B68.out l56
            have l58 : p5 < w8.heap.size := Nat.lt_of_lt_of_le l56 B68.out.size
            have BW8 : Hid (Below w.heap.size w w8) := bl B0.out B68.out
            have HI8 : Hid (Ins w8 n aA kA sA ad kn st) := HI.out.below BW8.out
            have HQ8 : Hid (∀ i, i < n → w8.cell? ⟨q i, 2, none⟩ = some (.int .u64 (i : Int))) := fun i hi => (K8.lk i hi).i
            clear R0 R1 B8 K8 N0 N1
            go_wp2_with ((with_reducible refine D_load 30 103 ta30 (L sf) (L_len HL _) p5 0 ?_ ?_ ?_); (rfl); (exact M58.out))
            refine (side_any HL b0 s0 sf n aA kA sA aC kC sC ad kn st up true q _ _ _ (by omega) HI8 hok hsf (fun i => rfl) (fun i => by show subF (ad i) sf = _; rfl) HN0 HR0 HQ8).mono ?_
            rintro e w9 ⟨rfl, B9⟩
            have HN1 : Hid (NearAt L w9 b1 0 s1) := HN1.out.below B9 HN1.out.lt
            have M59 : Hid (Mem w9 p5 0 (L sf)) := M58.out.below B9 l58
            have HI9 : Hid (Ins w9 n aA kA sA ad kn st) := HI8.out.below B9
            have HQ9 : Hid (∀ i, i < n → w9.cell? ⟨q i, 2, none⟩ = some (.int .u64 (i : Int))) := fun i hi => (B9.cell (p := ⟨q i, 2, none⟩) (World.block_lt_of_cell? w8 _ (HQ8.out i hi))).trans (HQ8.out i hi)
            have BW9 : Hid (Below w.heap.size w w9) := bl BW8.out B9
            clear B9
            go_wp2_with ((with_reducible refine G_load 30 111 ta30 (L sf) (L_len HL _) p5 0 ?_ ?_ ?_ ?_); (rfl); (rfl); (exact M59.out))
            refine (side_any HL b1 s1 sf n aA kA sA aC kC sC ad kn st up false q _ _ _ (by omega) HI9 hok hsf (fun i => rfl) (fun i => by show subF sf (ad i) = _; rfl) HN1 HR1 HQ9).mono ?_
            rintro e w10 ⟨rfl, B10⟩
            go_wp2_with fail
            go_ret
            exact ⟨rfl, bl BW9.out B10⟩
end Go.Proofs.Qxb6609493a
