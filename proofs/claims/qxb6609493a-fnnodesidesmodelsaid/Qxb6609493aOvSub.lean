import Derived.Test.Qxb6609493aLess
namespace Go.Proofs.Qxb6609493a
open Go.RowKit

/-- The bytes from the k-th on (of the end) are laid. -/
def subTo (a b : Nat → Int) (k : Nat) : Nat → Int := fun j => if 20 ≤ j + k then subF a b j else 0
theorem subTo_zero (a b : Nat → Int) : ∀ j, j < 20 → subTo a b 0 j = 0 := fun j hj => by unfold subTo; rw [if_neg (by omega)]
theorem subTo_all (a b : Nat → Int) : ∀ j, j < 20 → subTo a b 20 j = subF a b j := fun j hj => by unfold subTo; rw [if_pos (by omega)]
theorem subTo_step (a b : Nat → Int) (k : Nat) (hk : k < 20) : ∀ j, j < 20 → subTo a b (k + 1) j = if j = 19 - k then subF a b (19 - k) else subTo a b k j := fun j hj => by
  unfold subTo
  by_cases e : j = 19 - k
  · subst e; rw [if_pos (by omega), if_pos rfl]
  · rw [if_neg e]
    by_cases c : 20 ≤ j + k
    · rw [if_pos (by omega), if_pos c]
    · rw [if_neg (by omega), if_neg c]

theorem L_set {L : (Nat → Int) → List Value} (HL : IsL L) {w : World} {b : Nat} {r s : Nat → Int} (h : Mem w b 0 (L r)) (i : Nat) (v : Int) (hi : i < 20) (hs : ∀ j, j < 20 → s j = if j = i then v else r j) : Mem (w.setCell ⟨b, i, none⟩ (.int .u8 v)) b 0 (L s) := by
  refine L_mk HL fun j hj => ?_
  simp only [Nat.zero_add]
  rw [hs j hj]
  refine ⟨?_, (World.frozen?_setCell _ _ _ _).trans (L_fr HL h j hj)⟩
  by_cases e : j = i
  · subst e
    rw [if_pos rfl]
    exact World.cell?_setCell_same _ _ _ (L_at HL h j hj)
  · rw [if_neg e, World.cell?_setCell_other _ _ _ _ (by intro e; injection e; omega)]
    exact L_at HL h j hj

set_option maxHeartbeats 1000000 in
/-- ovB1Sub. -/
theorem ovSub_any {L : (Nat → Int) → List Value} (HL : IsL L) (a b : Nat → Int) (w : World) (ha : Hid (Ok a)) (hb : Hid (Ok b)) :
    Calls Try.prog 30 #[.agg (L a).toArray, .agg (L b).toArray] w fun e w' => e = .returned (.agg (L (subF a b)).toArray) ∧ Below w.heap.size w w' := by
  go_enter Try.func30, Try.ntmps30
  go_wp2_with (first | ((with_reducible refine D_box 30 2 (L a) ?_ ?_); (rfl); (intro p2 w2 g2 l2 m2 B2)) | ((with_reducible refine D_box 30 3 (L b) ?_ ?_); (rfl); (intro p3 w3 g3 l3 m3 B3)) | ((with_reducible refine D_new 30 4 _ (L_zero HL).1 ?_); (intro p4 w4 g4 l4 m4 B4)) | ((with_reducible refine D_new 30 5 _ (L_zero HL).1 ?_); (intro p5 w5 g5 l5 m5 B5)))
  have M2 : Hid (Mem w5 p2 0 (L a)) := m2.below (bl (bl B3 B4) B5) l2
  have M3 : Hid (Mem w5 p3 0 (L b)) := m3.below (bl B4 B5) l3
  have M4 : Hid (Mem w5 p4 0 (L fun _ => 0)) := m4.below B5 l4
  have n25 : p2 ≠ p5 := by have := B3.size; have := B4.size; omega
  have n35 : p3 ≠ p5 := by have := B4.size; omega
  have n45 : p4 ≠ p5 := by omega
  have q4 : w.heap.size ≤ p4 := by have := B2.size; have := B3.size; omega
  have q5 : w.heap.size ≤ p5 := by have := B2.size; have := B3.size; have := B4.size; omega
  have l2 := Nat.lt_of_lt_of_le l2 (bl (bl B3 B4) B5).size
  have l3 := Nat.lt_of_lt_of_le l3 (bl B4 B5).size
  have l4 := Nat.lt_of_lt_of_le l4 B5.size
  have BW : Hid (Below w.heap.size w w5) := bl (bl B2 B3) (bl B4 B5)
  have M5 : Hid (Mem w5 p5 0 (L fun _ => 0)) := m5
  clear B2 B3 B4 B5 g2 g3 g4 g5 m2 m3 m4 m5
  go_loopw [6, 7] (fun c i wr => ∃ k : Nat, k ≤ 20 ∧ c = .int .i64 (bor a b k) ∧ i = .int .i64 (19 - (k : Int)) ∧ Hid (Mem wr p5 0 (L (subTo a b k))) ∧ Hid (Only p5 0 20 w5 wr)) (fun _ i _ => (intOf i + 1).toNat)
  case atStart => exact ⟨0, by omega, by rw [bor_zero], rfl, by show Mem _ _ _ _; rw [L_congr HL (subTo_zero a b)]; exact M5.out, Only.refl _ _ _ _⟩
  case round =>
    obtain ⟨k, hk, rfl, rfl, HM, HO⟩ := hrel
    by_cases hlt : k < 20
    · obtain ⟨i, hi⟩ : ∃ i, i = 19 - k := ⟨_, rfl⟩
      have hik : (19 : Int) - (k : Int) = (i : Int) := by omega
      have hi20 : i < 20 := by omega
      have hc0 := L_at HL (M2.out.only l2 HO.out (.inl n25)) i hi20
      have hc1 := L_at HL (M3.out.only l3 HO.out (.inl n35)) i hi20
      have hc5 := L_at HL HM.out i hi20
      have hf5 := L_fr HL HM.out i hi20
      have A := ha.out i hi20
      have B := hb.out i hi20
      have HS := sub_byte ha.out hb.out k hlt
      have HBS : Hid (bor a b (k + 1) = if a i - b i - bor a b k < 0 then 1 else 0) := by rw [hi]; exact bor_succ ha.out hb.out k hlt
      rw [← hi] at HS
      have BB := bor_bd a b k
      have HT : Hid (∀ j, j < 20 → subTo a b (k + 1) j = if j = i then subF a b i else subTo a b k j) := by rw [hi]; exact subTo_step a b k hlt
      have HS : Hid (subF a b i = (a i - b i - bor a b k) % 256) := HS
      obtain ⟨x, hx⟩ : ∃ x, x = a i := ⟨_, rfl⟩
      obtain ⟨y, hy⟩ : ∃ x, x = b i := ⟨_, rfl⟩
      obtain ⟨c, hcc⟩ : ∃ x, x = bor a b k := ⟨_, rfl⟩
      rw [← hx] at hc0 A
      rw [← hy] at hc1 B
      rw [← hcc] at BB
      have HK : Hid (x = a i ∧ y = b i ∧ c = bor a b k) := ⟨hx, hy, hcc⟩
      simp only [hik, ← hcc]
      obtain ⟨A0, A1⟩ := A
      obtain ⟨B0, B1⟩ := B
      obtain ⟨C0, C1⟩ := BB
      have hge : (0 : Int) ≤ (i : Int) := by omega
      have hil : (i : Int) < 20 := by omega
      have HI : Hid (i = 19 - k) := hi
      clear hx hy hcc hi hik
      by_cases hc : x - y - c < 0
      · go_wp2_with fail
        go_quiet (fail)
        obtain ⟨V, hV⟩ : ∃ V, V = wr.drewN nq := ⟨_, rfl⟩
        rw [← hV]
        have BV : Below wr.heap.size wr V := by rw [hV]; exact below_drewN _ _ _
        have HMV : Hid (Mem V p5 0 (L (subTo a b k))) := HM.out.below BV (Nat.lt_of_lt_of_le l5 HO.out.size)
        have HOV : Hid (Only p5 0 20 w5 V) := ob HO.out BV l5
        have hc5 := L_at HL HMV.out i hi20
        have hf5 := L_fr HL HMV.out i hi20
        clear hV BV HM HO hc0 hc1
        go_wp2_with fail
        go_roundw
        case rel =>
          refine ⟨k + 1, by omega, ?_, ?_, ?_, HOV.out.trans (Only.setCell _ _ (by omega) (by omega))⟩
          · rw [HBS.out, ← HK.out.1, ← HK.out.2.1, ← HK.out.2.2, if_pos hc]
          · have := HI.out; congr 1; omega
          · refine L_set HL HMV.out i _ hi20 fun j hj => ?_
            rw [HT.out j hj, HS.out, ← HK.out.1, ← HK.out.2.1, ← HK.out.2.2]
            split
            · try simp only [IntKind.wrap, IntKind.signed, IntKind.bits]
              try simp
              try omega
            · rfl
        case measure =>
          simp [intOf]
          try omega
      · go_wp2_with fail
        go_quiet (fail)
        obtain ⟨V, hV⟩ : ∃ V, V = wr.drewN nq := ⟨_, rfl⟩
        rw [← hV]
        have BV : Below wr.heap.size wr V := by rw [hV]; exact below_drewN _ _ _
        have HMV : Hid (Mem V p5 0 (L (subTo a b k))) := HM.out.below BV (Nat.lt_of_lt_of_le l5 HO.out.size)
        have HOV : Hid (Only p5 0 20 w5 V) := ob HO.out BV l5
        have hc5 := L_at HL HMV.out i hi20
        have hf5 := L_fr HL HMV.out i hi20
        clear hV BV HM HO hc0 hc1
        go_wp2_with fail
        go_roundw
        case rel =>
          refine ⟨k + 1, by omega, ?_, ?_, ?_, HOV.out.trans (Only.setCell _ _ (by omega) (by omega))⟩
          · rw [HBS.out, ← HK.out.1, ← HK.out.2.1, ← HK.out.2.2, if_neg (by omega)]
          · have := HI.out; congr 1; omega
          · refine L_set HL HMV.out i _ hi20 fun j hj => ?_
            rw [HT.out j hj, HS.out, ← HK.out.1, ← HK.out.2.1, ← HK.out.2.2]
            split
            · try simp only [IntKind.wrap, IntKind.signed, IntKind.bits]
              try simp
              try omega
            · rfl
        case measure =>
          simp [intOf]
          try omega
    · have hkn : k = 20 := by omega
      subst hkn
      have HM' : Mem wr p5 0 (L (subF a b)) := by rw [← L_congr HL (subTo_all a b)]; exact HM.out
      have M4' := M4.out.only l4 HO.out (.inl n45)
      have hneg : (19 : Int) - ((20 : Nat) : Int) = -1 := by omega
      simp only [hneg]
      have B0 : Below w.heap.size w wr := BW.out.trans (HO.out.below q5 BW.out.size)
      go_wp2_with (first | ((with_reducible refine D_load 30 32 ta30 (L (subF a b)) (L_len HL _) p5 0 ?_ ?_ ?_); (rfl); (exact HM')) | ((with_reducible refine D_store 30 4 32 ta30 (L (subF a b)) (L fun _ => 0) (L_len HL _) (L_len HL _) (L_one HL _) p4 0 ?_ ?_ ?_ ?_); (rfl); (rfl); (exact M4'); (intro w9 m9 o9)))
      exact bodyPost_ret (R_results ta30 Try.results30 _ _ p4 0 (L (subF a b)) (L_len HL _) rfl m9) rfl ⟨rfl, bo B0 o9 q4⟩
end Go.Proofs.Qxb6609493a
