import Derived.Test.Qxb6609458aLawA
namespace Go.Proofs.Qxb6609458a
open Go.RowKit Go.Maps

theorem str_ne {a b : ByteArray} (h : a ≠ b) : (a.toList == b.toList) = false := by
  rw [ByteArray.toList_eq, ByteArray.toList_eq]
  cases hb : (a.data.toList == b.data.toList)
  · rfl
  · exact absurd (congrArg Lit.string (eq_of_beq hb)) (key_ne h)

/-- The block of two strings that holds p, behind a store of both and a call that only makes memory. -/
theorem step {w w2 w3 : World} {P : Nat} {x y x' y' : Value} {o : Obj} (hp : w.heap.size ≤ P) (hb : Below w.heap.size w w2) (hblk : w2.heap[P]? = some (.cells #[x, y] 24))
    (h : Below (((w2.setCell ⟨P, 0, none⟩ x').setCell ⟨P, 1, none⟩ y').alloc o).heap.size (((w2.setCell ⟨P, 0, none⟩ x').setCell ⟨P, 1, none⟩ y').alloc o) w3) :
    Below w.heap.size w w3 ∧ w3.heap[P]? = some (.cells #[x', y'] 24) := by
  have hlt : P < w2.heap.size := (Array.getElem?_eq_some_iff.1 hblk).1
  have hsz : ((w2.setCell ⟨P, 0, none⟩ x').setCell ⟨P, 1, none⟩ y').heap.size = w2.heap.size := by simp [World.setCell]
  refine ⟨?_, ?_⟩
  · exact (((hb.setCell hp _).setCell hp _).alloc (by rw [hsz]; exact hb.size) _).trans (h.mono (by have := hb.size; simp; omega))
  · rw [h.block P (by simp; omega), Below.heap_alloc _ _ _ (by rw [hsz]; exact hlt)]
    simp [World.setCell, Array.getElem?_modify, hblk]

theorem step' {w w2 w3 : World} {P : Nat} {x y x' y' : Value} (hp : w.heap.size ≤ P) (hb : Below w.heap.size w w2) (hblk : w2.heap[P]? = some (.cells #[x, y] 24))
    (h : Below ((w2.setCell ⟨P, 0, none⟩ x').setCell ⟨P, 1, none⟩ y').heap.size ((w2.setCell ⟨P, 0, none⟩ x').setCell ⟨P, 1, none⟩ y') w3) :
    Below w.heap.size w w3 ∧ w3.heap[P]? = some (.cells #[x', y'] 24) := by
  have hlt : P < w2.heap.size := (Array.getElem?_eq_some_iff.1 hblk).1
  have hsz : ((w2.setCell ⟨P, 0, none⟩ x').setCell ⟨P, 1, none⟩ y').heap.size = w2.heap.size := by simp [World.setCell]
  refine ⟨?_, ?_⟩
  · exact ((hb.setCell hp _).setCell hp _).trans (h.mono (by have := hb.size; omega))
  · rw [h.block P (by omega)]
    simp [World.setCell, Array.getElem?_modify, hblk]

theorem new_blk (W : World) (o : Obj) {n : Nat} (h : n = W.heap.size) : (W.alloc o).heap[n]? = some o := by subst h; exact (MapKept.heap_alloc W o).1

theorem facts {W : World} {P : Nat} {x y : Value} (h : W.heap[P]? = some (.cells #[x, y] 24)) : W.cell? ⟨P, 0, none⟩ = some x ∧ W.cell? ⟨P, 1, none⟩ = some y ∧ W.frozen? ⟨P, 0, none⟩ = false ∧ W.frozen? ⟨P, 1, none⟩ = false := by
  simp [World.cell?, World.frozen?, h]

theorem step0 {w x1 x2 : World} {x y : Value} {o : Obj} (hb : Below w.heap.size w x1) (h : Below ((x1.alloc (.cells #[x, y] 24)).alloc o).heap.size ((x1.alloc (.cells #[x, y] 24)).alloc o) x2) :
    Below w.heap.size w x2 ∧ x2.heap[x1.heap.size]? = some (.cells #[x, y] 24) := by
  have := hb.size
  refine ⟨((hb.alloc hb.size _).alloc (by simp; omega) _).trans (h.mono (by simp; omega)), ?_⟩
  rw [h.block _ (by simp; omega), Below.heap_alloc _ _ _ (by simp)]
  exact (MapKept.heap_alloc x1 _).1

set_option maxRecDepth 100000 in
set_option maxHeartbeats 2000000 in
theorem walk_main (a0 : ByteArray) (a1 : ByteArray) (a2 : ByteArray) (a3 : ByteArray) (a4 : ByteArray) (a5 : ByteArray) (w0 : a0.size ≤ 131072) (w1 : a1.size ≤ 131072) (w2 : a2.size ≤ 131072) (w3 : a3.size ≤ 131072) (w4 : a4.size ≤ 131072) (w5 : a5.size ≤ 131072) (w : World)
    (h01 : a0 ≠ a1) (h20 : a2 ≠ a0) (h21 : a2 ≠ a1) :
    Calls Try.prog 4 #[.string a0, .string a1, .string a2, .string a3, .string a4, .string a5] w fun e w' => e = .returned (.bool true) ∧ Below w.heap.size w w' := by
  have b01 := str_ne h01
  have b20 := str_ne h20
  have b21 := str_ne h21
  have H01 : Hid (a0 ≠ a1) := h01
  have H20 : Hid (a2 ≠ a0) := h20
  have H21 : Hid (a2 ≠ a1) := h21
  have m0 : a0.size ≤ maxLen := by unfold maxLen; omega
  have m1 : a1.size ≤ maxLen := by unfold maxLen; omega
  have m2 : a2.size ≤ maxLen := by unfold maxLen; omega
  have m3 : a3.size ≤ maxLen := by unfold maxLen; omega
  have m4 : a4.size ≤ maxLen := by unfold maxLen; omega
  have m5 : a5.size ≤ maxLen := by unfold maxLen; omega
  have M : Hid (a0.size ≤ maxLen ∧ a1.size ≤ maxLen ∧ a2.size ≤ maxLen) := ⟨m0, m1, m2⟩
  have c0 : decide ((131072 : Int) < (a0.size : Int)) = false := by simp; omega
  have c1 : decide ((131072 : Int) < (a1.size : Int)) = false := by simp; omega
  have c2 : decide ((131072 : Int) < (a2.size : Int)) = false := by simp; omega
  have c3 : decide ((131072 : Int) < (a3.size : Int)) = false := by simp; omega
  have c4 : decide ((131072 : Int) < (a4.size : Int)) = false := by simp; omega
  have c5 : decide ((131072 : Int) < (a5.size : Int)) = false := by simp; omega
  clear h01 h20 h21
  go_enter Try.func4, Try.ntmps4
  go_wp2_with fail
  refine (bytes_any a0 a1 a2 a3 a4 a5 m0 m1 m2 m3 m4 m5 _).mono ?_
  clear m0 m1 m2 m3 m4 m5
  rintro e w' ⟨⟨t, rfl⟩, rfl⟩
  cases t
  · go_wp2_with fail
    go_ret
    exact ⟨rfl, Below.refl _ _⟩
  · go_wp2_with fail
    clear c0 c1 c2 c3 c4 c5 w0 w1 w2 w3 w4 w5 b01 b20 b21
    refine (of_two ⟨a0, a3, false⟩ ⟨a1, a4, false⟩ _ 2 a0 a1 _ M.out.1 M.out.2.1 M.out.1 M.out.2.1 (MapKept.heap_alloc _ _).1).mono ?_
    rintro e x1 ⟨rfl, hb1⟩
    rw [two_ab _ _ _ _ H01.out]
    have hB1 : Below w'.heap.size w' x1 := ((Below.refl _ _).alloc (Nat.le_refl _) _).trans (hb1.mono (by simp))
    have hz1 := hB1.size
    clear hb1
    unfold answer
    go_wp2_with fail
    -- the second call
    refine (of_two ⟨a1, a4, false⟩ ⟨a0, a3, false⟩ _ 2 a0 a1 _ M.out.1 M.out.2.1 M.out.2.1 M.out.1 (new_blk _ _ (by simp))).mono ?_
    rintro e x2 ⟨rfl, hb2⟩
    rw [two_ba _ _ _ _ H01.out]
    obtain ⟨hB2, hk2⟩ := step0 hB1 hb2
    obtain ⟨p0, p1, f0, f1⟩ := facts hk2
    clear hb2
    unfold answer
    have K2 : Hid (x2.heap[x1.heap.size]? = some (.cells #[.string a3, .string a4] 24)) := hk2
    clear hk2 hB1
    go_wp2_with fail
    -- the third call
    refine (of_two ⟨a0, a3, false⟩ ⟨a1, a4, false⟩ _ 2 a1 a0 _ M.out.2.1 M.out.1 M.out.1 M.out.2.1 (new_blk _ _ (by simp))).mono ?_
    rintro e x3 ⟨rfl, hb3⟩
    rw [two_ba _ _ _ _ H01.out.symm]
    obtain ⟨hB3, hk3⟩ := step hz1 hB2 K2.out hb3
    clear hb3 p0 p1 f0 f1 K2 hB2
    obtain ⟨p0, p1, f0, f1⟩ := facts hk3
    unfold answer
    have K3 : Hid (x3.heap[x1.heap.size]? = some (.cells #[.string a3, .string a4] 24)) := hk3
    clear hk3
    go_wp2_with fail
    -- the fourth call
    refine (of_three ⟨a0, a3, false⟩ ⟨a1, a4, false⟩ ⟨a1, a5, false⟩ _ 3 a0 a1 _ M.out.1 M.out.2.1 M.out.1 M.out.2.1 M.out.2.1 (new_blk _ _ (by simp))).mono ?_
    rintro e x4 ⟨rfl, hb4⟩
    rw [two_abb _ _ _ _ _ H01.out]
    obtain ⟨hB4, hk4⟩ := step hz1 hB3 K3.out hb4
    clear hb4 p0 p1 f0 f1 K3 hB3
    obtain ⟨p0, p1, f0, f1⟩ := facts hk4
    unfold answer
    have K4 : Hid (x4.heap[x1.heap.size]? = some (.cells #[.string a4, .string a3] 24)) := hk4
    clear hk4
    go_wp2_with fail
    -- the fifth call
    refine (of_three ⟨a0, a3, false⟩ ⟨a1, a4, false⟩ ⟨a2, a5, false⟩ _ 3 a0 a1 _ M.out.1 M.out.2.1 M.out.1 M.out.2.1 M.out.2.2 (new_blk _ _ (by simp))).mono ?_
    rintro e x5 ⟨rfl, hb5⟩
    rw [two_abk _ _ _ _ _ _ H01.out H20.out H21.out]
    obtain ⟨hB5, hk5⟩ := step hz1 hB4 K4.out hb5
    clear hb5 p0 p1 f0 f1 K4 hB4
    obtain ⟨p0, p1, f0, f1⟩ := facts hk5
    unfold answer
    have K5 : Hid (x5.heap[x1.heap.size]? = some (.cells #[.string a3, .string a5] 24)) := hk5
    clear hk5
    go_wp2_with fail
    -- the sixth call
    refine (of_two ⟨a0, a3, false⟩ ⟨a2, a5, false⟩ _ 2 a0 a1 _ M.out.1 M.out.2.1 M.out.1 M.out.2.2 (new_blk _ _ (by simp))).mono ?_
    rintro e x6 ⟨rfl, hb6⟩
    rw [two_ak _ _ _ _ _ H01.out H21.out]
    obtain ⟨hB6, hk6⟩ := step hz1 hB5 K5.out hb6
    clear hb6 p0 p1 f0 f1 K5 hB5
    obtain ⟨p0, p1, f0, f1⟩ := facts hk6
    unfold answer
    have K6 : Hid (x6.heap[x1.heap.size]? = some (.cells #[.string ⟨#[]⟩, .string ⟨#[]⟩] 24)) := hk6
    clear hk6
    go_wp2_with fail
    -- the seventh call
    refine (of_two ⟨a0, a3, false⟩ ⟨a1, a4, true⟩ _ 2 a0 a1 _ M.out.1 M.out.2.1 M.out.1 M.out.2.1 (new_blk _ _ (by simp))).mono ?_
    rintro e x7 ⟨rfl, hb7⟩
    rw [two_num]
    obtain ⟨hB7, hk7⟩ := step hz1 hB6 K6.out hb7
    clear hb7 p0 p1 f0 f1 K6 hB6
    obtain ⟨p0, p1, f0, f1⟩ := facts hk7
    unfold answer
    have K7 : Hid (x7.heap[x1.heap.size]? = some (.cells #[.string ⟨#[]⟩, .string ⟨#[]⟩] 24)) := hk7
    clear hk7
    go_wp2_with fail
    -- the last call
    refine (of_nil a0 a1 _).mono ?_
    rintro e x8 ⟨rfl, hb8⟩
    obtain ⟨hB8, hk8⟩ := step' hz1 hB7 K7.out hb8
    clear hb8 p0 p1 f0 f1 K7 hB7
    obtain ⟨p0, p1, f0, f1⟩ := facts hk8
    unfold answer
    clear hk8
    go_wp2_with fail
    go_ret
    exact ⟨rfl, (hB8.setCell hz1 _).setCell hz1 _⟩

set_option maxRecDepth 100000 in
set_option maxHeartbeats 1000000 in
theorem walk_same (a0 : ByteArray) (a1 : ByteArray) (a2 : ByteArray) (a3 : ByteArray) (a4 : ByteArray) (a5 : ByteArray) (w0 : a0.size ≤ 131072) (w1 : a1.size ≤ 131072) (w2 : a2.size ≤ 131072) (w3 : a3.size ≤ 131072) (w4 : a4.size ≤ 131072) (w5 : a5.size ≤ 131072) (w : World)
    (h : (a0.toList == a1.toList) = true ∨ ((a0.toList == a1.toList) = false ∧ (a2.toList == a0.toList) = true) ∨ ((a0.toList == a1.toList) = false ∧ (a2.toList == a0.toList) = false ∧ (a2.toList == a1.toList) = true)) :
    Calls Try.prog 4 #[.string a0, .string a1, .string a2, .string a3, .string a4, .string a5] w fun e w' => e = .returned (.bool true) ∧ Below w.heap.size w w' := by
  have c0 : decide ((131072 : Int) < (a0.size : Int)) = false := by simp; omega
  have c1 : decide ((131072 : Int) < (a1.size : Int)) = false := by simp; omega
  have c2 : decide ((131072 : Int) < (a2.size : Int)) = false := by simp; omega
  have c3 : decide ((131072 : Int) < (a3.size : Int)) = false := by simp; omega
  have c4 : decide ((131072 : Int) < (a4.size : Int)) = false := by simp; omega
  have c5 : decide ((131072 : Int) < (a5.size : Int)) = false := by simp; omega
  rcases h with h | ⟨h, h'⟩ | ⟨h, h', h''⟩
  all_goals
    go_enter Try.func4, Try.ntmps4
    go_wp2_with fail
    refine (bytes_any a0 a1 a2 a3 a4 a5 (by unfold maxLen; omega) (by unfold maxLen; omega) (by unfold maxLen; omega) (by unfold maxLen; omega) (by unfold maxLen; omega) (by unfold maxLen; omega) _).mono ?_
    rintro e w' ⟨⟨t, rfl⟩, rfl⟩
    cases t
    · go_wp2_with fail
      go_ret
      exact ⟨rfl, Below.refl _ _⟩
    · go_wp2_with fail
      go_ret
      exact ⟨rfl, Below.refl _ _⟩

/-- THE WALK, whole. -/
theorem walk (a0 : ByteArray) (a1 : ByteArray) (a2 : ByteArray) (a3 : ByteArray) (a4 : ByteArray) (a5 : ByteArray) (w0 : a0.size ≤ maxLen) (w1 : a1.size ≤ maxLen) (w2 : a2.size ≤ maxLen) (w3 : a3.size ≤ maxLen) (w4 : a4.size ≤ maxLen) (w5 : a5.size ≤ maxLen) (w : World) :
    Calls Try.prog 4 #[.string a0, .string a1, .string a2, .string a3, .string a4, .string a5] w fun e w' => e = .returned (.bool true) ∧ Below w.heap.size w w' := by
  by_cases hs : a0.size ≤ 131072 ∧ a1.size ≤ 131072 ∧ a2.size ≤ 131072 ∧ a3.size ≤ 131072 ∧ a4.size ≤ 131072 ∧ a5.size ≤ 131072
  · obtain ⟨s0, s1, s2, s3, s4, s5⟩ := hs
    by_cases h01 : a0 = a1
    · exact walk_same a0 a1 a2 a3 a4 a5 s0 s1 s2 s3 s4 s5 w (.inl (by rw [h01]; simp))
    · by_cases h20 : a2 = a0
      · exact walk_same a0 a1 a2 a3 a4 a5 s0 s1 s2 s3 s4 s5 w (.inr (.inl ⟨str_ne h01, by rw [h20]; simp⟩))
      · by_cases h21 : a2 = a1
        · exact walk_same a0 a1 a2 a3 a4 a5 s0 s1 s2 s3 s4 s5 w (.inr (.inr ⟨str_ne h01, str_ne h20, by rw [h21]; simp⟩))
        · exact walk_main a0 a1 a2 a3 a4 a5 s0 s1 s2 s3 s4 s5 w h01 h20 h21
  · exact walk_big a0 a1 a2 a3 a4 a5 w0 w1 w2 w3 w4 w5 w (by omega)
end Go.Proofs.Qxb6609458a
