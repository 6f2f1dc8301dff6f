import Derived.Test.Qxb6609458aModel
import Derived.Deep.QuietTactic
import Derived.BigQuiet
namespace Go.Proofs.Qxb6609458a
open Go.RowKit Go.Maps

theorem of_empty (ad : Addr) (cap : Nat) (x y : ByteArray) (w : World) (hx : x.size ≤ maxLen) (hy : y.size ≤ maxLen) :
    Calls Try.prog 6 #[.slice (some ad) 0 cap, .string x, .string y] w fun e w' => e = .returned (answer none) ∧ Below w.heap.size w w' := by
  have hmk := run_mk
  have hnil : ∀ w' : World, (binOp .eql 22 (.slice (some ad) 0 cap) (.slice none 0 0)).run Try.prog w' = .ok (.bool false) w' := fun w' => by rw [Lib.run_eql_slice_nil w' 22 23 _ _ _ _ _ Try.underlying22]; rfl
  go_enter Try.func6, Try.ntmps6
  go_wp2
  refine wp_loop_rounds 1 ?_
  rw [rounds_succ]
  go_wp2_with fail
  have hown := World.ownsMap_made (w.alloc (.cells #[.string ⟨#[]⟩, .string ⟨#[]⟩] 24)) Try.prog 9 R
  rw [show (w.alloc (.cells #[.string ⟨#[]⟩, .string ⟨#[]⟩] 24)).heap.size = w.heap.size + 1 by simp] at hown
  refine (pair_map (datum []) x y (w.heap.size + 1) 0 _ hx hy hown).mono ?_
  rintro e w1 ⟨rfl, hb1⟩
  rw [case_empty]
  have hblk : w1.heap[w.heap.size]? = some (.cells #[.string ⟨#[]⟩, .string ⟨#[]⟩] 24) := by
    rw [hb1.block _ (by simp; omega), Below.heap_alloc _ _ _ (by simp)]
    exact (MapKept.heap_alloc w _).1
  obtain ⟨hc0, hc1, hf0, hf1⟩ := facts hblk
  have hend : Below w.heap.size w w1 := (((Below.refl _ _).alloc (Nat.le_refl _) _).alloc (by simp) _).trans (hb1.mono (by simp; omega))
  clear hblk hb1 hown
  unfold answer
  go_wp2
  exact bodyPost_ret (v := .tuple #[.agg #[.string ⟨#[]⟩, .string ⟨#[]⟩], .bool false]) (by simp [results, Try.results6, go_sem, hc0, hc1]) rfl ⟨rfl, (hend.setCell (Nat.le_refl _) _).setCell (Nat.le_refl _) _⟩

/-- The law's head: too long a name, or too many members. -/
theorem law_long (a : Option Addr) (n cap : Nat) (x y : ByteArray) (w : World) (hn : n ≤ maxLen) (hx : x.size ≤ maxLen) (hy : y.size ≤ maxLen)
    (h : 1048576 < x.size ∨ (x.size ≤ 1048576 ∧ 1048576 < y.size) ∨ (x.size ≤ 1048576 ∧ y.size ≤ 1048576 ∧ 32768 < n)) :
    Calls Try.prog 3 #[.slice a n cap, .string x, .string y] w fun e w' => e = .returned (.bool true) ∧ Below w.heap.size w w' := by
  unfold maxLen at hn hx hy
  rcases h with h | ⟨h, h'⟩ | ⟨h, h', h''⟩
  all_goals
    go_enter Try.func3, Try.ntmps3
    go_wp2
    go_ret
    exact ⟨rfl, Below.refl _ _⟩

/-- The law's tail, once both answers are known to be one. -/
theorem tail_eq (s : ByteArray) : (s.toList == s.toList) = true := by simp

theorem At.below {w wr : World} {b off : Nat} {ms : List Mem} (h : At w b off ms) (hb : b < w.heap.size) (hbel : Below w.heap.size w wr) : At wr b off ms := by
  have key : ∀ off, wr.cell? ⟨b, off, none⟩ = w.cell? ⟨b, off, none⟩ := fun off => hbel.cell (p := ⟨b, off, none⟩) hb
  intro i hi
  rw [key, key, key]
  exact h i hi

set_option maxHeartbeats 1000000 in
/-- No members, or some: the law, given what the two callees answer. -/
theorem law_empty (a : Option Addr) (cap : Nat) (x y : ByteArray) (w : World) (hx : x.size ≤ 1048576) (hy : y.size ≤ 1048576) (r : Option (ByteArray × ByteArray))
    (H5 : Hid (∀ w1 : World, Below w.heap.size w w1 → Calls Try.prog 5 #[.slice a 0 cap, .string x, .string y] w1 fun e w' => e = .returned (answer r) ∧ Below w1.heap.size w1 w'))
    (H6 : Hid (∀ w1 : World, Below w.heap.size w w1 → Calls Try.prog 6 #[.slice a 0 cap, .string x, .string y] w1 fun e w' => e = .returned (answer r) ∧ Below w1.heap.size w1 w')) :
    Calls Try.prog 3 #[.slice a 0 cap, .string x, .string y] w fun e w' => e = .returned (.bool true) ∧ Below w.heap.size w w' := by
  have d0 : decide ((1048576 : Int) < (x.size : Int)) = false := by simp; omega
  have d1 : decide ((1048576 : Int) < (y.size : Int)) = false := by simp; omega
  go_enter Try.func3, Try.ntmps3
  go_wp2_with fail
  refine wp_loop_rounds 1 ?_
  rw [rounds_succ]
  go_wp2_with fail
  · go_ret
    exact ⟨rfl, Below.refl _ _⟩
  · clear d0 d1
    refine (H5.out _ (Below.refl w.heap.size w)).mono ?_
    rintro e x1 ⟨rfl, hb1⟩
    have hB1 : Below w.heap.size w x1 := ((Below.refl w.heap.size w)).trans (hb1.mono ((Below.refl w.heap.size w)).size)
    have HB1 : Hid (Below w.heap.size w x1) := hB1
    clear hb1 hB1
    cases r with
    | none =>
      simp only [answer] at *
      go_wp2_with fail
      refine (H6.out _ (HB1.out.alloc HB1.out.size _)).mono ?_
      rintro e x2 ⟨rfl, hb2⟩
      have hk : x2.heap[x1.heap.size]? = some (.cells #[.string ⟨#[]⟩, .string ⟨#[]⟩] 24) := by
        rw [hb2.block _ (by simp)]; exact (MapKept.heap_alloc x1 _).1
      have hlt : x1.heap.size < x2.heap.size := (Array.getElem?_eq_some_iff.1 hk).1
      obtain ⟨p0, p1, f0, f1⟩ := facts hk
      have hB2 : Below w.heap.size w x2 := (HB1.out.alloc HB1.out.size _).trans (hb2.mono (by have := HB1.out.size; simp; omega))
      have HB2 : Hid (Below w.heap.size w x2) := hB2
      clear hb2 hB2 hk
      go_wp2_with fail
      go_ret
      exact ⟨rfl, HB2.out.alloc HB2.out.size _⟩
    | some q =>
      obtain ⟨sa, sb⟩ := q
      have ta := tail_eq sa
      have tb := tail_eq sb
      simp only [answer] at *
      go_wp2_with fail
      refine (H6.out _ (HB1.out.alloc HB1.out.size _)).mono ?_
      rintro e x2 ⟨rfl, hb2⟩
      have hk : x2.heap[x1.heap.size]? = some (.cells #[.string sa, .string sb] 24) := by
        rw [hb2.block _ (by simp)]; exact (MapKept.heap_alloc x1 _).1
      have hlt : x1.heap.size < x2.heap.size := (Array.getElem?_eq_some_iff.1 hk).1
      obtain ⟨p0, p1, f0, f1⟩ := facts hk
      have hB2 : Below w.heap.size w x2 := (HB1.out.alloc HB1.out.size _).trans (hb2.mono (by have := HB1.out.size; simp; omega))
      have HB2 : Hid (Below w.heap.size w x2) := hB2
      clear hb2 hB2 hk
      go_wp2_with fail
      go_ret
      exact ⟨rfl, HB2.out.alloc HB2.out.size _⟩

set_option maxHeartbeats 2000000 in
theorem law_some (ms : List Mem) (b off cap : Nat) (x y : ByteArray) (w : World) (hx : x.size ≤ 1048576) (hy : y.size ≤ 1048576) (hn : ms.length ≤ 32768) (h1 : 0 < ms.length) (hb : b < w.heap.size) (hat : At w b off ms) (hms : ∀ m ∈ ms, m.key.size ≤ maxLen ∧ m.val.size ≤ maxLen) :
    Calls Try.prog 3 #[.slice (some ⟨b, off, none⟩) ms.length cap, .string x, .string y] w fun e w' => e = .returned (.bool true) ∧ Below w.heap.size w w' := by
  have mx : x.size ≤ maxLen := by unfold maxLen; omega
  have my : y.size ≤ maxLen := by unfold maxLen; omega
  obtain ⟨r, hr⟩ : ∃ r, r = pairOf (datum ms) x y := ⟨_, rfl⟩
  have H5 : Hid (∀ w1 : World, Below w.heap.size w w1 → Calls Try.prog 5 #[.slice (some ⟨b, off, none⟩) ms.length cap, .string x, .string y] w1 fun e w' => e = .returned (answer r) ∧ Below w1.heap.size w1 w') := by
    intro w1 hw1
    rw [hr]
    exact model_any ms b off cap x y w1 (by omega) h1 (Nat.lt_of_lt_of_le hb hw1.size) (hat.below hb hw1)
  have H6 : Hid (∀ w1 : World, Below w.heap.size w w1 → Calls Try.prog 6 #[.slice (some ⟨b, off, none⟩) ms.length cap, .string x, .string y] w1 fun e w' => e = .returned (answer r) ∧ Below w1.heap.size w1 w') := by
    intro w1 hw1
    rw [hr]
    exact of_any ms b off cap x y w1 mx my (fun m hm => (hms m hm).1) (by omega) (Nat.lt_of_lt_of_le hb hw1.size) (hat.below hb hw1)
  clear hr mx my
  have HA : Hid (At w b off ms ∧ ∀ m ∈ ms, m.key.size ≤ maxLen ∧ m.val.size ≤ maxLen) := ⟨hat, hms⟩
  clear hat hms
  obtain ⟨n, hN⟩ : ∃ n, n = ms.length := ⟨_, rfl⟩
  rw [← hN] at H5 H6 hn h1
  rw [← hN]
  have HN : Hid (n = ms.length) := hN
  clear hN
  have d0 : decide ((1048576 : Int) < (x.size : Int)) = false := by simp; omega
  have d1 : decide ((1048576 : Int) < (y.size : Int)) = false := by simp; omega
  have d2 : decide ((32768 : Int) < (n : Int)) = false := by simp; omega
  go_enter Try.func3, Try.ntmps3
  go_wp2_with fail
  go_loopw [7, 8] (fun t i wr => ∃ (k : Nat) (s : Int), k ≤ n ∧ i = .int .i64 k ∧ t = .int .i64 s ∧ 0 ≤ s ∧ s ≤ 3407872 + 2097152 * k ∧ Below w.heap.size w wr) (fun _ i _ => n - (intOf i).toNat)
  case atStart => exact ⟨0, _, Nat.zero_le _, rfl, rfl, by omega, by omega, Below.refl _ _⟩
  case round =>
    obtain ⟨k, t, hk, rfl, rfl, ht0, ht1, hbel⟩ := hrel
    have HBE : Hid (Below w.heap.size w wr) := hbel
    clear hbel d0 d1 d2
    by_cases hlt : k < n
    · have hkl : k < ms.length := by rw [← HN.out]; exact hlt
      have hatr := (HA.out.1.below hb HBE.out) k hkl
      have hsz := HA.out.2 _ (getD_mem ms k hkl)
      generalize ms.getD k Mem.zero = m at hatr hsz
      obtain ⟨c0, c1, c2⟩ := hatr
      obtain ⟨z0, z1⟩ := hsz
      unfold maxLen at z0 z1
      clear hkl c2
      by_cases g0 : m.key.size ≤ 1048576
      · by_cases g1 : m.val.size ≤ 1048576
        · go_wp2_with fail
          go_quiet (fail)
          go_wp2_with fail
          go_roundw
          case rel => exact ⟨k + 1, _, by omega, by go_num, rfl, by omega, by omega, below_drewN HBE.out _⟩
          case measure => simp [intOf]; omega
        · go_wp2_with fail
          go_ret
          exact ⟨rfl, HBE.out⟩
      · go_wp2_with fail
        go_ret
        exact ⟨rfl, HBE.out⟩
    · have hkn : k = n := by omega
      subst hkn
      by_cases hgt : t ≤ 1048576
      · go_wp2_with fail
        refine (H5.out _ HBE.out).mono ?_
        rintro e x1 ⟨rfl, hb1⟩
        have hB1 : Below w.heap.size w x1 := (HBE.out).trans (hb1.mono (HBE.out).size)
        have HB1 : Hid (Below w.heap.size w x1) := hB1
        clear hb1 hB1
        cases r with
        | none =>
          simp only [answer] at *
          go_wp2_with fail
          refine (H6.out _ (HB1.out.alloc HB1.out.size _)).mono ?_
          rintro e x2 ⟨rfl, hb2⟩
          have hk : x2.heap[x1.heap.size]? = some (.cells #[.string ⟨#[]⟩, .string ⟨#[]⟩] 24) := by
            rw [hb2.block _ (by simp)]; exact (MapKept.heap_alloc x1 _).1
          have hlt : x1.heap.size < x2.heap.size := (Array.getElem?_eq_some_iff.1 hk).1
          obtain ⟨p0, p1, f0, f1⟩ := facts hk
          have hB2 : Below w.heap.size w x2 := (HB1.out.alloc HB1.out.size _).trans (hb2.mono (by have := HB1.out.size; simp; omega))
          have HB2 : Hid (Below w.heap.size w x2) := hB2
          clear hb2 hB2 hk
          go_wp2_with fail
          go_ret
          exact ⟨rfl, HB2.out.alloc HB2.out.size _⟩
        | some q =>
          obtain ⟨sa, sb⟩ := q
          have ta := tail_eq sa
          have tb := tail_eq sb
          simp only [answer] at *
          go_wp2_with fail
          refine (H6.out _ (HB1.out.alloc HB1.out.size _)).mono ?_
          rintro e x2 ⟨rfl, hb2⟩
          have hk : x2.heap[x1.heap.size]? = some (.cells #[.string sa, .string sb] 24) := by
            rw [hb2.block _ (by simp)]; exact (MapKept.heap_alloc x1 _).1
          have hlt : x1.heap.size < x2.heap.size := (Array.getElem?_eq_some_iff.1 hk).1
          obtain ⟨p0, p1, f0, f1⟩ := facts hk
          have hB2 : Below w.heap.size w x2 := (HB1.out.alloc HB1.out.size _).trans (hb2.mono (by have := HB1.out.size; simp; omega))
          have HB2 : Hid (Below w.heap.size w x2) := hB2
          clear hb2 hB2 hk
          go_wp2_with fail
          go_ret
          exact ⟨rfl, HB2.out.alloc HB2.out.size _⟩
      · go_wp2_with fail
        go_ret
        exact ⟨rfl, HBE.out⟩
end Go.Proofs.Qxb6609458a
