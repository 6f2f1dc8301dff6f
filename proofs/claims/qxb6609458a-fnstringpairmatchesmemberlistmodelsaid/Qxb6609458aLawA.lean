import Derived.Test.Qxb6609458aPlain
namespace Go.Proofs.Qxb6609458a
open Go.RowKit Go.Maps

/-- A slice of two members that the caller has just laid. -/
theorem of_two (m m' : Mem) (b cap : Nat) (x y : ByteArray) (w : World) (hx : x.size ≤ maxLen) (hy : y.size ≤ maxLen) (hm : m.key.size ≤ maxLen) (hm' : m'.key.size ≤ maxLen)
    (hb : w.heap[b]? = some (.cells #[.string m.key, .string m.val, .bool m.num, .string m'.key, .string m'.val, .bool m'.num] 23)) :
    Calls Try.prog 6 #[.slice (some ⟨b, 0, none⟩) 2 cap, .string x, .string y] w fun e w' => e = .returned (answer (pairOf (datum [m, m']) x y)) ∧ Below w.heap.size w w' := by
  refine of_any [m, m'] b 0 cap x y w hx hy ?_ (by simp) (Array.getElem?_eq_some_iff.1 hb).1 ?_
  · intro z hz; simp at hz; rcases hz with rfl | rfl <;> assumption
  · intro i hi
    match i, hi with
    | 0, _ => simp [World.cell?, hb]
    | 1, _ => simp [World.cell?, hb]

theorem of_three (m m' m'' : Mem) (b cap : Nat) (x y : ByteArray) (w : World) (hx : x.size ≤ maxLen) (hy : y.size ≤ maxLen) (hm : m.key.size ≤ maxLen) (hm' : m'.key.size ≤ maxLen) (hm'' : m''.key.size ≤ maxLen)
    (hb : w.heap[b]? = some (.cells #[.string m.key, .string m.val, .bool m.num, .string m'.key, .string m'.val, .bool m'.num, .string m''.key, .string m''.val, .bool m''.num] 23)) :
    Calls Try.prog 6 #[.slice (some ⟨b, 0, none⟩) 3 cap, .string x, .string y] w fun e w' => e = .returned (answer (pairOf (datum [m, m', m'']) x y)) ∧ Below w.heap.size w w' := by
  refine of_any [m, m', m''] b 0 cap x y w hx hy ?_ (by simp) (Array.getElem?_eq_some_iff.1 hb).1 ?_
  · intro z hz; simp at hz; rcases hz with rfl | rfl | rfl <;> assumption
  · intro i hi
    match i, hi with
    | 0, _ => simp [World.cell?, hb]
    | 1, _ => simp [World.cell?, hb]
    | 2, _ => simp [World.cell?, hb]

set_option maxRecDepth 100000 in
theorem bytes_any (a0 a1 a2 a3 a4 a5 : ByteArray) (w0 : a0.size ≤ maxLen) (w1 : a1.size ≤ maxLen) (w2 : a2.size ≤ maxLen) (w3 : a3.size ≤ maxLen) (w4 : a4.size ≤ maxLen) (w5 : a5.size ≤ maxLen) (w : World) :
    Calls Try.prog 7 #[.string a0, .string a1, .string a2, .string a3, .string a4, .string a5] w fun e w' => (∃ t : Bool, e = .returned (.bool t)) ∧ w' = w := by
  unfold maxLen at *
  go_enter Try.func7, Try.ntmps7
  go_wp2
  all_goals (go_ret; exact ⟨⟨_, rfl⟩, rfl⟩)

set_option maxRecDepth 100000 in
set_option maxHeartbeats 1000000 in
theorem walk_big (a0 : ByteArray) (a1 : ByteArray) (a2 : ByteArray) (a3 : ByteArray) (a4 : ByteArray) (a5 : ByteArray) (w0 : a0.size ≤ maxLen) (w1 : a1.size ≤ maxLen) (w2 : a2.size ≤ maxLen) (w3 : a3.size ≤ maxLen) (w4 : a4.size ≤ maxLen) (w5 : a5.size ≤ maxLen) (w : World)
    (h : 131072 < a0.size ∨ (a0.size ≤ 131072 ∧ 131072 < a1.size) ∨ (a0.size ≤ 131072 ∧ a1.size ≤ 131072 ∧ 131072 < a2.size) ∨ (a0.size ≤ 131072 ∧ a1.size ≤ 131072 ∧ a2.size ≤ 131072 ∧ 131072 < a3.size) ∨ (a0.size ≤ 131072 ∧ a1.size ≤ 131072 ∧ a2.size ≤ 131072 ∧ a3.size ≤ 131072 ∧ 131072 < a4.size) ∨ (a0.size ≤ 131072 ∧ a1.size ≤ 131072 ∧ a2.size ≤ 131072 ∧ a3.size ≤ 131072 ∧ a4.size ≤ 131072 ∧ 131072 < a5.size)) :
    Calls Try.prog 4 #[.string a0, .string a1, .string a2, .string a3, .string a4, .string a5] w fun e w' => e = .returned (.bool true) ∧ Below w.heap.size w w' := by
  rcases h with h | ⟨h0, h⟩ | ⟨h0, h1, h⟩ | ⟨h0, h1, h2, h⟩ | ⟨h0, h1, h2, h3, h⟩ | ⟨h0, h1, h2, h3, h4, h⟩
  all_goals
    go_enter Try.func4, Try.ntmps4
    go_wp2_with fail
    refine (bytes_any a0 a1 a2 a3 a4 a5 w0 w1 w2 w3 w4 w5 _).mono ?_
    rintro e w' ⟨⟨t, rfl⟩, rfl⟩
    cases t
    · go_wp2_with fail
      go_ret
      exact ⟨rfl, Below.refl _ _⟩
    · go_wp2_with fail
      go_ret
      exact ⟨rfl, Below.refl _ _⟩
end Go.Proofs.Qxb6609458a
