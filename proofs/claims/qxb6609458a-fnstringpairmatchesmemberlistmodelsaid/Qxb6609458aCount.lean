import Derived.Test.Qxb6609458aLast
namespace Go.Proofs.Qxb6609458a
open Go.RowKit Go.Maps

/-- One if the key is there. -/
def c1 (D : DataW Unit) (k : ByteArray) : Nat := if has D (.string k.data.toList) then 1 else 0

theorem c1_put (D : DataW Unit) (hD : IsMap D) (k q : ByteArray) (e : DataW Unit) : c1 (D.put (.string q.data.toList) e) k = if k = q then 1 else c1 D k := by
  unfold c1
  by_cases h : k = q
  · subst h; rw [has_put_same hD (isKey k)]; simp
  · rw [has_put_other (key_ne h)]; simp [h]

theorem size_c1 (D : DataW Unit) (hD : Tidy D) (q : ByteArray) (e : DataW Unit) : size (D.put (.string q.data.toList) e) = size D + (1 - c1 D q) := by
  rw [size_put hD]
  unfold c1
  split <;> simp

theorem c1_le (D : DataW Unit) (k : ByteArray) : c1 D k ≤ 1 := by unfold c1; split <;> omega

/-- Of what holds from map to map behind each member. -/
theorem datum_ind (p : DataW Unit → Prop) (ms : List Mem) (h0 : p (.map [])) (hs : ∀ m ∈ ms, ∀ D, Tidy D → p D → p (D.put (.string m.key.data.toList) m.elem)) : p (datum ms) := by
  suffices h : ∀ (l : List Mem), (∀ m ∈ l, m ∈ ms) → ∀ D, Tidy D → p D → p (l.foldl (fun D m => D.put (.string m.key.data.toList) m.elem) D) from h ms (fun _ h => h) _ tidy_empty h0
  intro l
  induction l with
  | nil => intro _ D _ h; exact h
  | cons m r ih => intro hl D hD hp; exact ih (fun x hx => hl x (by simp [hx])) _ (hD.put (isKey _) _) (hs m (hl m (by simp)) D hD hp)

theorem c1_empty (k : ByteArray) : c1 (.map []) k = 0 := rfl
theorem size_empty : size (.map [] : DataW Unit) = 0 := rfl

theorem size_of_one (ms : List Mem) (k0 : ByteArray) (h : ∀ m ∈ ms, m.key = k0) : size (datum ms) = c1 (datum ms) k0 := by
  refine datum_ind (fun D => size D = c1 D k0) ms rfl fun m hm D hD hp => ?_
  have e := h m hm
  show size _ = c1 _ _
  rw [e, size_c1 D hD, c1_put D hD.isMap, if_pos rfl, hp]
  have := c1_le D k0
  omega

theorem size_of_two (ms : List Mem) (k0 k1 : ByteArray) (hne : k0 ≠ k1) (h : ∀ m ∈ ms, m.key = k0 ∨ m.key = k1) : size (datum ms) = c1 (datum ms) k0 + c1 (datum ms) k1 := by
  refine datum_ind (fun D => size D = c1 D k0 + c1 D k1) ms rfl fun m hm D hD hp => ?_
  show size _ = c1 _ _ + c1 _ _
  have h0 := c1_le D k0
  have h1 := c1_le D k1
  rcases h m hm with e | e
  · rw [e, size_c1 D hD, c1_put D hD.isMap, c1_put D hD.isMap, if_pos rfl, if_neg (Ne.symm hne), hp]
    omega
  · rw [e, size_c1 D hD, c1_put D hD.isMap, c1_put D hD.isMap, if_pos rfl, if_neg hne, hp]
    omega

theorem size_of_three (ms : List Mem) (k0 k1 k2 : ByteArray) (h01 : k0 ≠ k1) (h02 : k0 ≠ k2) (h12 : k1 ≠ k2) : c1 (datum ms) k0 + c1 (datum ms) k1 + c1 (datum ms) k2 ≤ size (datum ms) := by
  refine datum_ind (fun D => c1 D k0 + c1 D k1 + c1 D k2 ≤ size D) ms (Nat.le_refl _) fun m _ D hD hp => ?_
  show c1 _ _ + c1 _ _ + c1 _ _ ≤ size _
  have h0 := c1_le D k0
  have h1 := c1_le D k1
  have h2 := c1_le D k2
  rw [size_c1 D hD, c1_put D hD.isMap, c1_put D hD.isMap, c1_put D hD.isMap]
  by_cases e0 : k0 = m.key
  · rw [if_pos e0, if_neg (by rw [← e0]; exact Ne.symm h01), if_neg (by rw [← e0]; exact Ne.symm h02), ← e0]
    omega
  · by_cases e1 : k1 = m.key
    · rw [if_neg e0, if_pos e1, if_neg (by rw [← e1]; exact Ne.symm h12), ← e1]
      omega
    · by_cases e2 : k2 = m.key
      · rw [if_neg e0, if_neg e1, if_pos e2, ← e2]
        omega
      · rw [if_neg e0, if_neg e1, if_neg e2]
        omega

theorem c1_mem (ms : List Mem) (m : Mem) (hm : m ∈ ms) : c1 (datum ms) m.key = 1 := by
  suffices h : ∀ (l : List Mem) (D : DataW Unit), Tidy D → (m ∈ l ∨ c1 D m.key = 1) → c1 (l.foldl (fun D m => D.put (.string m.key.data.toList) m.elem) D) m.key = 1 from h ms _ tidy_empty (.inl hm)
  intro l
  induction l with
  | nil => intro D _ h; rcases h with h | h; exact absurd h (by simp); exact h
  | cons x r ih =>
    intro D hD h
    refine ih _ (hD.put (isKey _) _) ?_
    rw [c1_put D hD.isMap]
    rcases h with h | h
    · rcases List.mem_cons.1 h with rfl | h
      · right; simp
      · left; exact h
    · right; rw [h]; simp

theorem getD_mem (ms : List Mem) (i : Nat) (h : i < ms.length) : ms.getD i Mem.zero ∈ ms := by simp [List.getD, h]

theorem mem_getD (ms : List Mem) (m : Mem) (h : m ∈ ms) : ∃ i, i < ms.length ∧ ms.getD i Mem.zero = m := by
  obtain ⟨i, hi, e⟩ := List.mem_iff_getElem.1 h
  exact ⟨i, hi, by simp [List.getD, hi, e]⟩

/-- What the model's cases say of the answer. -/
theorem pair_none (ms : List Mem) (x y : ByteArray) (h : size (datum ms) ≠ 2) : pairOf (datum ms) x y = none := by simp [pairOf, h]

theorem case_empty (x y : ByteArray) : pairOf (datum []) x y = none := pair_none [] x y (by decide)

theorem case_one (ms : List Mem) (x y k0 : ByteArray) (h : ∀ i, i < ms.length → (ms.getD i Mem.zero).key = k0) : pairOf (datum ms) x y = none := by
  refine pair_none ms x y ?_
  rw [size_of_one ms k0 (fun m hm => by obtain ⟨i, hi, rfl⟩ := mem_getD ms m hm; exact h i hi)]
  have := c1_le (datum ms) k0
  omega

theorem case_three (ms : List Mem) (x y : ByteArray) (i j l : Nat) (hi : i < ms.length) (hj : j < ms.length) (hl : l < ms.length) (h1 : (ms.getD i Mem.zero).key ≠ (ms.getD j Mem.zero).key) (h2 : (ms.getD i Mem.zero).key ≠ (ms.getD l Mem.zero).key)
    (h3 : (ms.getD j Mem.zero).key ≠ (ms.getD l Mem.zero).key) : pairOf (datum ms) x y = none := by
  refine pair_none ms x y ?_
  have := size_of_three ms _ _ _ h1 h2 h3
  rw [c1_mem ms _ (getD_mem ms i hi), c1_mem ms _ (getD_mem ms j hj), c1_mem ms _ (getD_mem ms l hl)] at this
  omega

theorem case_two (ms : List Mem) (x y : ByteArray) (i j : Nat) (hi : i < ms.length) (hj : j < ms.length) (h1 : (ms.getD i Mem.zero).key ≠ (ms.getD j Mem.zero).key)
    (h : ∀ l, l < ms.length → (ms.getD l Mem.zero).key = (ms.getD i Mem.zero).key ∨ (ms.getD l Mem.zero).key = (ms.getD j Mem.zero).key) :
    pairOf (datum ms) x y = match strAt (datum ms) x, strAt (datum ms) y with | some a, some b => some (a, b) | _, _ => none := by
  have := size_of_two ms _ _ h1 (fun m hm => by obtain ⟨l, hl, rfl⟩ := mem_getD ms m hm; exact h l hl)
  rw [c1_mem ms _ (getD_mem ms i hi), c1_mem ms _ (getD_mem ms j hj)] at this
  unfold pairOf
  rw [if_pos this]
  cases strAt (datum ms) x <;> cases strAt (datum ms) y <;> rfl
end Go.Proofs.Qxb6609458a
