import Derived.Test.Qxb6609458aOf
namespace Go.Proofs.Qxb6609458a
open Go.RowKit Go.Maps

theorem key_ne {a b : ByteArray} (h : a ≠ b) : Lit.string a.data.toList ≠ Lit.string b.data.toList := by
  intro e
  apply h
  have e1 : a.data.toList = b.data.toList := by injection e
  have e2 : a.data = b.data := by rw [← Array.toArray_toList (xs := a.data), e1]
  cases a; cases b; simp_all

theorem isKey (k : ByteArray) : WideAt.IsKeyLit (.string k.data.toList) := trivial

theorem strAt_same {D : DataW Unit} (hD : IsMap D) (k v : ByteArray) : strAt (D.put (.string k.data.toList) (.lit (.string v.data.toList))) k = some v := by
  unfold strAt
  rw [atKey_put_same hD (isKey k)]
theorem strAt_num {D : DataW Unit} (hD : IsMap D) (k : ByteArray) : strAt (D.put (.string k.data.toList) (.lit (.bool true))) k = none := by
  unfold strAt
  rw [atKey_put_same hD (isKey k)]
theorem strAt_other {D : DataW Unit} {k k' : ByteArray} (h : k' ≠ k) (e : DataW Unit) : strAt (D.put (.string k.data.toList) e) k' = strAt D k' := by
  unfold strAt
  rw [atKey_put_other (key_ne h)]
theorem strAt_empty (k : ByteArray) : strAt (.map []) k = none := rfl

theorem datum_tidy (ms : List Mem) : Tidy (datum ms) := by
  unfold datum
  suffices h : ∀ (l : List Mem) D, Tidy D → Tidy (l.foldl (fun D m => D.put (.string m.key.data.toList) m.elem) D) from h ms _ tidy_empty
  intro l
  induction l with
  | nil => intro D h; exact h
  | cons m r ih => intro D h; exact ih _ (h.put (isKey _) _)

theorem datum_isMap (ms : List Mem) : IsMap (datum ms) := (datum_tidy ms).isMap
theorem datum_one (m : Mem) : datum [m] = (datum []).put (.string m.key.data.toList) m.elem := rfl
theorem datum_two (m m' : Mem) : datum [m, m'] = (datum [m]).put (.string m'.key.data.toList) m'.elem := rfl
theorem datum_three (m m' m'' : Mem) : datum [m, m', m''] = (datum [m, m']).put (.string m''.key.data.toList) m''.elem := rfl

theorem size_two (m m' : Mem) (h : m'.key ≠ m.key) : size (datum [m, m']) = 2 := by
  rw [datum_two, size_put (datum_tidy _), datum_one, has_put_other (key_ne h), size_put (datum_tidy _)]
  rfl

theorem has_two (m m' : Mem) (k : ByteArray) (h : k ≠ m.key) (h' : k ≠ m'.key) : has (datum [m, m']) (.string k.data.toList) = false := by
  rw [datum_two, has_put_other (key_ne h'), datum_one, has_put_other (key_ne h)]
  rfl

theorem two_ab (a b va vb : ByteArray) (h : a ≠ b) : pairOf (datum [⟨a, va, false⟩, ⟨b, vb, false⟩]) a b = some (va, vb) := by
  have e1 : strAt (datum [⟨a, va, false⟩, ⟨b, vb, false⟩]) a = some va := by
    rw [datum_two, strAt_other h, datum_one]; exact strAt_same (datum_isMap []) a va
  have e2 : strAt (datum [⟨a, va, false⟩, ⟨b, vb, false⟩]) b = some vb := by
    rw [datum_two]; exact strAt_same (datum_isMap _) b vb
  unfold pairOf
  rw [if_pos (size_two _ _ h.symm), e1, e2]

theorem two_ba (a b va vb : ByteArray) (h : a ≠ b) : pairOf (datum [⟨b, vb, false⟩, ⟨a, va, false⟩]) a b = some (va, vb) := by
  have e1 : strAt (datum [⟨b, vb, false⟩, ⟨a, va, false⟩]) a = some va := by
    rw [datum_two]; exact strAt_same (datum_isMap _) a va
  have e2 : strAt (datum [⟨b, vb, false⟩, ⟨a, va, false⟩]) b = some vb := by
    rw [datum_two, strAt_other h.symm, datum_one]; exact strAt_same (datum_isMap []) b vb
  unfold pairOf
  rw [if_pos (size_two _ _ h), e1, e2]

theorem two_abb (a b va vb vk : ByteArray) (h : a ≠ b) : pairOf (datum [⟨a, va, false⟩, ⟨b, vb, false⟩, ⟨b, vk, false⟩]) a b = some (va, vk) := by
  have e1 : strAt (datum [⟨a, va, false⟩, ⟨b, vb, false⟩, ⟨b, vk, false⟩]) a = some va := by
    rw [datum_three, strAt_other h, datum_two, strAt_other h, datum_one]; exact strAt_same (datum_isMap []) a va
  have e2 : strAt (datum [⟨a, va, false⟩, ⟨b, vb, false⟩, ⟨b, vk, false⟩]) b = some vk := by
    rw [datum_three]; exact strAt_same (datum_isMap _) b vk
  have e3 : size (datum [⟨a, va, false⟩, ⟨b, vb, false⟩, ⟨b, vk, false⟩]) = 2 := by
    rw [datum_three, size_put (datum_tidy _), datum_two, has_put_same (datum_isMap _) (isKey _), ← datum_two, if_pos rfl, size_two _ _ h.symm]
  unfold pairOf
  rw [if_pos e3, e1, e2]

theorem two_abk (a b k va vb vk : ByteArray) (h : a ≠ b) (hka : k ≠ a) (hkb : k ≠ b) : pairOf (datum [⟨a, va, false⟩, ⟨b, vb, false⟩, ⟨k, vk, false⟩]) a b = none := by
  have e3 : size (datum [⟨a, va, false⟩, ⟨b, vb, false⟩, ⟨k, vk, false⟩]) = 3 := by
    rw [datum_three, size_put (datum_tidy _), has_two _ _ _ hka hkb, size_two _ _ h.symm]; rfl
  unfold pairOf
  rw [if_neg (by omega)]

theorem two_ak (a b k va vk : ByteArray) (h : a ≠ b) (hkb : k ≠ b) : pairOf (datum [⟨a, va, false⟩, ⟨k, vk, false⟩]) a b = none := by
  have e2 : strAt (datum [⟨a, va, false⟩, ⟨k, vk, false⟩]) b = none := by
    rw [datum_two, strAt_other hkb.symm, datum_one, strAt_other h.symm]; rfl
  unfold pairOf
  rw [e2]
  split
  · cases strAt (datum [⟨a, va, false⟩, ⟨k, vk, false⟩]) a <;> rfl
  · rfl

theorem two_num (a b va vb : ByteArray) : pairOf (datum [⟨a, va, false⟩, ⟨b, vb, true⟩]) a b = none := by
  have e2 : strAt (datum [⟨a, va, false⟩, ⟨b, vb, true⟩]) b = none := by
    rw [datum_two]; exact strAt_num (datum_isMap _) b
  unfold pairOf
  rw [e2]
  split
  · cases strAt (datum [⟨a, va, false⟩, ⟨b, vb, true⟩]) a <;> rfl
  · rfl

end Go.Proofs.Qxb6609458a
