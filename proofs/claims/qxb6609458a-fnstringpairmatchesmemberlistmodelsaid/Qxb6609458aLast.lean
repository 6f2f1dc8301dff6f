import Derived.Test.Qxb6609458aLawB
namespace Go.Proofs.Qxb6609458a
open Go.RowKit Go.Maps

/-- The last member of a name. -/
def lastOf (ms : List Mem) (name : ByteArray) : Option Mem := ms.foldl (fun r m => if m.key.toList == name.toList then some m else r) none

theorem lastOf_snoc (ms : List Mem) (m : Mem) (name : ByteArray) : lastOf (ms ++ [m]) name = if m.key.toList == name.toList then some m else lastOf ms name := by simp [lastOf, List.foldl_append]

theorem lastOf_step (ms : List Mem) (k : Nat) (h : k < ms.length) (name : ByteArray) : lastOf (ms.take (k + 1)) name = if (ms.getD k Mem.zero).key.toList == name.toList then some (ms.getD k Mem.zero) else lastOf (ms.take k) name := by
  rw [List.take_succ_eq_append_getElem h, lastOf_snoc]
  simp [List.getD, h]

theorem str_eq {a b : ByteArray} (h : (a.toList == b.toList) = true) : a = b := by
  by_cases e : a = b
  · exact e
  · rw [str_ne e] at h; cases h

/-- The model's last string is what stands in the map. -/
theorem strAt_datum (ms : List Mem) (name : ByteArray) : strAt (datum ms) name = match lastOf ms name with | some m => if m.num then none else some m.val | none => none := by
  suffices h : ∀ k, k ≤ ms.length → strAt (datum (ms.take k)) name = match lastOf (ms.take k) name with | some m => if m.num then none else some m.val | none => none by
    have := h ms.length (Nat.le_refl _)
    simpa using this
  intro k
  induction k with
  | zero => intro _; simp [lastOf, datum, strAt_empty]
  | succ k ih =>
    intro hk
    have ih := ih (by omega)
    rw [datum_step ms k (by omega), lastOf_step ms k (by omega)]
    generalize ms.getD k Mem.zero = m
    by_cases e : m.key = name
    · subst e
      simp only [BEq.rfl, if_true]
      unfold Mem.elem
      cases m.num
      · exact strAt_same (datum_isMap _) _ _
      · exact strAt_num (datum_isMap _) _
    · rw [strAt_other (Ne.symm e), ih, str_ne e]
      rfl

def foundV (r : Option Mem) : Bool := r.isSome
def numV (r : Option Mem) : Bool := match r with | some m => m.num | none => false
def valV (r : Option Mem) : ByteArray := match r with | some m => m.val | none => ⟨#[]⟩

set_option maxHeartbeats 400000 in
theorem last_any (ms : List Mem) (b off cap : Nat) (x : ByteArray) (w : World) (hn : ms.length ≤ 1048576) (hat : At w b off ms) :
    Calls Try.prog 8 #[.slice (some ⟨b, off, none⟩) ms.length cap, .string x] w fun e w' => e = .returned (asr (strAt (datum ms) x)) ∧ w' = w := by
  obtain ⟨n, hN⟩ : ∃ n, n = ms.length := ⟨_, rfl⟩
  rw [← hN]
  have HN : Hid (n = ms.length) := hN
  rw [← hN] at hn
  clear hN
  go_enter Try.func8, Try.ntmps8
  go_wp2
  go_loop [6, 7, 8, 9] (fun f m v i => ∃ k : Nat, k ≤ n ∧ i = .int .i64 k ∧ f = .bool (foundV (lastOf (ms.take k) x)) ∧ m = .bool (numV (lastOf (ms.take k) x)) ∧ v = .string (valV (lastOf (ms.take k) x))) (fun _ _ _ i => n - (intOf i).toNat)
  case atStart => exact ⟨0, Nat.zero_le _, rfl, rfl, rfl, rfl⟩
  case round =>
    obtain ⟨k, hk, rfl, rfl, rfl, rfl⟩ := hrel
    by_cases hlt : k < n
    · have hkl : k < ms.length := by rw [← HN.out]; exact hlt
      have hatr := hat k hkl
      have hst := lastOf_step ms k hkl x
      generalize ms.getD k Mem.zero = m at hatr hst
      obtain ⟨c0, c1, c2⟩ := hatr
      cases hm : (m.key.toList == x.toList)
      · have HS : Hid (lastOf (ms.take (k + 1)) x = lastOf (ms.take k) x) := by show _ = _; rw [hst, hm]; rfl
        clear hst hkl hat
        generalize lastOf (ms.take k) x = r at HS
        go_wp2
        go_round
        case rel => exact ⟨k + 1, by omega, by go_num, by rw [HS.out], by rw [HS.out], by rw [HS.out]⟩
        case measure => simp [intOf]; omega
      · have HS : Hid (lastOf (ms.take (k + 1)) x = some m) := by show _ = _; rw [hst, hm]; rfl
        clear hst hkl hat
        go_wp2
        go_round
        case rel => exact ⟨k + 1, by omega, by go_num, by rw [HS.out]; rfl, by rw [HS.out]; rfl, by rw [HS.out]; rfl⟩
        case measure => simp [intOf]; omega
    · have hkn : k = n := by omega
      subst hkn
      have htk : ms.take k = ms := List.take_of_length_le (by rw [← HN.out]; exact Nat.le_refl _)
      rw [htk]
      clear htk hat
      have hS := strAt_datum ms x
      cases hl : lastOf ms x with
      | none =>
        rw [hl] at hS
        have HS : Hid (strAt (datum ms) x = none) := hS
        clear hS hl
        unfold foundV numV valV
        go_wp2
        go_ret2
        exact ⟨by rw [HS.out]; rfl, rfl⟩
      | some m =>
        rw [hl] at hS
        unfold foundV numV valV
        cases hm : m.num with
        | false =>
          have HS : Hid (strAt (datum ms) x = some m.val) := by show _ = _; rw [hS]; simp [hm]
          clear hS hl
          go_wp2
          go_ret2
          exact ⟨by rw [HS.out]; rfl, rfl⟩
        | true =>
          have HS : Hid (strAt (datum ms) x = none) := by show _ = _; rw [hS]; simp [hm]
          clear hS hl
          go_wp2
          go_ret2
          exact ⟨by rw [HS.out]; rfl, rfl⟩
end Go.Proofs.Qxb6609458a
