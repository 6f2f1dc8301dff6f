import Derived.Test.Qxb6609458aTop
namespace Go.Proofs.Qxb6609458a
open Go.RowKit Go.Maps

/-- One member, as plain data. -/
structure Mem where
  key : ByteArray
  val : ByteArray
  num : Bool

def Mem.zero : Mem := ⟨⟨#[]⟩, ⟨#[]⟩, false⟩

/-- What the member's element reads as in the map. -/
def Mem.elem (m : Mem) : DataW Unit := if m.num then .lit (.bool true) else .lit (.string m.val.data.toList)

/-- The map that the members make. -/
def datum (ms : List Mem) : DataW Unit := ms.foldl (fun D m => D.put (.string m.key.data.toList) m.elem) (.map [])

theorem datum_snoc (ms : List Mem) (m : Mem) : datum (ms ++ [m]) = (datum ms).put (.string m.key.data.toList) m.elem := by simp [datum, List.foldl_append]

theorem datum_step (ms : List Mem) (k : Nat) (h : k < ms.length) : datum (ms.take (k + 1)) = (datum (ms.take k)).put (.string (ms.getD k Mem.zero).key.data.toList) (ms.getD k Mem.zero).elem := by
  rw [List.take_succ_eq_append_getElem h, datum_snoc]
  simp [List.getD, h]

theorem run_mk (n : Int) (w : World) : (Instr.makeMap 32 (some (.int .i64 n))).run Try.prog w = .ok (.map (some w.heap.size)) (w.alloc (.map #[] 0)) := by kernel_rfl

/-- Where the members lie. -/
def At (w : World) (b off : Nat) (ms : List Mem) : Prop :=
  ∀ i, i < ms.length → w.cell? ⟨b, off + i * 3, none⟩ = some (.string (ms.getD i Mem.zero).key) ∧ w.cell? ⟨b, off + i * 3 + 1, none⟩ = some (.string (ms.getD i Mem.zero).val) ∧ w.cell? ⟨b, off + i * 3 + 2, none⟩ = some (.bool (ms.getD i Mem.zero).num)

theorem At.carry {w wr : World} {b off : Nat} {ms : List Mem} {o : Obj} (h : At w b off ms) (hb : b < w.heap.size) (hbel : Below (w.heap.size + 1) (w.alloc o) wr) : At wr b off ms := by
  have key : ∀ off, wr.cell? ⟨b, off, none⟩ = w.cell? ⟨b, off, none⟩ := fun off => by
    rw [hbel.cell (by show b < _; omega)]
    exact World.cell?_of_block (w := w) (Below.heap_alloc w o b hb)
  intro i hi
  rw [key, key, key]
  exact h i hi

/-- What a member makes of its element. -/
def Mem.value (m : Mem) : Value := if m.num then .iface 33 (.float .f64 (floatOfInt .f64 (m.val.size : Int))) else .iface 9 (.string m.val)

theorem R_value (m : Mem) : R m.value = some (m.elem, []) := by
  unfold Mem.value Mem.elem
  cases m.num <;> simp [R]

set_option maxHeartbeats 400000 in
theorem of_any (ms : List Mem) (b off cap : Nat) (x y : ByteArray) (w : World) (hx : x.size ≤ maxLen) (hy : y.size ≤ maxLen) (hms : ∀ m ∈ ms, m.key.size ≤ maxLen) (hn : ms.length ≤ 1048576) (hb : b < w.heap.size) (hat : At w b off ms) :
    Calls Try.prog 6 #[.slice (some ⟨b, off, none⟩) ms.length cap, .string x, .string y] w fun e w' => e = .returned (answer (pairOf (datum ms) x y)) ∧ Below w.heap.size w w' := by
  have hmk := run_mk
  obtain ⟨n, hN⟩ : ∃ n, n = ms.length := ⟨_, rfl⟩
  rw [← hN]
  have HN : Hid (n = ms.length) := hN
  rw [← hN] at hn
  clear hN
  have hnil : ∀ w' : World, (binOp .eql 22 (.slice (some ⟨b, off, none⟩) n cap) (.slice none 0 0)).run Try.prog w' = .ok (.bool false) w' := fun w' => by rw [Lib.run_eql_slice_nil w' 22 23 _ _ _ _ _ Try.underlying22]; rfl
  go_enter Try.func6, Try.ntmps6
  go_wp2
  go_loopw [22] (fun i wr => ∃ k : Nat, k ≤ n ∧ i = .int .i64 k ∧ wr.ownsMap Try.prog 9 R (w.heap.size + 1) k (datum (ms.take k)) ∧ Below (w.heap.size + 1) (w.alloc (.cells #[.string ⟨#[]⟩, .string ⟨#[]⟩] 24)) wr) (fun i _ => n - (intOf i).toNat)
  case atStart =>
    refine ⟨0, Nat.zero_le _, rfl, ?_, ?_⟩
    · have := World.ownsMap_made (w.alloc (.cells #[.string ⟨#[]⟩, .string ⟨#[]⟩] 24)) Try.prog 9 R
      simpa [datum] using this
    · exact (Below.refl _ _).alloc (by simp) _
  case round =>
    obtain ⟨k, hk, rfl, hown, hbel⟩ := hrel
    by_cases hlt : k < n
    · have hkl : k < ms.length := by rw [← HN.out]; exact hlt
      have hatr := (At.carry hat hb hbel) k hkl
      have hst := datum_step ms k hkl
      have hmem : ms.getD k Mem.zero ∈ ms := by simp [List.getD, hkl]
      have hkey := hms _ hmem
      generalize ms.getD k Mem.zero = m at hatr hst hkey
      obtain ⟨c0, c1, c2⟩ := hatr
      obtain ⟨w1, hrun, hown1, hgrow1⟩ := hown.drew.update law Try.underlying32 (show k < maxLen by unfold maxLen; omega) (Go.WideMaps.keyOf_string_mk Try.underlying9 hkey) (R_value m)
      have HST : Hid (datum (ms.take (k + 1)) = (datum (ms.take k)).put (.string m.key.data.toList) m.elem) := hst
      clear hst hkl hmem hat hms hown
      unfold Mem.value at hrun
      cases hnum : m.num with
      | false =>
        rw [hnum] at hrun c2
        simp only [Bool.false_eq_true, if_false] at hrun
        clear hnum
        go_wp2
        go_region
        go_wp2
        go_roundw
        case rel => exact ⟨k + 1, by omega, by go_num, by rw [HST.out]; exact hown1, hbel.drew.grown hgrow1 (by simpa using hbel.size) (fun j hj => by cases hj; exact Nat.le_refl _)⟩
        case measure => simp [intOf]; omega
      | true =>
        rw [hnum] at hrun c2
        simp only [if_true] at hrun
        clear hnum
        go_wp2
        go_region
        go_wp2
        go_roundw
        case rel => exact ⟨k + 1, by omega, by go_num, by rw [HST.out]; exact hown1, hbel.drew.grown hgrow1 (by simpa using hbel.size) (fun j hj => by cases hj; exact Nat.le_refl _)⟩
        case measure => simp [intOf]; omega
    · have hkn : k = n := by omega
      subst hkn
      have htk : ms.take k = ms := List.take_of_length_le (by rw [← HN.out]; exact Nat.le_refl _)
      rw [htk] at hown
      clear htk hat hms
      go_wp2_with fail
      refine (pair_map (datum ms) x y (w.heap.size + 1) k wr hx hy hown).mono ?_
      rintro e w1 ⟨rfl, hb1⟩
      have hz : w.heap.size + 1 ≤ wr.heap.size := by simpa using hbel.size
      have hall : Below (w.heap.size + 1) (w.alloc (.cells #[.string ⟨#[]⟩, .string ⟨#[]⟩] 24)) w1 := hbel.trans (hb1.mono hz)
      clear hown hb1
      have hblk : w1.heap[w.heap.size]? = some (.cells #[.string ⟨#[]⟩, .string ⟨#[]⟩] 24) := by
        rw [hall.block _ (by omega)]
        exact (MapKept.heap_alloc w _).1
      have hc0 : w1.cell? ⟨w.heap.size, 0, none⟩ = some (.string ⟨#[]⟩) := by simp [World.cell?, hblk]
      have hc1 : w1.cell? ⟨w.heap.size, 1, none⟩ = some (.string ⟨#[]⟩) := by simp [World.cell?, hblk]
      have hf0 : w1.frozen? ⟨w.heap.size, 0, none⟩ = false := by simp [World.frozen?, hblk]
      have hf1 : w1.frozen? ⟨w.heap.size, 1, none⟩ = false := by simp [World.frozen?, hblk]
      have hend : Below w.heap.size w w1 := (((Below.refl _ _).alloc (Nat.le_refl _) _).trans (hall.mono (Nat.le_succ _)))
      clear hall hblk hbel
      cases hp : pairOf (datum ms) x y with
      | none =>
        have HP : Hid (pairOf (datum ms) x y = none) := hp
        clear hp
        unfold answer
        go_wp2
        exact bodyPost_ret (v := .tuple #[.agg #[.string ⟨#[]⟩, .string ⟨#[]⟩], .bool false]) (by simp [results, Try.results6, go_sem, hc0, hc1]) rfl ⟨by rw [HP.out]; rfl, (hend.setCell (Nat.le_refl _) _).setCell (Nat.le_refl _) _⟩
      | some r =>
        obtain ⟨r0, r1⟩ := r
        have HP : Hid (pairOf (datum ms) x y = some (r0, r1)) := hp
        clear hp
        unfold answer
        go_wp2
        exact bodyPost_ret (v := .tuple #[.agg #[.string r0, .string r1], .bool true]) (by simp [results, Try.results6, go_sem, hc0, hc1]) rfl ⟨by rw [HP.out]; rfl, (hend.setCell (Nat.le_refl _) _).setCell (Nat.le_refl _) _⟩

/-- A nil slice of members. -/
theorem of_nil (x y : ByteArray) (w : World) :
    Calls Try.prog 6 #[.slice none 0 0, .string x, .string y] w fun e w' => e = .returned (answer none) ∧ Below w.heap.size w w' := by
  have hnil : ∀ w' : World, (binOp .eql 22 (.slice none 0 0) (.slice none 0 0)).run Try.prog w' = .ok (.bool true) w' := fun w' => by rw [Lib.run_eql_slice_nil w' 22 23 _ _ _ _ _ Try.underlying22]; rfl
  go_enter Try.func6, Try.ntmps6
  go_wp2_with fail
  refine (pair_nil x y _).mono ?_
  rintro e w1 ⟨rfl, hb1⟩
  have hblk : w1.heap[w.heap.size]? = some (.cells #[.string ⟨#[]⟩, .string ⟨#[]⟩] 24) := by
    rw [hb1.block _ (by simp)]
    exact (MapKept.heap_alloc w _).1
  have hc0 : w1.cell? ⟨w.heap.size, 0, none⟩ = some (.string ⟨#[]⟩) := by simp [World.cell?, hblk]
  have hc1 : w1.cell? ⟨w.heap.size, 1, none⟩ = some (.string ⟨#[]⟩) := by simp [World.cell?, hblk]
  have hf0 : w1.frozen? ⟨w.heap.size, 0, none⟩ = false := by simp [World.frozen?, hblk]
  have hf1 : w1.frozen? ⟨w.heap.size, 1, none⟩ = false := by simp [World.frozen?, hblk]
  have hend : Below w.heap.size w w1 := (((Below.refl _ _).alloc (Nat.le_refl _) _).trans (hb1.mono (by simp)))
  clear hblk hb1
  unfold answer
  go_wp2
  exact bodyPost_ret (v := .tuple #[.agg #[.string ⟨#[]⟩, .string ⟨#[]⟩], .bool false]) (by simp [results, Try.results6, go_sem, hc0, hc1]) rfl ⟨rfl, (hend.setCell (Nat.le_refl _) _).setCell (Nat.le_refl _) _⟩
end Go.Proofs.Qxb6609458a
