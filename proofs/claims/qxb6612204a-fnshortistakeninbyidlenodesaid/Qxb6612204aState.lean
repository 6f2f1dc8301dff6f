import Derived.Test.Qxb6612204aArr3
namespace Go.Proofs.Qxb6612204a
open Go.RowKit

/-- A tombstone, as plain data. -/
structure Tb where
  tg : Nat → Int
  rc : Nat → Int
  f0 : Int
  f1 : Int
  n : Int
  e : Int

/-- A tombstone that lies from offset o on in block b. -/
structure TombAt (w : World) (b o : Nat) (t : Tb) : Prop where
  tg : Regs w b o t.tg
  rc : Regs w b (o + 1024) t.rc
  f0 : w.cell? ⟨b, o + 2048, none⟩ = some (.int .u64 t.f0)
  f1 : w.cell? ⟨b, o + 2049, none⟩ = some (.int .u64 t.f1)
  n : w.cell? ⟨b, o + 2050, none⟩ = some (.int .i64 t.n)
  e : w.cell? ⟨b, o + 2051, none⟩ = some (.int .u64 t.e)
  fr : ∀ j, w.frozen? ⟨b, j, none⟩ = false

/-- A state, as plain data. -/
structure St where
  node : ByteArray
  set : ByteArray
  rank : Int
  holds : Int
  rg : Nat → Int
  tb : Tb

structure StateAt (w : World) (B : Nat) (s : St) : Prop where
  node : w.cell? ⟨B, 0, none⟩ = some (.string s.node)
  set : w.cell? ⟨B, 1, none⟩ = some (.string s.set)
  rank : w.cell? ⟨B, 2, none⟩ = some (.int .u64 s.rank)
  holds : w.cell? ⟨B, 3, none⟩ = some (.int .i64 s.holds)
  rg : Regs w B 4 s.rg
  tb : TombAt w B 1028 s.tb

def tombL (L : (Nat → Int) → List Value) (t : Tb) : Array Value := (L t.tg).toArray ++ (L t.rc).toArray ++ #[.int .u64 t.f0, .int .u64 t.f1, .int .i64 t.n] ++ #[.int .u64 t.e]
def stateL (L : (Nat → Int) → List Value) (s : St) : Array Value := #[.string s.node] ++ #[.string s.set] ++ #[.int .u64 s.rank] ++ #[.int .i64 s.holds] ++ (L s.rg).toArray ++ tombL L s.tb

theorem tombL_size {L : (Nat → Int) → List Value} (HL : IsL L) (t : Tb) : (tombL L t).size = 2052 := by
  obtain rfl : L = lst := funext HL
  exact tombArr_size _ _ _ _ _ _

theorem L_build61 {L : (Nat → Int) → List Value} (HL : IsL L) (t : Tb) (w : World) :
    (Instr.build 61 #[(0, .agg (L t.tg).toArray), (1, .agg (L t.rc).toArray), (2, .agg #[.int .u64 t.f0, .int .u64 t.f1, .int .i64 t.n]), (3, .int .u64 t.e)]).run Try.prog w = .ok (.agg (tombL L t)) w := by
  obtain rfl : L = lst := funext HL
  exact run_build61 _ _ _ _ _ _ w
theorem L_build64 {L : (Nat → Int) → List Value} (HL : IsL L) (s : St) (w : World) :
    (Instr.build 64 #[(0, .string s.node), (1, .string s.set), (2, .int .u64 s.rank), (3, .int .i64 s.holds), (4, .agg (L s.rg).toArray), (5, .agg (tombL L s.tb))]).run Try.prog w = .ok (.agg (stateL L s)) w := by
  have hT := tombL_size HL s.tb
  obtain rfl : L = lst := funext HL
  exact run_build64 _ _ _ _ _ _ hT w

theorem app_left {A B : Array Value} {i : Nat} (h : i < A.size) : (A ++ B)[i]? = A[i]? := Array.getElem?_append_left h
theorem app_right {A B : Array Value} {i n : Nat} (h : n = A.size) : (A ++ B)[n + i]? = B[i]? := by
  subst h
  rw [Array.getElem?_append_right (by omega)]
  congr 1; omega
theorem app_right' {A B : Array Value} {i n j : Nat} (h : n = A.size) (hj : j = n + i) : (A ++ B)[j]? = B[i]? := by rw [hj]; exact app_right h

theorem lstA_get (r : Nat → Int) (i : Nat) (hi : i < 1024) : (lst r).toArray[i]? = some (.int .u8 (r i)) := by rw [List.getElem?_toArray]; exact lst_get r i hi

/-- The cells of a tombstone's array. -/
theorem tomb_get {L : (Nat → Int) → List Value} (HL : IsL L) (t : Tb) : (∀ i, i < 1024 → (tombL L t)[i]? = some (.int .u8 (t.tg i))) ∧ (∀ i, i < 1024 → (tombL L t)[1024 + i]? = some (.int .u8 (t.rc i))) ∧
    (tombL L t)[2048]? = some (.int .u64 t.f0) ∧ (tombL L t)[2049]? = some (.int .u64 t.f1) ∧ (tombL L t)[2050]? = some (.int .i64 t.n) ∧ (tombL L t)[2051]? = some (.int .u64 t.e) := by
  obtain rfl : L = lst := funext HL
  have ha := hl22 t.tg
  have hb := hl22 t.rc
  have ga := lstA_get t.tg
  have gb := lstA_get t.rc
  unfold tombL
  generalize (lst t.tg).toArray = A at ha ga
  generalize (lst t.rc).toArray = B at hb gb
  refine ⟨fun i hi => ?_, fun i hi => ?_, ?_, ?_, ?_, ?_⟩
  · rw [app_left (by simp; omega), app_left (by simp; omega), app_left (by omega)]; exact ga i hi
  · rw [app_left (by simp; omega), app_left (by simp; omega), app_right ha.symm]; exact gb i hi
  · rw [app_left (by simp; omega), app_right' (n := 2048) (i := 0) (by simp; omega) rfl]; rfl
  · rw [app_left (by simp; omega), app_right' (n := 2048) (i := 1) (by simp; omega) rfl]; rfl
  · rw [app_left (by simp; omega), app_right' (n := 2048) (i := 2) (by simp; omega) rfl]; rfl
  · rw [app_right' (n := 2051) (i := 0) (by simp; omega) rfl]; rfl

theorem TombAt.of_block {L : (Nat → Int) → List Value} (HL : IsL L) {w : World} {b o : Nat} {t : Tb} {A : Array Value} {ty : TypeId} (h : w.heap[b]? = some (.cells (A ++ tombL L t) ty)) (ho : A.size = o) : TombAt w b o t := by
  obtain ⟨g0, g1, g2, g3, g4, g5⟩ := tomb_get HL t
  have hf : ∀ j, w.frozen? ⟨b, j, none⟩ = false := fun j => frozen_of_row w b j _ _ h
  have hc : ∀ j, w.cell? ⟨b, o + j, none⟩ = (tombL L t)[j]? := fun j => by rw [cell_of_row w b _ _ _ _ h, app_right ho.symm]
  exact ⟨fun i hi => ⟨by rw [hc]; exact g0 i hi, hf _⟩, fun i hi => ⟨by rw [Nat.add_assoc, hc]; exact g1 i hi, hf _⟩, by rw [hc]; exact g2, by rw [hc]; exact g3, by rw [hc]; exact g4, by rw [hc]; exact g5, hf⟩

theorem StateAt.of_block {L : (Nat → Int) → List Value} (HL : IsL L) {w : World} {b : Nat} {s : St} (h : w.heap[b]? = some (.cells (stateL L s) 64)) : StateAt w b s := by
  have ht : TombAt w b 1028 s.tb := TombAt.of_block HL h (by
    obtain rfl : L = lst := funext HL
    have := hl22 s.rg
    generalize (lst s.rg).toArray = A at this
    simp [this])
  have hc : ∀ j, w.cell? ⟨b, j, none⟩ = (stateL L s)[j]? := fun j => cell_of_row w b _ _ _ _ h
  obtain rfl : L = lst := funext HL
  have ha := hl22 s.rg
  have ga := lstA_get s.rg
  have hg : ∀ j : Nat, (stateL lst s)[j]? = (#[Value.string s.node] ++ #[.string s.set] ++ #[.int .u64 s.rank] ++ #[.int .i64 s.holds] ++ (lst s.rg).toArray ++ tombL lst s.tb)[j]? := fun j => rfl
  generalize (lst s.rg).toArray = A at ha ga hg
  generalize tombL lst s.tb = T at hg
  refine ⟨?_, ?_, ?_, ?_, fun i hi => ⟨?_, ht.fr _⟩, ht⟩
  · rw [hc, hg, app_left (by simp; omega), app_left (by simp)]; rfl
  · rw [hc, hg, app_left (by simp; omega), app_left (by simp)]; rfl
  · rw [hc, hg, app_left (by simp; omega), app_left (by simp)]; rfl
  · rw [hc, hg, app_left (by simp; omega), app_left (by simp)]; rfl
  · rw [hc, hg, app_left (by simp; omega), app_right (by simp)]; exact ga i hi
end Go.Proofs.Qxb6612204a
