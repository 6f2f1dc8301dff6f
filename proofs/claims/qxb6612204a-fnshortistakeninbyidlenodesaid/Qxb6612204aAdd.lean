import Derived.Test.Qxb6612204aLz
namespace Go.Proofs.Qxb6612204a
open Go.RowKit

/-- 1,024 registers in memory, none frozen. -/
def Regs (w : World) (b o : Nat) (r : Nat → Int) : Prop := ∀ i, i < 1024 → w.cell? ⟨b, o + i, none⟩ = some (.int .u8 (r i)) ∧ w.frozen? ⟨b, o + i, none⟩ = false

/-- w' is w with new blocks, and with writes to the n cells from o on of block b alone. -/
structure Only (b o n : Nat) (w w' : World) : Prop where
  os : w'.os = w.os
  tape : w'.tape = w.tape
  output : w'.output = w.output
  size : w.heap.size ≤ w'.heap.size
  block : ∀ k, k < w.heap.size → k ≠ b → w'.heap[k]? = w.heap[k]?
  cell : ∀ j, (j < o ∨ o + n ≤ j) → w'.cell? ⟨b, j, none⟩ = w.cell? ⟨b, j, none⟩
  frozen : ∀ j, w'.frozen? ⟨b, j, none⟩ = w.frozen? ⟨b, j, none⟩

theorem Only.refl (b o n : Nat) (w : World) : Only b o n w w := ⟨rfl, rfl, rfl, Nat.le_refl _, fun _ _ _ => rfl, fun _ _ => rfl, fun _ => rfl⟩
theorem Only.trans {b o n : Nat} {w x y : World} (h : Only b o n w x) (k : Only b o n x y) : Only b o n w y :=
  ⟨k.os.trans h.os, k.tape.trans h.tape, k.output.trans h.output, Nat.le_trans h.size k.size, fun i hi hb => (k.block i (Nat.lt_of_lt_of_le hi h.size) hb).trans (h.block i hi hb),
    fun j hj => (k.cell j hj).trans (h.cell j hj), fun j => (k.frozen j).trans (h.frozen j)⟩
theorem Only.of_below {b : Nat} {w w' : World} (o n : Nat) (h : Below w.heap.size w w') (hb : b < w.heap.size) : Only b o n w w' :=
  ⟨h.os, h.tape, h.output, h.size, fun k hk _ => h.block k hk, fun j _ => h.cell (p := ⟨b, j, none⟩) hb, fun j => h.frozen (p := ⟨b, j, none⟩) hb⟩
theorem Only.setCell {b o n : Nat} {w : World} (j : Nat) (v : Value) (h0 : o ≤ j) (h1 : j < o + n) : Only b o n w (w.setCell ⟨b, j, none⟩ v) :=
  ⟨rfl, rfl, rfl, by simp [World.setCell], fun k _ hk => Below.heap_setCell _ _ _ _ hk, fun i hi => World.cell?_setCell_other _ _ _ _ (by intro e; injection e; omega), fun i => World.frozen?_setCell _ _ _ _⟩
theorem Only.below {b o n B : Nat} {w w' : World} (h : Only b o n w w') (hb : B ≤ b) (hB : B ≤ w.heap.size) : Below B w w' :=
  ⟨h.os, h.tape, h.output, h.size, fun k hk => h.block k (by omega) (by omega)⟩
theorem Only.mono {b o n o' n' : Nat} {w w' : World} (h : Only b o n w w') (h0 : o' ≤ o) (h1 : o + n ≤ o' + n') : Only b o' n' w w' :=
  ⟨h.os, h.tape, h.output, h.size, h.block, fun j hj => h.cell j (by omega), h.frozen⟩

theorem Regs.only {w w' : World} {b o n b' o' : Nat} {r : Nat → Int} (h : Regs w b' o' r) (hb : b' < w.heap.size) (k : Only b o n w w') (hd : b' ≠ b ∨ o' + 1024 ≤ o ∨ o + n ≤ o') : Regs w' b' o' r := by
  intro i hi
  obtain ⟨h0, h1⟩ := h i hi
  by_cases e : b' = b
  · subst e
    exact ⟨(k.cell _ (by omega)).trans h0, (k.frozen _).trans h1⟩
  · have hk := k.block b' hb e
    exact ⟨(World.cell?_of_block (w := w) (a := ⟨b', o' + i, none⟩) hk).trans h0, (World.frozen?_of_block (w := w) (a := ⟨b', o' + i, none⟩) hk).trans h1⟩

theorem Regs.lt {w : World} {b o : Nat} {r : Nat → Int} (h : Regs w b o r) : b < w.heap.size := World.block_lt_of_cell? w _ (h 0 (by omega)).1

theorem is64_hash (l : List UInt8) : Is64 (hashF l) := is64_mix _

def idxF (l : List UInt8) : Nat := (hashF l / 18014398509481984).toNat
theorem idxF_lt (l : List UInt8) : idxF l < 1024 := by
  have := is64_mix (fnv fnv0 l)
  unfold Is64 at this
  unfold idxF hashF
  omega
theorem idxF_eq (l : List UInt8) : hashF l / 18014398509481984 = (idxF l : Int) := by
  have := is64_mix (fnv fnv0 l)
  unfold Is64 at this
  unfold idxF hashF
  omega

def keyF (h : Int) : Int := bits BinOp.or IntKind.u64 (IntKind.u64.wrap (h * 1024)) 512
theorem is64_key (h : Int) : Is64 (keyF h) := bounds_u64 (wf_bits .or .u64 _ _)

theorem bitLenAux_le : ∀ (f x : Nat), Lib.bitLenAux f x ≤ f
  | 0, _ => Nat.le_refl _
  | f + 1, x => by
    unfold Lib.bitLenAux
    split
    · omega
    · have := bitLenAux_le f (x / 2); omega
theorem bitLen_le (x : Nat) : Lib.bitLen x ≤ 64 := bitLenAux_le 64 x

/-- The rank that an id's hash gives, less one: how many zeros lead its key. -/
def lzF (l : List UInt8) : Int := 64 - (Lib.bitLen (keyF (hashF l)).toNat : Int)
theorem lzF_bd (l : List UInt8) : 0 ≤ lzF l ∧ lzF l ≤ 64 := by
  have := bitLen_le (keyF (hashF l)).toNat
  unfold lzF
  omega
def rkF (l : List UInt8) : Int := lzF l + 1

/-- The registers with an id added. -/
def addF (r : Nat → Int) (l : List UInt8) : Nat → Int := fun i => if i = idxF l ∧ r i < rkF l then rkF l else r i

theorem regs_add {w : World} {b o : Nat} {r : Nat → Int} (hr : Regs w b o r) (i : Nat) (v : Int) (hi : i < 1024) : Regs (w.setCell ⟨b, o + i, none⟩ (.int .u8 v)) b o (fun j => if j = i then v else r j) := by
  intro j hj
  refine ⟨?_, ?_⟩
  · by_cases e : j = i
    · subst e
      simp only [if_true]
      exact World.cell?_setCell_same _ _ _ (hr j hj).1
    · simp only [if_neg e]
      rw [World.cell?_setCell_other _ _ _ _ (by intro e; injection e; omega)]
      exact (hr j hj).1
  · rw [World.frozen?_setCell]
    exact (hr j hj).2

/-- What the test and the store do to the registers. -/
theorem add_yes {w : World} {b o i : Nat} {r : Nat → Int} {z : Int} (hr : Regs w b o r) (hL : i < 1024) (h : r i < z) : Regs (w.setCell ⟨b, o + i, none⟩ (.int .u8 z)) b o (fun j => if j = i ∧ r j < z then z else r j) := by
  have := regs_add hr i z hL
  rw [show (fun j => if j = i ∧ r j < z then z else r j) = (fun j => if j = i then z else r j) from funext fun j => by
    by_cases e : j = i
    · subst e; simp [h]
    · simp [e]]
  exact this
theorem add_no {w : World} {b o i : Nat} {r : Nat → Int} {z : Int} (hr : Regs w b o r) (h : ¬ r i < z) : Regs w b o (fun j => if j = i ∧ r j < z then z else r j) := by
  rw [show (fun j => if j = i ∧ r j < z then z else r j) = r from funext fun j => by
    by_cases e : j = i
    · subst e; rw [if_neg (fun c => h c.2)]
    · rw [if_neg (fun c => e c.1)]]
  exact hr

/-- The core, over plain numbers. -/
theorem zzAdd_core (b o : Nat) (s : ByteArray) (r : Nat → Int) (w : World) (h z : Int) (i : Nat) (_h0 : 0 ≤ h) (_h1 : h ≤ 18446744073709551615) (z0 : 0 ≤ z) (z1 : z ≤ 64) (hL : i < 1024) (hI : h / 18014398509481984 = (i : Int))
    (H44 : Hid (∀ w : World, Calls Try.prog 44 #[.string s] w fun e w' => e = .returned (.int .u64 h) ∧ w' = w))
    (H45 : Hid (∀ w : World, Calls Try.prog 45 #[.int .u64 (bits BinOp.or IntKind.u64 (IntKind.u64.wrap (h * 1024)) 512)] w fun e w' => e = .returned (.int .i64 z) ∧ w' = w))
    (HR : Hid (Regs w b o r)) :
    Calls Try.prog 20 #[.pointer (some ⟨b, o, none⟩), .string s] w fun e w' => e = .returned (.tuple #[]) ∧ Regs w' b o (fun j => if j = i ∧ r j < z + 1 then z + 1 else r j) ∧ Only b o 1024 w w' := by
  obtain ⟨hc0, hf0⟩ := HR.out i hL
  obtain ⟨v, hv⟩ : ∃ v, v = r i := ⟨_, rfl⟩
  rw [← hv] at hc0
  have HV : Hid (v = r i) := hv
  clear hv
  go_enter Try.func20, Try.ntmps20
  go_wp2_with fail
  refine (H44.out _).mono ?_
  rintro e x ⟨rfl, hx⟩
  subst hx
  go_wp2_with fail
  refine (H45.out _).mono ?_
  rintro e x ⟨rfl, hx⟩
  subst hx
  by_cases hlt : v < z + 1
  · go_wp2_with fail
    go_end0
    exact ⟨rfl, add_yes HR.out hL (by rw [← HV.out]; exact hlt), Only.setCell _ _ (by omega) (by omega)⟩
  · go_wp2_with fail
    go_end0
    exact ⟨rfl, add_no HR.out (by rw [← HV.out]; omega), Only.refl _ _ _ _⟩

theorem zzAdd_any (b o : Nat) (s : ByteArray) (r : Nat → Int) (w : World) (hs : s.size ≤ maxLen) (hr : Regs w b o r) :
    Calls Try.prog 20 #[.pointer (some ⟨b, o, none⟩), .string s] w fun e w' => e = .returned (.tuple #[]) ∧ Regs w' b o (addF r s.data.toList) ∧ Only b o 1024 w w' :=
  zzAdd_core b o s r w (hashF s.data.toList) (lzF s.data.toList) (idxF s.data.toList) (is64_hash _).1 (is64_hash _).2 (lzF_bd _).1 (lzF_bd _).2 (idxF_lt _) (idxF_eq _) (fun w => zzHash_any s w hs) (fun w => lz_any (keyF (hashF s.data.toList)) w (is64_key _)) hr
end Go.Proofs.Qxb6612204a
