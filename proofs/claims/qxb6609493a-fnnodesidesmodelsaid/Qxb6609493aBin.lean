import Derived.Shelf.Bin.BEUint32
import Derived.Shelf.Bin.BEUint64
import Derived.Shelf.Bin.BEPutUint32
import Derived.Shelf.Bin.BEPutUint64
import Derived.Shelf.Spec.BitsCarry
import Derived.Test.Qxb6609493aVal
namespace Go.Proofs
open Go.Shelf
def Try.lays39_ren : Go.Shelf.Ren := ⟨fun | 39 => 37 | n => n, fun | 0 => 0 | 5 => 5 | 22 => 40 | 29 => 91 | 33 => 22 | 37 => 101 | 45 => 104 | n => n, fun | n => n⟩
theorem Try.lays39 : Go.Proofs.LaysBin.n39 Try.prog Try.lays39_ren := {
  mixed := by kernel_rfl
  f39 := Try.func37.trans (congrArg some (by kernel_rfl))
  t0 := Try.underlying0
  a0 := Try.isAgg0
  z0 := Try.sizeOf0
  v0 := Try.zeroValue0
  i0 := by kernel_rfl
  t5 := Try.underlying5
  a5 := Try.isAgg5
  z5 := Try.sizeOf5
  v5 := Try.zeroValue5
  i5 := by kernel_rfl
  t22 := Try.underlying40
  a22 := Try.isAgg40
  z22 := Try.sizeOf40
  v22 := Try.zeroValue40
  i22 := by kernel_rfl
  t29 := Try.underlying91
  a29 := Try.isAgg91
  z29 := Try.sizeOf91
  v29 := Try.zeroValue91
  i29 := by kernel_rfl
  t37 := Try.underlying101
  a37 := Try.isAgg101
  z37 := Try.sizeOf101
  v37 := Try.zeroValue101
  i37 := by kernel_rfl
  t45 := Try.underlying104
  a45 := Try.isAgg104
  z45 := Try.sizeOf104
  v45 := Try.zeroValue104
  i45 := by kernel_rfl }
def Try.lays40_ren : Go.Shelf.Ren := ⟨fun | 40 => 39 | n => n, fun | 0 => 0 | 5 => 5 | 22 => 40 | 29 => 91 | 33 => 22 | 37 => 101 | 45 => 104 | n => n, fun | n => n⟩
theorem Try.lays40 : Go.Proofs.LaysBin.n40 Try.prog Try.lays40_ren := {
  mixed := by kernel_rfl
  f40 := Try.func39.trans (congrArg some (by kernel_rfl))
  t0 := Try.underlying0
  a0 := Try.isAgg0
  z0 := Try.sizeOf0
  v0 := Try.zeroValue0
  i0 := by kernel_rfl
  t5 := Try.underlying5
  a5 := Try.isAgg5
  z5 := Try.sizeOf5
  v5 := Try.zeroValue5
  i5 := by kernel_rfl
  t22 := Try.underlying40
  a22 := Try.isAgg40
  z22 := Try.sizeOf40
  v22 := Try.zeroValue40
  i22 := by kernel_rfl
  t29 := Try.underlying91
  a29 := Try.isAgg91
  z29 := Try.sizeOf91
  v29 := Try.zeroValue91
  i29 := by kernel_rfl
  t37 := Try.underlying101
  a37 := Try.isAgg101
  z37 := Try.sizeOf101
  v37 := Try.zeroValue101
  i37 := by kernel_rfl
  t45 := Try.underlying104
  a45 := Try.isAgg104
  z45 := Try.sizeOf104
  v45 := Try.zeroValue104
  i45 := by kernel_rfl }
def Try.lays42_ren : Go.Shelf.Ren := ⟨fun | 42 => 38 | n => n, fun | 0 => 0 | 5 => 5 | 22 => 40 | 29 => 91 | 33 => 22 | 37 => 101 | 45 => 104 | n => n, fun | n => n⟩
theorem Try.lays42 : Go.Proofs.LaysBin.n42 Try.prog Try.lays42_ren := {
  mixed := by kernel_rfl
  f42 := Try.func38.trans (congrArg some (by kernel_rfl))
  t0 := Try.underlying0
  a0 := Try.isAgg0
  z0 := Try.sizeOf0
  v0 := Try.zeroValue0
  i0 := by kernel_rfl
  t5 := Try.underlying5
  a5 := Try.isAgg5
  z5 := Try.sizeOf5
  v5 := Try.zeroValue5
  i5 := by kernel_rfl
  t22 := Try.underlying40
  a22 := Try.isAgg40
  z22 := Try.sizeOf40
  v22 := Try.zeroValue40
  i22 := by kernel_rfl
  t33 := Try.underlying22
  a33 := Try.isAgg22
  z33 := Try.sizeOf22
  v33 := Try.zeroValue22
  i33 := by kernel_rfl
  t37 := Try.underlying101
  a37 := Try.isAgg101
  z37 := Try.sizeOf101
  v37 := Try.zeroValue101
  i37 := by kernel_rfl
  t45 := Try.underlying104
  a45 := Try.isAgg104
  z45 := Try.sizeOf104
  v45 := Try.zeroValue104
  i45 := by kernel_rfl }
def Try.lays43_ren : Go.Shelf.Ren := ⟨fun | 43 => 40 | n => n, fun | 0 => 0 | 5 => 5 | 22 => 40 | 29 => 91 | 33 => 22 | 37 => 101 | 45 => 104 | n => n, fun | n => n⟩
theorem Try.lays43 : Go.Proofs.LaysBin.n43 Try.prog Try.lays43_ren := {
  mixed := by kernel_rfl
  f43 := Try.func40.trans (congrArg some (by kernel_rfl))
  t0 := Try.underlying0
  a0 := Try.isAgg0
  z0 := Try.sizeOf0
  v0 := Try.zeroValue0
  i0 := by kernel_rfl
  t5 := Try.underlying5
  a5 := Try.isAgg5
  z5 := Try.sizeOf5
  v5 := Try.zeroValue5
  i5 := by kernel_rfl
  t22 := Try.underlying40
  a22 := Try.isAgg40
  z22 := Try.sizeOf40
  v22 := Try.zeroValue40
  i22 := by kernel_rfl
  t33 := Try.underlying22
  a33 := Try.isAgg22
  z33 := Try.sizeOf22
  v33 := Try.zeroValue22
  i33 := by kernel_rfl
  t37 := Try.underlying101
  a37 := Try.isAgg101
  z37 := Try.sizeOf101
  v37 := Try.zeroValue101
  i37 := by kernel_rfl
  t45 := Try.underlying104
  a45 := Try.isAgg104
  z45 := Try.sizeOf104
  v45 := Try.zeroValue104
  i45 := by kernel_rfl }
def Try.lays26_ren : Go.Shelf.Ren := ⟨fun | 26 => 33 | n => n, fun | 22 => 22 | n => n, fun | n => n⟩
theorem Try.lays26 : Go.Proofs.Lays7.n26 Try.prog Try.lays26_ren := {
  mixed := by kernel_rfl
  f26 := Try.func33.trans (congrArg some (by kernel_rfl))
  t22 := Try.underlying22
  a22 := Try.isAgg22
  z22 := Try.sizeOf22
  v22 := Try.zeroValue22
  i22 := by kernel_rfl }
end Go.Proofs
namespace Go.Proofs.Qxb6609493a
open Go.RowKit

theorem sub64_run (x y b : Nat) (hb : b ≤ 1) (w : World) :
    (callFunc 33 #[.int .u64 x, .int .u64 y, .int .u64 b]).run Try.prog w =
      .ok (.value (.tuple #[.int .u64 (((x + 18446744073709551616 - y - b) % 18446744073709551616 : Nat) : Int), .int .u64 ((if x < y + b then 1 else 0 : Nat) : Int)])) w := Any7.bits_Sub64 Try.lays26 x y b hb w

/-- A byte as the library has it. -/
def b8 (x : Int) : UInt8 := x.toNat.toUInt8
theorem b8_nat {x : Int} (h0 : 0 ≤ x) (h1 : x ≤ 255) : ((b8 x).toNat : Int) = x := by
  unfold b8
  have : x.toNat < 256 := by omega
  simp [Nat.toUInt8, UInt8.toNat_ofNat']
  omega

theorem u32_any (g o n c : Nat) (r : Nat → Int) (w : World) (hn : 4 ≤ n) (hr : ∀ i, i < 4 → 0 ≤ r i ∧ r i ≤ 255) (hc : ∀ i, i < 4 → w.cell? ⟨g, o + i, none⟩ = some (.int .u8 (r i))) :
    Calls Try.prog 37 #[.agg #[], .slice (some ⟨g, o, none⟩) n c] w fun e w' => e = .returned (.int .u32 (Vp r 4)) ∧ Below w.heap.size w w' := by
  have hb : ∀ i, i < 4 → ((b8 (r i)).toNat : Int) = r i := fun i hi => b8_nat (hr i hi).1 (hr i hi).2
  refine (Any.binary_BE_Uint32 Try.lays39 g o n c (b8 (r 0)) (b8 (r 1)) (b8 (r 2)) (b8 (r 3)) w hn ?_ ?_ ?_ ?_).mono ?_
  · rw [hb 0 (by omega)]; exact hc 0 (by omega)
  · rw [hb 1 (by omega)]; exact hc 1 (by omega)
  · rw [hb 2 (by omega)]; exact hc 2 (by omega)
  · rw [hb 3 (by omega)]; exact hc 3 (by omega)
  · rintro e w' ⟨rfl, hB⟩
    refine ⟨?_, hB⟩
    have : ((Lib.beNat [b8 (r 0), b8 (r 1), b8 (r 2), b8 (r 3)] : Nat) : Int) = Vp r 4 := by
      have h0 := hb 0 (by omega); have h1 := hb 1 (by omega); have h2 := hb 2 (by omega); have h3 := hb 3 (by omega)
      simp only [Lib.beNat, Lib.beFrom, Vp]
      omega
    rw [this]
theorem u64_any (g o n c : Nat) (r : Nat → Int) (w : World) (hn : 8 ≤ n) (hr : ∀ i, i < 8 → 0 ≤ r i ∧ r i ≤ 255) (hc : ∀ i, i < 8 → w.cell? ⟨g, o + i, none⟩ = some (.int .u8 (r i))) :
    Calls Try.prog 38 #[.agg #[], .slice (some ⟨g, o, none⟩) n c] w fun e w' => e = .returned (.int .u64 (Vp r 8)) ∧ Below w.heap.size w w' := by
  have hb : ∀ i, i < 8 → ((b8 (r i)).toNat : Int) = r i := fun i hi => b8_nat (hr i hi).1 (hr i hi).2
  refine (Any.binary_BE_Uint64 Try.lays42 g o n c (b8 (r 0)) (b8 (r 1)) (b8 (r 2)) (b8 (r 3)) (b8 (r 4)) (b8 (r 5)) (b8 (r 6)) (b8 (r 7)) w hn ?_ ?_ ?_ ?_ ?_ ?_ ?_ ?_).mono ?_
  · rw [hb 0 (by omega)]; exact hc 0 (by omega)
  · rw [hb 1 (by omega)]; exact hc 1 (by omega)
  · rw [hb 2 (by omega)]; exact hc 2 (by omega)
  · rw [hb 3 (by omega)]; exact hc 3 (by omega)
  · rw [hb 4 (by omega)]; exact hc 4 (by omega)
  · rw [hb 5 (by omega)]; exact hc 5 (by omega)
  · rw [hb 6 (by omega)]; exact hc 6 (by omega)
  · rw [hb 7 (by omega)]; exact hc 7 (by omega)
  · rintro e w' ⟨rfl, hB⟩
    refine ⟨?_, hB⟩
    have : ((Lib.beNat [b8 (r 0), b8 (r 1), b8 (r 2), b8 (r 3), b8 (r 4), b8 (r 5), b8 (r 6), b8 (r 7)] : Nat) : Int) = Vp r 8 := by
      have h0 := hb 0 (by omega); have h1 := hb 1 (by omega); have h2 := hb 2 (by omega); have h3 := hb 3 (by omega); have h4 := hb 4 (by omega); have h5 := hb 5 (by omega); have h6 := hb 6 (by omega); have h7 := hb 7 (by omega)
      simp only [Lib.beNat, Lib.beFrom, Vp]
      omega
    rw [this]

/-- The bytes of a number of k bytes, as cells. -/
def byteL (k : Nat) (v : Int) : List Value := (List.range k).map fun i => Value.int .u8 (v / 256 ^ (k - 1 - i) % 256)
theorem byteCells4 (v : Nat) : Lib.byteCells (Lib.beBytes 4 v) = byteL 4 v := by
  simp [Lib.byteCells, Lib.beBytes, Lib.leBytes, byteL, List.range, List.range.loop, Nat.toUInt8, UInt8.toNat_ofNat']
  omega
theorem byteCells8 (v : Nat) : Lib.byteCells (Lib.beBytes 8 v) = byteL 8 v := by
  simp [Lib.byteCells, Lib.beBytes, Lib.leBytes, byteL, List.range, List.range.loop, Nat.toUInt8, UInt8.toNat_ofNat']
  omega
theorem byteL_len (k : Nat) (v : Int) : (byteL k v).length = k := by simp [byteL]

theorem put_world (w : World) (g o n : Nat) (vs vs0 : List Value) (hn : vs.length = n) (hn0 : vs0.length = n) (h0 : Mem w g o vs0) (hb : g < w.heap.size) :
    Mem ((w.alloc (.cells #[] 101)).setCells g o vs) g o vs ∧ Only g o n w ((w.alloc (.cells #[] 101)).setCells g o vs) := by
  have hB : Below w.heap.size w (w.alloc (.cells #[] 101)) := (Below.refl _ _).alloc (Nat.le_refl _) _
  have h1 := h0.below hB hb
  have ht : (w.alloc (.cells #[] 101)).there g o n := hn0 ▸ h1.there
  have h3 := World.rangeAt_setCells_same (w.alloc (.cells #[] 101)) g o vs (by rw [hn]; exact ht)
  have h4 := Only.setCells g vs o (w.alloc (.cells #[] 101))
  rw [hn] at h4
  exact ⟨Mem.mk h3 (by rw [hn]; exact World.there_setCells ht g o _), (Only.of_below o n hB hb).trans h4⟩

theorem p32_any (g o n c : Nat) (v : Int) (vs0 : List Value) (w : World) (hn : 4 ≤ n) (h0 : 0 ≤ v) (h1 : v < 4294967296) (hl : vs0.length = 4) (hm : Mem w g o vs0) :
    Calls Try.prog 39 #[.agg #[], .slice (some ⟨g, o, none⟩) n c, .int .u32 v] w fun e w' => e = .returned (.tuple #[]) ∧ Mem w' g o (byteL 4 v) ∧ Only g o 4 w w' := by
  obtain ⟨x0, x1, x2, x3, rfl⟩ : ∃ x0 x1 x2 x3, vs0 = [x0, x1, x2, x3] := by
    match vs0, hl with
    | [x0, x1, x2, x3], _ => exact ⟨x0, x1, x2, x3, rfl⟩
  have hv : ((v.toNat : Nat) : Int) = v := by omega
  have := Any.binary_BE_PutUint32 Try.lays40 g o n c v.toNat (by omega) x0 x1 x2 x3 w hn (hm 0 _ rfl).1 (hm 1 _ rfl).1 (hm 2 _ rfl).1 (hm 3 _ rfl).1 (hm 0 _ rfl).2 (hm 1 _ rfl).2 (hm 2 _ rfl).2 (hm 3 _ rfl).2
  rw [hv] at this
  refine this.mono ?_
  rintro e w' ⟨rfl, rfl⟩
  rw [byteCells4, hv]
  obtain ⟨a, b⟩ := put_world w g o 4 (byteL 4 v) _ (byteL_len _ _) hl hm (hm.lt (by simp))
  exact ⟨rfl, a, b⟩
theorem p64_any (g o n c : Nat) (v : Int) (vs0 : List Value) (w : World) (hn : 8 ≤ n) (h0 : 0 ≤ v) (h1 : v < 18446744073709551616) (hl : vs0.length = 8) (hm : Mem w g o vs0) :
    Calls Try.prog 40 #[.agg #[], .slice (some ⟨g, o, none⟩) n c, .int .u64 v] w fun e w' => e = .returned (.tuple #[]) ∧ Mem w' g o (byteL 8 v) ∧ Only g o 8 w w' := by
  obtain ⟨x0, x1, x2, x3, x4, x5, x6, x7, rfl⟩ : ∃ x0 x1 x2 x3 x4 x5 x6 x7, vs0 = [x0, x1, x2, x3, x4, x5, x6, x7] := by
    match vs0, hl with
    | [x0, x1, x2, x3, x4, x5, x6, x7], _ => exact ⟨x0, x1, x2, x3, x4, x5, x6, x7, rfl⟩
  have hv : ((v.toNat : Nat) : Int) = v := by omega
  have := Any.binary_BE_PutUint64 Try.lays43 g o n c v.toNat (by omega) x0 x1 x2 x3 x4 x5 x6 x7 w hn (hm 0 _ rfl).1 (hm 1 _ rfl).1 (hm 2 _ rfl).1 (hm 3 _ rfl).1 (hm 4 _ rfl).1 (hm 5 _ rfl).1 (hm 6 _ rfl).1 (hm 7 _ rfl).1 (hm 0 _ rfl).2 (hm 1 _ rfl).2 (hm 2 _ rfl).2 (hm 3 _ rfl).2 (hm 4 _ rfl).2 (hm 5 _ rfl).2 (hm 6 _ rfl).2 (hm 7 _ rfl).2
  rw [hv] at this
  refine this.mono ?_
  rintro e w' ⟨rfl, rfl⟩
  rw [byteCells8, hv]
  obtain ⟨a, b⟩ := put_world w g o 8 (byteL 8 v) _ (byteL_len _ _) hl hm (hm.lt (by simp))
  exact ⟨rfl, a, b⟩
end Go.Proofs.Qxb6609493a
