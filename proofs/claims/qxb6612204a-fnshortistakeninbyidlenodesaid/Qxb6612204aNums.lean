import Derived.Test.Qxb6612204aShelf
import Derived.WalkKit
import Derived.WalkSpells
import Derived.WalkLawsBesides
import Derived.OpenShut
namespace Go.Proofs.Qxb6612204a
open Go.RowKit

/-- Exclusive or, and the wrap, of 64 bits. -/
def X (a b : Int) : Int := bits .xor .u64 a b
def W (a : Int) : Int := IntKind.u64.wrap a

/-- It is a uint64. -/
def Is64 (h : Int) : Prop := 0 ≤ h ∧ h ≤ 18446744073709551615

theorem is64_W (a : Int) : Is64 (W a) := bounds_u64 (wf_wrap .u64 a)
theorem is64_X (a b : Int) : Is64 (X a b) := bounds_u64 (wf_bits .xor .u64 a b)

def mixA (h : Int) : Int := W (X h (h / 1073741824) * 13787848793156543929)
def mixB (h : Int) : Int := W (X h (h / 134217728) * 10723151780598845931)
def mixC (h : Int) : Int := X h (h / 2147483648)
def mixF (h : Int) : Int := mixC (mixB (mixA h))
theorem is64_mix (h : Int) : Is64 (mixF h) := is64_X _ _

theorem zzMix_any (h : Int) (w : World) (hh : Is64 h) :
    Calls Try.prog 35 #[.int .u64 h] w fun e w' => e = .returned (.int .u64 (mixF h)) ∧ w' = w := by
  obtain ⟨h0, h1⟩ := hh
  go_enter Try.func35, Try.ntmps35
  go_wp2
  go_ret
  exact ⟨rfl, rfl⟩

theorem mix_any (h : Int) (w : World) (hh : Is64 h) :
    Calls Try.prog 53 #[.int .u64 h] w fun e w' => e = .returned (.int .u64 (mixF h)) ∧ w' = w := by
  obtain ⟨h0, h1⟩ := hh
  go_enter Try.func53, Try.ntmps53
  go_wp2
  go_ret
  exact ⟨rfl, rfl⟩

def fnvStep (h : Int) (c : UInt8) : Int := W (X h (W (c.toNat : Int)) * 1099511628211)
def fnv (h : Int) (l : List UInt8) : Int := l.foldl fnvStep h

theorem fnv_snoc (h : Int) (l : List UInt8) (c : UInt8) : fnv h (l ++ [c]) = fnvStep (fnv h l) c := by simp [fnv, List.foldl_append]
theorem is64_fnv (h : Int) (hh : Is64 h) (l : List UInt8) : Is64 (fnv h l) := by
  unfold fnv
  induction l generalizing h with
  | nil => exact hh
  | cons c r ih => exact ih _ (is64_W _)

theorem take_snoc (s : ByteArray) (k : Nat) (h : k < s.size) : s.data.toList.take (k + 1) = s.data.toList.take k ++ [s[k]] := by
  rw [List.take_succ_eq_append_getElem (by simpa using h)]; rfl

theorem take_all (s : ByteArray) (k : Nat) (h : s.size ≤ k) : s.data.toList.take k = s.data.toList :=
  List.take_of_length_le (by rw [Array.length_toList]; exact h)

theorem zzFNV_any (h : Int) (s : ByteArray) (w : World) (hs : s.size ≤ maxLen) :
    Calls Try.prog 34 #[.int .u64 h, .string s] w fun e w' => e = .returned (.int .u64 (fnv h s.data.toList)) ∧ w' = w := by
  unfold maxLen at hs
  go_enter Try.func34, Try.ntmps34
  go_wp2
  go_loop [0, 5] (fun n i => ∃ k : Nat, k ≤ s.size ∧ i = .int .i64 k ∧ n = .int .u64 (fnv h (s.data.toList.take k))) (fun _ i => s.size - (intOf i).toNat)
  case atStart => exact ⟨0, Nat.zero_le _, rfl, rfl⟩
  case round =>
    obtain ⟨k, hk, rfl, rfl⟩ := hrel
    by_cases hlt : k < s.size
    · have HS : Hid (fnv h (s.data.toList.take (k + 1)) = fnvStep (fnv h (s.data.toList.take k)) s[k]) := by show _ = _; rw [take_snoc s k hlt, fnv_snoc]
      generalize fnv h (s.data.toList.take k) = f at HS
      go_wp2
      go_round
      case rel => exact ⟨k + 1, by omega, by go_num, by rw [HS.out]; rfl⟩
      case measure => simp [intOf]; omega
    · have HT : Hid (s.data.toList.take k = s.data.toList) := take_all s k (by omega)
      go_wp2
      go_ret
      exact ⟨by rw [HT.out]; rfl, rfl⟩

def fnv0 : Int := 14695981039346656037
def hashF (l : List UInt8) : Int := mixF (fnv fnv0 l)
def rankF (node set : List UInt8) : Int := mixF (fnv (W (fnv fnv0 node * 1099511628211)) set)
theorem is64_fnv0 : Is64 fnv0 := ⟨by decide, by decide⟩

theorem zzHash_any (s : ByteArray) (w : World) (hs : s.size ≤ maxLen) :
    Calls Try.prog 44 #[.string s] w fun e w' => e = .returned (.int .u64 (hashF s.data.toList)) ∧ w' = w := by
  go_enter Try.func44, Try.ntmps44
  go_wp2_with fail
  refine (zzFNV_any 14695981039346656037 s w hs).mono ?_
  rintro e x ⟨rfl, hx⟩
  subst hx
  go_wp2_with fail
  refine (zzMix_any _ _ (is64_fnv _ is64_fnv0 _)).mono ?_
  rintro e x ⟨rfl, hx⟩
  subst hx
  go_wp2_with fail
  go_ret
  exact ⟨rfl, rfl⟩

theorem zzRank_any (s t : ByteArray) (w : World) (hs : s.size ≤ maxLen) (ht : t.size ≤ maxLen) :
    Calls Try.prog 11 #[.string s, .string t] w fun e w' => e = .returned (.int .u64 (rankF s.data.toList t.data.toList)) ∧ w' = w := by
  go_enter Try.func11, Try.ntmps11
  go_wp2_with fail
  refine (zzFNV_any 14695981039346656037 s w hs).mono ?_
  rintro e x ⟨rfl, hx⟩
  subst hx
  go_wp2_with fail
  refine (zzFNV_any _ t _ ht).mono ?_
  rintro e x ⟨rfl, hx⟩
  subst hx
  go_wp2_with fail
  refine (zzMix_any _ _ (is64_fnv _ (is64_W _) _)).mono ?_
  rintro e x ⟨rfl, hx⟩
  subst hx
  go_wp2_with fail
  go_ret
  exact ⟨rfl, rfl⟩

/-! ### hash/fnv's own -/
theorem sum64_any (b : Nat) (h : Int) (w : World) (hc : w.cell? ⟨b, 0, none⟩ = some (.int .u64 h)) :
    Calls Try.prog 75 #[.pointer (some ⟨b, 0, none⟩)] w fun e w' => e = .returned (.int .u64 h) ∧ w' = w := by
  go_enter Try.func75, Try.ntmps75
  go_wp2
  go_ret
  exact ⟨rfl, rfl⟩

/-- Write, at a row of bytes. -/
theorem write_any (b : Nat) (h : Int) (c n cap : Nat) (l : List UInt8) (w : World) (hn : n = l.length) (hl : n ≤ 1048576) (hc : w.cell? ⟨b, 0, none⟩ = some (.int .u64 h)) (hf : w.frozen? ⟨b, 0, none⟩ = false)
    (hd : ∀ i, i < n → w.cell? ⟨c, i, none⟩ = some (.int .u8 ((l.getD i 0).toNat : Int))) :
    Calls Try.prog 76 #[.pointer (some ⟨b, 0, none⟩), .slice (some ⟨c, 0, none⟩) n cap] w fun e w' => e = .returned (.tuple #[.int .i64 n, .nilIface]) ∧ w' = w.setCell ⟨b, 0, none⟩ (.int .u64 (fnv h l)) := by
  have HD : Hid (n = l.length ∧ ∀ i, i < n → w.cell? ⟨c, i, none⟩ = some (.int .u8 ((l.getD i 0).toNat : Int))) := ⟨hn, hd⟩
  clear hn hd
  go_enter Try.func76, Try.ntmps76
  go_wp2
  go_loop [6, 14] (fun n' i => ∃ k : Nat, k ≤ n ∧ i = .int .i64 k ∧ n' = .int .u64 (fnv h (l.take k))) (fun _ i => n - (intOf i).toNat)
  case atStart => exact ⟨0, Nat.zero_le _, rfl, rfl⟩
  case round =>
    obtain ⟨k, hk, rfl, rfl⟩ := hrel
    by_cases hlt : k < n
    · have hck := HD.out.2 k hlt
      have HS : Hid (fnv h (l.take (k + 1)) = fnvStep (fnv h (l.take k)) (l.getD k 0)) := by
        show _ = _
        have hkl : k < l.length := by rw [← HD.out.1]; exact hlt
        rw [List.take_succ_eq_append_getElem hkl, fnv_snoc]
        simp [List.getD, hkl]
      generalize fnv h (l.take k) = f at HS
      generalize l.getD k 0 = x at HS hck
      go_wp2
      go_round
      case rel => exact ⟨k + 1, by omega, by go_num, by rw [HS.out]; rfl⟩
      case measure => simp [intOf]; omega
    · have HT : Hid (l.take k = l) := List.take_of_length_le (by rw [← HD.out.1]; omega)
      go_wp2
      go_ret2
      have : k = n := by omega
      exact ⟨by rfl, by rw [HT.out]⟩

theorem new64_any (w : World) :
    Calls Try.prog 52 #[] w fun e w' => e = .returned (.iface 92 (.pointer (some ⟨w.heap.size, 0, none⟩))) ∧ w' = w.alloc (.cells #[.int .u64 fnv0] 91) := by
  go_enter Try.func52, Try.ntmps52
  go_wp2
  go_ret
  exact ⟨rfl, rfl⟩
end Go.Proofs.Qxb6612204a
