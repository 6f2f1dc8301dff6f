import Derived.Test.Qxb6612204aAdd
namespace Go.Proofs.Qxb6612204a
open Go.RowKit

theorem Regs.below {w w' : World} {b o : Nat} {r : Nat → Int} (h : Regs w b o r) (k : Below w.heap.size w w') : Regs w' b o r :=
  h.only h.lt (Only.of_below (b := b) 0 0 k h.lt) (by omega)

/-- The core, over plain numbers. -/
theorem add_core (b o : Nat) (s : ByteArray) (r : Nat → Int) (w : World) (h z : Int) (i : Nat) (_h0 : 0 ≤ h) (_h1 : h ≤ 18446744073709551615) (z0 : 0 ≤ z) (z1 : z ≤ 64) (hL : i < 1024) (hI : h / 18014398509481984 = (i : Int))
    (H48 : Hid (∀ w : World, Calls Try.prog 48 #[.string s] w fun e w' => e = .returned (.int .u64 h) ∧ Below w.heap.size w w'))
    (H49 : Hid (∀ w : World, Calls Try.prog 49 #[.int .u64 (bits BinOp.or IntKind.u64 (IntKind.u64.wrap (h * 1024)) 512)] w fun e w' => e = .returned (.int .i64 z) ∧ w' = w))
    (HR : Hid (Regs w b o r)) :
    Calls Try.prog 38 #[.pointer (some ⟨b, o, none⟩), .string s] w fun e w' => e = .returned (.tuple #[]) ∧ Regs w' b o (fun j => if j = i ∧ r j < z + 1 then z + 1 else r j) ∧ Only b o 1024 w w' := by
  go_enter Try.func38, Try.ntmps38
  go_wp2_with fail
  refine (H48.out _).mono ?_
  rintro e x ⟨rfl, hx⟩
  have HX : Hid (Regs x b o r) := HR.out.below hx
  have HO : Hid (Only b o 1024 w x) := Only.of_below _ _ hx HR.out.lt
  clear hx
  obtain ⟨hc0, hf0⟩ := HX.out i hL
  obtain ⟨v, hv⟩ : ∃ v, v = r i := ⟨_, rfl⟩
  rw [← hv] at hc0
  have HV : Hid (v = r i) := hv
  clear hv
  go_wp2_with fail
  refine (H49.out _).mono ?_
  rintro e y ⟨rfl, hy⟩
  subst hy
  by_cases hlt : v < z + 1
  · go_wp2_with fail
    go_end0
    exact ⟨rfl, add_yes HX.out hL (by rw [← HV.out]; exact hlt), HO.out.trans (Only.setCell _ _ (by omega) (by omega))⟩
  · go_wp2_with fail
    go_end0
    exact ⟨rfl, add_no HX.out (by rw [← HV.out]; omega), HO.out⟩

theorem add_any (b o : Nat) (s : ByteArray) (r : Nat → Int) (w : World) (hs : s.size ≤ 1048576) (hr : Regs w b o r) :
    Calls Try.prog 38 #[.pointer (some ⟨b, o, none⟩), .string s] w fun e w' => e = .returned (.tuple #[]) ∧ Regs w' b o (addF r s.data.toList) ∧ Only b o 1024 w w' :=
  add_core b o s r w (hashF s.data.toList) (lzF s.data.toList) (idxF s.data.toList) (is64_hash _).1 (is64_hash _).2 (lzF_bd _).1 (lzF_bd _).2 (idxF_lt _) (idxF_eq _) (fun w => hashID_any s w hs) (fun w => Try.bits_LeadingZeros64 (keyF (hashF s.data.toList)) w (is64_key _).1 (is64_key _).2) hr
end Go.Proofs.Qxb6612204a
