import Derived.Test.Qxb6609493aProg
import Derived.WalkKit
import Derived.WalkSpells
import Derived.WalkLawsBesides
import Derived.OpenShut
namespace Go.Proofs.Qxb6609493a
open Go.RowKit

theorem count_any (B : Nat) (p q s : Int) (w : World) (c0 : w.cell? ⟨B, 0, none⟩ = some (.int .u64 p)) (c1 : w.cell? ⟨B, 1, none⟩ = some (.int .u64 q)) (f0 : w.frozen? ⟨B, 0, none⟩ = false) (f1 : w.frozen? ⟨B, 1, none⟩ = false) :
    Calls Try.prog 22 #[.pointer (some ⟨B, 0, none⟩), .int .i64 s] w fun e w' => e = .returned (.tuple #[]) ∧ w' = ((w.setCell ⟨B, 0, none⟩ (.int .u64 (IntKind.u64.wrap (p + 1)))).setCell ⟨B, 1, none⟩ (.int .u64 (IntKind.u64.wrap (q + IntKind.u64.wrap s)))) := by
  go_enter Try.func22, Try.ntmps22
  go_wp2
  go_end0
  exact ⟨rfl, rfl⟩

theorem zz_count (B : Nat) (p q s : Int) (w : World) (c0 : w.cell? ⟨B, 0, none⟩ = some (.int .u64 p)) (c1 : w.cell? ⟨B, 1, none⟩ = some (.int .u64 q)) (f0 : w.frozen? ⟨B, 0, none⟩ = false) (f1 : w.frozen? ⟨B, 1, none⟩ = false) :
    Calls Try.prog 8 #[.pointer (some ⟨B, 0, none⟩), .int .i64 s] w fun e w' => e = .returned (.tuple #[]) ∧ w' = ((w.setCell ⟨B, 0, none⟩ (.int .u64 (IntKind.u64.wrap (p + 1)))).setCell ⟨B, 1, none⟩ (.int .u64 (IntKind.u64.wrap (q + IntKind.u64.wrap s)))) := by
  go_enter Try.func8, Try.ntmps8
  go_wp2_with fail
  refine (count_any B p q s w c0 c1 f0 f1).mono ?_
  rintro e w1 ⟨rfl, rfl⟩
  go_wp2_with fail
  go_end0
  exact ⟨rfl, rfl⟩

/-- The counter in the block that was laid last. -/
theorem count_last (p q s : Int) (w : World) {n : Nat} (hn : n = w.heap.size) :
    Calls Try.prog 8 #[.pointer (some ⟨n, 0, none⟩), .int .i64 s] (w.alloc (.cells #[.int .u64 p, .int .u64 q] 26)) fun e w' => e = .returned (.tuple #[]) ∧ w' = w.alloc (.cells #[.int .u64 (IntKind.u64.wrap (p + 1)), .int .u64 (IntKind.u64.wrap (q + IntKind.u64.wrap s))] 26) := by
  subst hn
  refine (zz_count w.heap.size p q s _ (by simp) (by simp) (by simp) (by simp)).mono ?_
  rintro e w1 ⟨rfl, rfl⟩
  refine ⟨rfl, ?_⟩
  rw [World.setCell_alloc_at _ _ _ _ _ rfl, World.setCell_alloc_at _ _ _ _ _ rfl]
  rfl

/-! ### Numbers modulo 2^64, told without the numeral -/
def U (x : Int) : Int := IntKind.u64.wrap x
theorem U_eq (x : Int) : U x = x % 18446744073709551616 := by unfold U; simp [IntKind.wrap, IntKind.signed, IntKind.bits]
theorem U_step (a b : Int) : U (U a + b) = U (a + b) := by simp only [U_eq]; omega
theorem U_step2 (a b : Int) : U (U a + U b) = U (a + b) := by simp only [U_eq]; omega
theorem U_sub (a b : Int) : U (U a - U b) = U (a - b) := by simp only [U_eq]; omega
theorem U_of (a : Int) (h : (Lit.int .u64 a).wf = true) : U a = a := by
  have h' : 0 ≤ a ∧ a ≤ 18446744073709551615 := bounds_u64 h
  rw [U_eq]; omega

theorem U_zero : U 0 = 0 := by rw [U_eq]; rfl
theorem U_add (a b : Int) : U (a + U b) = U (a + b) := by simp only [U_eq]; omega
theorem back (p n : Int) (h : U p = p) : U (U (p + n) - U n) = p := by
  rw [U_sub, show p + n - n = p by omega]; exact h

/-- The sum of the first k. -/
def S (zs : List Int) (k : Nat) : Int := (zs.take k).sum
theorem S_zero (zs : List Int) : S zs 0 = 0 := rfl
theorem S_succ (zs : List Int) (k : Nat) (h : k < zs.length) : S zs (k + 1) = S zs k + zs.getD k 0 := by
  unfold S
  rw [List.take_succ_eq_append_getElem h, List.sum_append]
  simp [List.getD, h]

theorem bytes_any (p q : Int) (a : Option Addr) (n cap : Nat) (w : World) (hn : n ≤ maxLen) :
    Calls Try.prog 7 #[.int .u64 p, .int .u64 q, .slice a n cap] w fun e w' => (∃ t : Bool, e = .returned (.bool t)) ∧ w' = w := by
  unfold maxLen at hn
  go_enter Try.func7, Try.ntmps7
  go_wp2
  all_goals (go_ret; exact ⟨⟨_, rfl⟩, rfl⟩)

/-- Too many sizes. -/
theorem traf_long (p q : Int) (a : Option Addr) (n cap : Nat) (w : World) (hn : n ≤ maxLen) (h : 65536 < n) :
    Calls Try.prog 3 #[.int .u64 p, .int .u64 q, .slice a n cap] w fun e w' => e = .returned (.bool true) ∧ Below w.heap.size w w' := by
  go_enter Try.func3, Try.ntmps3
  go_wp2_with fail
  refine (bytes_any p q a n cap w hn).mono ?_
  rintro e w1 ⟨⟨t, rfl⟩, rfl⟩
  unfold maxLen at hn
  cases t
  · go_wp2_with fail
    go_ret
    exact ⟨rfl, Below.refl _ _⟩
  · go_wp2_with fail
    go_ret
    exact ⟨rfl, Below.refl _ _⟩

theorem fwd_step (w : World) (p q s z : Int) (k : Nat) : w.alloc (.cells #[.int .u64 (IntKind.u64.wrap (U (p + k) + 1)), .int .u64 (IntKind.u64.wrap (U (q + s) + IntKind.u64.wrap z))] 26) = w.alloc (.cells #[.int .u64 (U (p + ((k + 1 : Nat) : Int))), .int .u64 (U (q + (s + z)))] 26) := by
  have e1 : IntKind.u64.wrap (U (p + k) + 1) = U (p + ((k + 1 : Nat) : Int)) := by
    have := U_step (p + k) 1
    rw [show (p + ((k + 1 : Nat) : Int)) = p + k + 1 by omega]
    exact this
  have e2 : IntKind.u64.wrap (U (q + s) + IntKind.u64.wrap z) = U (q + (s + z)) := by
    have := U_step2 (q + s) z
    rw [show q + (s + z) = q + s + z by omega]
    exact this
  rw [e1, e2]

theorem zero_step (w : World) (s z : Int) (k : Nat) : w.alloc (.cells #[.int .u64 (IntKind.u64.wrap (U (k : Int) + 1)), .int .u64 (IntKind.u64.wrap (U s + IntKind.u64.wrap z))] 26) = w.alloc (.cells #[.int .u64 (U ((k + 1 : Nat) : Int)), .int .u64 (U (s + z))] 26) := by
  have := fwd_step w 0 0 s z k
  simp only [Int.zero_add] at this
  exact this

theorem bwd_step (w : World) (p q t s z : Int) (k m : Nat) : w.alloc (.cells #[.int .u64 (IntKind.u64.wrap (U (p + ((k : Int) - ((m + 1 : Nat) : Int))) + 1)), .int .u64 (IntKind.u64.wrap (U (q + (t - (s + z))) + IntKind.u64.wrap z))] 26) = w.alloc (.cells #[.int .u64 (U (p + ((k : Int) - (m : Int)))), .int .u64 (U (q + (t - s)))] 26) := by
  have e1 : IntKind.u64.wrap (U (p + ((k : Int) - ((m + 1 : Nat) : Int))) + 1) = U (p + ((k : Int) - (m : Int))) := by
    have := U_step (p + ((k : Int) - ((m + 1 : Nat) : Int))) 1
    rw [show p + ((k : Int) - (m : Int)) = p + ((k : Int) - ((m + 1 : Nat) : Int)) + 1 by omega]
    exact this
  have e2 : IntKind.u64.wrap (U (q + (t - (s + z))) + IntKind.u64.wrap z) = U (q + (t - s)) := by
    have := U_step2 (q + (t - (s + z))) z
    rw [show q + (t - s) = q + (t - (s + z)) + z by omega]
    exact this
  rw [e1, e2]

set_option maxHeartbeats 1000000 in
theorem traf_some (p q : Int) (b off n cap : Nat) (zs : List Int) (w : World) (hn : n ≤ 65536) (h1 : 0 < n) (hz : n ≤ zs.length) (hb : b < w.heap.size) (hc : ∀ j, j < zs.length → w.cell? ⟨b, off + j, none⟩ = some (.int .i64 (zs.getD j 0))) (hp : U p = p) (hq : U q = q) :
    Calls Try.prog 3 #[.int .u64 p, .int .u64 q, .slice (some ⟨b, off, none⟩) n cap] w fun e w' => e = .returned (.bool true) ∧ Below w.heap.size w w' := by
  have HP : Hid (U p = p ∧ U q = q) := ⟨hp, hq⟩
  clear hp hq
  have HC : Hid (∀ j, j < zs.length → w.cell? ⟨b, off + j, none⟩ = some (.int .i64 (zs.getD j 0))) := hc
  clear hc
  go_enter Try.func3, Try.ntmps3
  go_wp2_with fail
  refine (bytes_any p q _ n cap w (by unfold maxLen; omega)).mono ?_
  rintro e w1 ⟨⟨t, rfl⟩, hw1⟩
  subst hw1
  cases t
  · go_wp2_with fail
    go_ret
    exact ⟨rfl, Below.refl _ _⟩
  · go_wp2_with fail
    go_loopw [8] (fun i wr => ∃ k : Nat, k ≤ n ∧ i = .int .i64 k ∧ wr = w1.alloc (.cells #[.int .u64 (U (p + k)), .int .u64 (U (q + S zs k))] 26)) (fun i _ => n - (intOf i).toNat)
    case atStart => exact ⟨0, Nat.zero_le _, rfl, by simp [S_zero, HP.out.1, HP.out.2]⟩
    case round =>
      obtain ⟨k, hk, rfl, rfl⟩ := hrel
      by_cases hlt : k < n
      · have hcell := HC.out k (by omega)
        generalize hg : zs.getD k 0 = z at hcell
        have HS : Hid (S zs (k + 1) = S zs k + z) := by rw [← hg]; exact S_succ zs k (by omega)
        clear hg
        go_wp2_with fail
        refine (count_last _ _ z _ rfl).mono ?_
        rintro e w2 ⟨rfl, rfl⟩
        go_wp2_with fail
        go_roundw
        case rel => exact ⟨k + 1, by omega, by go_num, by rw [HS.out]; exact fwd_step _ _ _ _ _ _⟩
        case measure => simp [intOf]; omega
      · have hkn : k = n := by omega
        subst hkn
        go_wp2_with fail
        go_loopw [10] (fun i wr => ∃ j : Nat, j ≤ k ∧ i = .int .i64 ((j : Int) - 1) ∧ wr = (w1.alloc (.cells #[.int .u64 (U (p + k)), .int .u64 (U (q + S zs k))] 26)).alloc (.cells #[.int .u64 (U (p + ((k : Int) - j))), .int .u64 (U (q + (S zs k - S zs j)))] 26)) (fun i _ => (intOf i + 1).toNat)
        case atStart => exact ⟨k, Nat.le_refl _, rfl, by simp [HP.out.1, HP.out.2]⟩
        case round =>
          obtain ⟨j, hj, rfl, rfl⟩ := hrel
          cases j with
          | succ m =>
            rw [show (((m + 1 : Nat) : Int) - 1) = (m : Int) by omega]
            have hcell := HC.out m (by omega)
            generalize hg : zs.getD m 0 = z at hcell
            have HS : Hid (S zs (m + 1) = S zs m + z) := by rw [← hg]; exact S_succ zs m (by omega)
            clear hg
            have hbb : b < w1.heap.size + 1 := by omega
            go_wp2_with fail
            refine (count_last _ _ z _ (by simp)).mono ?_
            rintro e w2 ⟨rfl, rfl⟩
            go_wp2_with fail
            go_roundw
            case rel => exact ⟨m, by omega, by go_num, by rw [HS.out]; exact bwd_step _ _ _ _ _ _ _ _⟩
            case measure => simp [intOf]
          | zero =>
            rw [show (((0 : Nat) : Int) - 1) = (-1 : Int) by omega]
            go_wp2_with fail
            go_loopw [12] (fun i wr => ∃ j : Nat, j ≤ k ∧ i = .int .i64 (j : Int) ∧ wr = ((w1.alloc (.cells #[.int .u64 (U (p + k)), .int .u64 (U (q + S zs k))] 26)).alloc (.cells #[.int .u64 (U (p + k)), .int .u64 (U (q + S zs k))] 26)).alloc (.cells #[.int .u64 (U (j : Int)), .int .u64 (U (S zs j))] 26)) (fun i _ => k - (intOf i).toNat)
            case atStart => exact ⟨0, Nat.zero_le _, rfl, by simp [S_zero, U_zero]⟩
            case round =>
              obtain ⟨j, hj, rfl, rfl⟩ := hrel
              by_cases hlt : j < k
              · have hcell := HC.out j (by omega)
                generalize hg : zs.getD j 0 = z at hcell
                have HS : Hid (S zs (j + 1) = S zs j + z) := by rw [← hg]; exact S_succ zs j (by omega)
                clear hg
                have hbb : b < w1.heap.size + 1 := by omega
                have hbb' : b < w1.heap.size + 1 + 1 := by omega
                go_wp2_with fail
                refine (count_last _ _ z _ (by simp)).mono ?_
                rintro e w2 ⟨rfl, rfl⟩
                go_wp2_with fail
                go_roundw
                case rel => exact ⟨j + 1, by omega, by go_num, by rw [HS.out]; exact zero_step _ _ _ _⟩
                case measure => simp [intOf]; omega
              · have hjk : j = k := by omega
                subst hjk
                have t1 : (U (p + j) == IntKind.u64.wrap (p + j)) = true := beq_iff_eq.2 rfl
                have t2 : (IntKind.u64.wrap (U (p + j) - U j) == p) = true := beq_iff_eq.2 (back p j HP.out.1)
                have t3 : (IntKind.u64.wrap (U (q + S zs j) - U (S zs j)) == q) = true := beq_iff_eq.2 (back q (S zs j) HP.out.2)
                go_wp2_with fail
                go_ret
                exact ⟨rfl, (((Below.refl _ _).alloc (Nat.le_refl _) _).alloc (by simp) _).alloc (by simp; omega) _⟩

set_option maxHeartbeats 1000000 in
theorem traf_none (p q : Int) (a : Option Addr) (cap : Nat) (w : World) (hp : U p = p) (hq : U q = q) :
    Calls Try.prog 3 #[.int .u64 p, .int .u64 q, .slice a 0 cap] w fun e w' => e = .returned (.bool true) ∧ Below w.heap.size w w' := by
  have t1 : (p == IntKind.u64.wrap p) = true := beq_iff_eq.2 hp.symm
  have t2 : (IntKind.u64.wrap p == p) = true := beq_iff_eq.2 hp
  have t3 : (IntKind.u64.wrap q == q) = true := beq_iff_eq.2 hq
  clear hp hq
  go_enter Try.func3, Try.ntmps3
  go_wp2_with fail
  refine (bytes_any p q _ 0 cap w (Nat.zero_le _)).mono ?_
  rintro e w1 ⟨⟨t, rfl⟩, hw1⟩
  subst hw1
  cases t
  · go_wp2_with fail
    go_ret
    exact ⟨rfl, Below.refl _ _⟩
  · go_wp2_with fail
    refine wp_loop_rounds 1 ?_
    rw [rounds_succ]
    go_wp2_with fail
    refine wp_loop_rounds 1 ?_
    rw [rounds_succ]
    go_wp2_with fail
    refine wp_loop_rounds 1 ?_
    rw [rounds_succ]
    go_wp2_with fail
    go_ret
    exact ⟨rfl, (((Below.refl _ _).alloc (Nat.le_refl _) _).alloc (by simp) _).alloc (by simp; omega) _⟩
end Go.Proofs.Qxb6609493a
