import Derived.Test.Qxb6609493aOvSub
import Derived.Lib.BytesEntry
namespace Go.Proofs.Qxb6609493a
open Go.RowKit

/-- How two numbers lie. -/
def sg (x y : Int) : Int := if x < y then -1 else if y < x then 1 else 0
theorem sg_neg (x y : Int) : (sg x y < 0) ↔ x < y := by unfold sg; split <;> (try split) <;> omega

def suf (r : Nat → Int) (k : Nat) : List Int := (List.range' k (20 - k)).map r
theorem suf_step (r : Nat → Int) (k : Nat) (hk : k < 20) : suf r k = r k :: suf r (k + 1) := by
  unfold suf
  rw [show 20 - k = (20 - (k + 1)) + 1 by omega, List.range'_succ, List.map_cons]
theorem suf_end (r : Nat → Int) : suf r 20 = [] := rfl
theorem b8_lt {x y : Int} (hx : 0 ≤ x ∧ x ≤ 255) (hy : 0 ≤ y ∧ y ≤ 255) : x.toNat.toUInt8 < y.toNat.toUInt8 ↔ x < y := by
  have h1 := b8_nat hx.1 hx.2
  have h2 := b8_nat hy.1 hy.2
  unfold b8 at h1 h2
  rw [UInt8.lt_iff_toNat_lt]
  omega

theorem cmp_suf {a b : Nat → Int} (ha : Ok a) (hb : Ok b) : ∀ (n k : Nat), n + k = 20 → (∀ j, j < k → a j = b j) → Lib.compareBytes (Lib.bytesOf (suf a k)) (Lib.bytesOf (suf b k)) = sg (V a) (V b)
  | 0, k, hk, he => by
    obtain rfl : k = 20 := by omega
    rw [suf_end, suf_end]
    have := V_eq he
    simp [Lib.bytesOf, Lib.compareBytes, sg, this]
  | n + 1, k, hk, he => by
    rw [suf_step a k (by omega), suf_step b k (by omega)]
    simp only [Lib.bytesOf, List.map_cons, Lib.compareBytes]
    have ih := cmp_suf ha hb n (k + 1) (by omega)
    have l1 := b8_lt (ha k (by omega)) (hb k (by omega))
    have l2 := b8_lt (hb k (by omega)) (ha k (by omega))
    rcases (by omega : a k < b k ∨ a k = b k ∨ b k < a k) with h | h | h
    · have := V_lt ha hb k (by omega) he h
      rw [if_pos (l1.2 h)]; unfold sg; rw [if_pos this]
    · rw [if_neg (by rw [l1]; omega), if_neg (by rw [l2]; omega)]
      exact ih fun j hj => by
        by_cases e : j = k
        · subst e; exact h
        · exact he j (by omega)
    · have := V_lt hb ha k (by omega) (fun j hj => (he j hj).symm) h
      rw [if_neg (by rw [l1]; omega), if_pos (l2.2 h)]; unfold sg; rw [if_neg (by omega), if_pos this]

theorem run_load20 {L : (Nat → Int) → List Value} (HL : IsL L) (p : Nat) (r : Nat → Int) (w : World) (h : Mem w p 0 (L r)) : (Extern.Bytes.bytesOf (.slice (some ⟨p, 0, none⟩) 20 20)).run Try.prog w = .ok ⟨(Lib.bytesOf (suf r 0)).toArray⟩ w := by
  have hl := Lib.run_loadBytesX (P := Try.prog) w (suf r 0) ⟨p, 0, none⟩ .empty (fun j x hj => by
    have hlen : (suf r 0).length = 20 := by simp [suf]
    have hj' : j < 20 := by have := (List.getElem?_eq_some_iff.1 hj).1; omega
    have e : (⟨p, 0, none⟩ : Addr).add j = ⟨p, j, none⟩ := by unfold Addr.add; split <;> simp_all
    have : (suf r 0)[j]? = some (r j) := by
      unfold suf
      rw [List.getElem?_map, List.getElem?_range' (by omega)]; simp
    rw [this] at hj
    rw [e, L_at HL h j hj', ← Option.some.inj hj])
  have hlen : (suf r 0).length = 20 := by simp [suf]
  rw [hlen] at hl
  simp only [Extern.Bytes.bytesOf]
  rw [hl]
  simp

theorem bcmp_run {L : (Nat → Int) → List Value} (HL : IsL L) (p q : Nat) (a b : Nat → Int) (w : World) (ha : Ok a) (hb : Ok b) (m : Mem w p 0 (L a)) (n : Mem w q 0 (L b)) :
    (callFunc 36 #[.slice (some ⟨p, 0, none⟩) 20 20, .slice (some ⟨q, 0, none⟩) 20 20]).run Try.prog w = .ok (.value (.int .i64 (sg (V a) (V b)))) w := by
  rw [run_callFunc_extern Try.func36 (by kernel_rfl) (by kernel_rfl) (by kernel_rfl) (e := Extern.BytealgCompare.compare) (by kernel_rfl)]
  have : (Extern.BytealgCompare.compare #[.slice (some ⟨p, 0, none⟩) 20 20, .slice (some ⟨q, 0, none⟩) 20 20]).run Try.prog w = .ok (.int .i64 (sg (V a) (V b))) w := by
    change Sem.run Try.prog (do pure (goInt (Extern.BytealgCompare.cmp (← Extern.Bytes.bytesOf (.slice (some ⟨p, 0, none⟩) 20 20)) (← Extern.Bytes.bytesOf (.slice (some ⟨q, 0, none⟩) 20 20))))) w = _
    simp only [Sem.run_bind, Sem.run_pure, run_load20 HL p a w m, run_load20 HL q b w n, Result.andThen]
    rw [Lib.cmp_eq]
    have := cmp_suf ha hb 20 0 (by omega) (fun j hj => by omega)
    simp only at *
    rw [this]
    rfl
  rw [this]
  rfl

theorem bcmp_any {L : (Nat → Int) → List Value} (HL : IsL L) (p q : Nat) (a b : Nat → Int) (w : World) (ha : Hid (Ok a)) (hb : Hid (Ok b)) (m : Mem w p 0 (L a)) (n : Mem w q 0 (L b)) :
    Calls Try.prog 31 #[.slice (some ⟨p, 0, none⟩) 20 20, .slice (some ⟨q, 0, none⟩) 20 20] w fun e w' => e = .returned (.int .i64 (sg (V a) (V b))) ∧ w' = w := by
  have hr := bcmp_run HL p q a b w ha.out hb.out m n
  generalize sg (V a) (V b) = z at *
  clear m n
  go_enter Try.func31, Try.ntmps31
  go_wp2_with (simp only [hr])
  go_ret
  exact ⟨rfl, rfl⟩

set_option maxHeartbeats 1000000 in
/-- Address.Cmp. -/
theorem cmp_any {L : (Nat → Int) → List Value} (HL : IsL L) (a b : Nat → Int) (w : World) (ha : Hid (Ok a)) (hb : Hid (Ok b)) :
    Calls Try.prog 28 #[.agg (L a).toArray, .agg (L b).toArray] w fun e w' => e = .returned (.int .i64 (sg (V a) (V b))) ∧ Below w.heap.size w w' := by
  go_enter Try.func28, Try.ntmps28
  go_wp2_with (first | ((with_reducible refine D_box 51 2 (L a) ?_ ?_); (rfl); (intro p2 w2 g2 l2 m2 B2)) | ((with_reducible refine D_box 51 3 (L b) ?_ ?_); (rfl); (intro p3 w3 g3 l3 m3 B3)))
  have m2 := m2.below B3 l2
  have l2 := Nat.lt_of_lt_of_le l2 B3.size
  have BW := bl B2 B3
  clear B2 B3 g2 g3
  refine wp_region_held_drew (S := fun w' => Below w3.heap.size w3 w') (by kernel_rfl) (below_drew _ w3) (fun hHeld => ?_)
  refine H_take 0 5 (.slice (some ⟨p2, 0, none⟩) 20 20) rfl rfl (by kernel_rfl) (by kernel_rfl) (by kernel_rfl) (fun _ _ _ h => h) rfl ?_ hHeld ?_
  · intro _ _; go_simp
  try simp only [Act.put, List.setIfInBounds_toArray, List.set_cons_zero, List.set_cons_succ]
  refine H_take 1 6 (.slice (some ⟨p3, 0, none⟩) 20 20) rfl rfl (by kernel_rfl) (by kernel_rfl) (by kernel_rfl) (fun _ _ _ h => h) rfl ?_ hHeld ?_
  · intro _ _; go_simp
  try simp only [Act.put, List.setIfInBounds_toArray, List.set_cons_zero, List.set_cons_succ]
  refine wpAnyH_ready (rs := [2]) (by kernel_rfl) (by simp) ?_
  refine (AllReadyH.cons rfl (fun K hK => ?_) AllReadyH.nil)
  go_simp
  refine (bcmp_any HL p2 p3 a b _ ha hb (m2.below hHeld l2) (m3.below hHeld l3)).mono ?_
  rintro e v1 ⟨rfl, rfl⟩
  refine hK.out _ _ (hHeld) (fun hHeld => ?_)
  clear hK K
  try simp only [Act.put, List.setIfInBounds_toArray, List.set_cons_zero, List.set_cons_succ]
  refine H_assign 3 4 (.int .i64 (sg (V a) (V b))) rfl (by kernel_rfl) (by kernel_rfl) (by kernel_rfl) (fun _ _ _ h => h) rfl rfl hHeld ?_
  try simp only [Act.put, List.setIfInBounds_toArray, List.set_cons_zero, List.set_cons_succ]
  refine wpAnyH_done (by kernel_rfl) ?_ _
  go_wp2_with fail
  go_ret
  exact ⟨rfl, bl BW hHeld⟩
end Go.Proofs.Qxb6609493a
