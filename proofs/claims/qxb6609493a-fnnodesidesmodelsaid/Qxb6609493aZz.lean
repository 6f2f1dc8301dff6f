import Derived.Test.Qxb6609493aSide
namespace Go.Proofs.Qxb6609493a
open Go.RowKit

set_option maxHeartbeats 4000000 in
set_option maxRecDepth 100000 in
theorem zzb_any {L : (Nat → Int) → List Value} (_HL : IsL L) (sf : Nat → Int) (nA nK nS : Nat) (aA kA sA : Option Addr) (aC kC sC : Nat) (up : Bool) (w : World) (bA : nA ≤ 9223372036854775807) (bK : nK ≤ 9223372036854775807) (bS : nS ≤ 9223372036854775807) :
    Calls Try.prog 17 #[.agg (L sf).toArray, .slice aA nA aC, .slice kA nK kC, .slice sA nS sC, .bool up] w fun e w' => ∃ b, e = .returned (.bool b) ∧ Below w.heap.size w w' := by
  have hA0 : (0 : Int) ≤ (nA : Int) := by omega
  have hK0 : (0 : Int) ≤ (nK : Int) := by omega
  have hS0 : (0 : Int) ≤ (nS : Int) := by omega
  by_cases hA : nA ≤ 1048576
  · have hA1 : (nA : Int) ≤ 1048576 := by omega
    have hA2 : ¬ (1048576 : Int) < (nA : Int) := by omega
    go_enter Try.func17, Try.ntmps17
    go_wp2_with ((with_reducible refine D_box 30 5 (L sf) ?_ ?_); (rfl); (intro p5 w5 g5 l5 m5 B5))
    clear m5 g5 l5
    go_loopw [11, 12] (fun z i wr => ∃ k : Nat, k ≤ nA ∧ i = .int .i64 k ∧ z = .int .i64 ((nA : Int) + 20 * k) ∧ (nA : Int) + 20 * k ≤ 1048576 ∧ wr = w5) (fun _ i _ => nA - (intOf i).toNat)
    case atStart => exact ⟨0, by omega, rfl, by simp, by omega, rfl⟩
    case round =>
      obtain ⟨k, hk, rfl, rfl, hb, rfl⟩ := hrel
      by_cases hkn : k < nA
      · have hI1 : (k : Int) < (nA : Int) := by omega
        obtain ⟨z, hz⟩ : ∃ z : Int, z = (nA : Int) + 20 * k := ⟨_, rfl⟩
        rw [← hz] at hb ⊢
        have hz0 : 0 ≤ z := by omega
        have HZ : Hid (z = (nA : Int) + 20 * k) := hz
        clear hz
        by_cases hc : z + 20 ≤ 1048576
        · have hc2 : ¬ (1048576 : Int) < z + 20 := by omega
          go_wp2_with fail
          go_roundw
          case rel => exact ⟨k + 1, by omega, by go_num, by have := HZ.out; congr 1; omega, by have := HZ.out; omega, trivial⟩
          case measure => simp [intOf]; omega
        · have hc2 : (1048576 : Int) < z + 20 := by omega
          go_wp2_with fail
          go_ret
          first | exact ⟨.inl rfl, B5⟩ | exact ⟨.inr rfl, B5⟩ | exact ⟨_, rfl, B5⟩
      · have hkk : nA = k := by omega
        subst hkk
        obtain ⟨z, hz⟩ : ∃ z : Int, z = (nA : Int) + 20 * nA := ⟨_, rfl⟩
        rw [← hz] at hb ⊢
        have hz0 : 0 ≤ z := by omega
        clear hz
        by_cases hK : nK ≤ 1048576
        · have hK1 : (nK : Int) ≤ 1048576 := by omega
          have hK2 : ¬ (1048576 : Int) < (nK : Int) := by omega
          by_cases hc : z + nK ≤ 1048576
          · have hc2 : ¬ (1048576 : Int) < z + nK := by omega
            by_cases hS : nS ≤ 1048576
            · have hS1 : (nS : Int) ≤ 1048576 := by omega
              have hS2 : ¬ (1048576 : Int) < (nS : Int) := by omega
              by_cases hd : z + nK + nS ≤ 1048576
              · have hd2 : ¬ (1048576 : Int) < z + nK + nS := by omega
                go_wp2_with fail
                go_ret
                first | exact ⟨.inl rfl, B5⟩ | exact ⟨.inr rfl, B5⟩ | exact ⟨_, rfl, B5⟩
              · have hd2 : (1048576 : Int) < z + nK + nS := by omega
                go_wp2_with fail
                go_ret
                first | exact ⟨.inl rfl, B5⟩ | exact ⟨.inr rfl, B5⟩ | exact ⟨_, rfl, B5⟩
            · have hS2 : (1048576 : Int) < (nS : Int) := by omega
              go_wp2_with fail
              go_ret
              first | exact ⟨.inl rfl, B5⟩ | exact ⟨.inr rfl, B5⟩ | exact ⟨_, rfl, B5⟩
          · have hc2 : (1048576 : Int) < z + nK := by omega
            go_wp2_with fail
            go_ret
            first | exact ⟨.inl rfl, B5⟩ | exact ⟨.inr rfl, B5⟩ | exact ⟨_, rfl, B5⟩
        · have hK2 : (1048576 : Int) < (nK : Int) := by omega
          go_wp2_with fail
          go_ret
          first | exact ⟨.inl rfl, B5⟩ | exact ⟨.inr rfl, B5⟩ | exact ⟨_, rfl, B5⟩
  · have hA2 : (1048576 : Int) < (nA : Int) := by omega
    go_enter Try.func17, Try.ntmps17
    go_wp2_with ((with_reducible refine D_box 30 5 (L sf) ?_ ?_); (rfl); (intro p5 w5 g5 l5 m5 B5))
    go_ret
    first | exact ⟨.inl rfl, B5⟩ | exact ⟨.inr rfl, B5⟩ | exact ⟨_, rfl, B5⟩
end Go.Proofs.Qxb6609493a
