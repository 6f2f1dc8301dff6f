import Derived.Test.Qxb6609493aOpn
namespace Go.Proofs.Qxb6609493a
open Go.RowKit

set_option maxHeartbeats 4000000 in
set_option maxRecDepth 100000 in
/-- The law, where a slice is too long, or two are of different lengths. -/
theorem law_other {L : (Nat → Int) → List Value} (HL : IsL L) (sf : Nat → Int) (nA nK nS : Nat) (aA kA sA : Option Addr) (aC kC sC : Nat) (up : Bool) (w : World) (bA : nA ≤ 9223372036854775807) (bK : nK ≤ 9223372036854775807) (bS : nS ≤ 9223372036854775807) (hne : ¬ (nA ≤ 16384 ∧ nK = nA ∧ nS = nA)) :
    Calls Try.prog 6 #[.agg (L sf).toArray, .slice aA nA aC, .slice kA nK kC, .slice sA nS sC, .bool up] w fun e w' => e = .returned (.bool true) ∧ Below w.heap.size w w' := by
  have hA0 : (0 : Int) ≤ (nA : Int) := by omega
  have hK0 : (0 : Int) ≤ (nK : Int) := by omega
  have hS0 : (0 : Int) ≤ (nS : Int) := by omega
  have HNe : Hid (¬ (nA ≤ 16384 ∧ nK = nA ∧ nS = nA)) := hne
  clear hne
  go_enter Try.func6, Try.ntmps6
  go_wp2_with (first | ((with_reducible refine D_box 30 5 (L sf) ?_ ?_); (rfl); (intro p5 w5 g5 l5 m5 B5)) | ((with_reducible refine D_load 30 16 ta30 (L sf) (L_len HL _) p5 0 ?_ ?_ ?_); (rfl); (exact m5)))
  refine (zzb_any HL sf nA nK nS aA kA sA aC kC sC up _ (by omega) (by omega) (by omega)).mono ?_
  rintro e w6 ⟨b, rfl, B6⟩
  have B0 : Hid (Below w.heap.size w w6) := bl B5 B6
  clear m5 l5 B5 B6 g5
  cases b with
  | false =>
    go_wp2_with fail
    go_ret
    exact ⟨rfl, B0.out⟩
  | true =>
    by_cases h1 : (16384 : Int) < (nA : Int)
    · go_wp2_with fail
      go_ret
      exact ⟨rfl, B0.out⟩
    · by_cases h2 : (16384 : Int) < (nK : Int)
      · go_wp2_with fail
        go_ret
        exact ⟨rfl, B0.out⟩
      · by_cases h3 : (16384 : Int) < (nS : Int)
        · go_wp2_with fail
          go_ret
          exact ⟨rfl, B0.out⟩
        · by_cases h4 : (nK : Int) = (nA : Int)
          · have h5 : ¬ (nS : Int) = (nA : Int) := fun c => HNe.out ⟨by omega, by omega, by omega⟩
            have h4' : nK = nA := by omega
            have h5' : ¬ nS = nA := by omega
            go_wp2_with fail
            go_ret
            exact ⟨rfl, B0.out⟩
          · have h4' : ¬ nK = nA := by omega
            go_wp2_with fail
            go_ret
            exact ⟨rfl, B0.out⟩

theorem law_any {L : (Nat → Int) → List Value} (HL : IsL L) (sf : Nat → Int) (nA nK nS : Nat) (aA kA sA : Option Addr) (aC kC sC : Nat) (up : Bool) (ad : Nat → Nat → Int) (kn : Nat → Bool) (st : Nat → Int) (w : World) (bA : nA ≤ 9223372036854775807) (bK : nK ≤ 9223372036854775807) (bS : nS ≤ 9223372036854775807)
    (hsf : Ok sf) (hok : ∀ i, Ok (ad i)) (hst : ∀ i, 0 ≤ st i ∧ st i ≤ 255)
    (ha : 0 < nA → ∃ b o, aA = some ⟨b, o, none⟩ ∧ ∀ i, i < nA → w.rangeAt b (o + i * 20) (lst (ad i)))
    (hk : 0 < nK → ∃ b o, kA = some ⟨b, o, none⟩ ∧ ∀ i, i < nK → w.cell? ⟨b, o + i, none⟩ = some (.bool (kn i)))
    (hs : 0 < nS → ∃ b o, sA = some ⟨b, o, none⟩ ∧ ∀ i, i < nS → w.cell? ⟨b, o + i, none⟩ = some (.int .u8 (st i))) :
    Calls Try.prog 6 #[.agg (L sf).toArray, .slice aA nA aC, .slice kA nK kC, .slice sA nS sC, .bool up] w fun e w' => e = .returned (.bool true) ∧ Below w.heap.size w w' := by
  by_cases h : nA ≤ 16384 ∧ nK = nA ∧ nS = nA
  · obtain ⟨h1, h2, h3⟩ := h
    subst h2
    subst h3
    exact law_same HL sf nS aA kA sA aC kC sC up ad kn st w h1 ⟨ha, hk, hs⟩ hok hsf hst
  · exact law_other HL sf nA nK nS aA kA sA aC kC sC up w bA bK bS h
end Go.Proofs.Qxb6609493a
