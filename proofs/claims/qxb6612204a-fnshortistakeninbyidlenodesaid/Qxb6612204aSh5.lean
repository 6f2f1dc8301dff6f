import Derived.Test.Qxb6612204aSh4
import Derived.Test.Qxb6612204aLow1
namespace Go.Proofs.Qxb6612204a
open Go.RowKit

/-- What becomes of at most one rank when the node's own joins it: on both roads. -/
structure LowFacts (f0 f1 n own X0 Y0 N0 X Y N : Int) : Prop where
  hm : ∀ (b o b' o' : Nat) (w : World), RkAt w b o 0 0 0 → RkAt w b' o' f0 f1 n → Calls Try.prog 50 #[.pointer (some ⟨b, o, none⟩), .pointer (some ⟨b', o', none⟩)] w fun r w' => r = .returned (.tuple #[]) ∧ RkAt w' b o X0 Y0 N0 ∧ Only b o 3 w w'
  ha : ∀ (b o : Nat) (w : World), RkAt w b o X0 Y0 N0 → Calls Try.prog 41 #[.pointer (some ⟨b, o, none⟩), .int .u64 own] w fun r w' => r = .returned (.tuple #[]) ∧ RkAt w' b o X Y N ∧ Only b o 3 w w'
  ho : ∀ (b o : Nat) (w : World), RkAt w b o X Y N → Calls Try.prog 42 #[.pointer (some ⟨b, o, none⟩), .int .u64 own] w fun r w' => r = .returned (.bool true) ∧ Below w.heap.size w w'
  hl : ∀ (w : World), Calls Try.prog 22 #[.agg #[.int .u64 f0, .int .u64 f1], .int .i64 n, .int .u64 own] w fun e w' => e = .returned (.tuple #[.agg #[.int .u64 X, .int .u64 Y], .int .i64 N]) ∧ Below w.heap.size w w'

theorem lowFacts (f0 f1 n own : Int) (h0 : 0 ≤ n) (h2 : n < 2) : ∃ X0 Y0 N0 X Y N, LowFacts f0 f1 n own X0 Y0 N0 X Y N := by
  by_cases hn : n = 0
  · subst hn
    exact ⟨0, 0, 0, own, 0, 1, fun b o b' o' w h h' => rkMerge0 b o b' o' f0 f1 w h h', fun b o w h => rkAdd0 b o own w h, fun b o w h => rkHolds1_yes b o own 0 w h, fun w => low0 f0 f1 own w⟩
  · obtain rfl : n = 1 := by omega
    rcases Int.lt_trichotomy f0 own with h | h | h
    · exact ⟨f0, 0, 1, f0, own, 2, fun b o b' o' w k k' => rkMerge1 b o b' o' f0 f1 w k k', fun b o w k => rkAdd1_above b o f0 0 own w k h, fun b o w k => rkHolds2_y b o f0 own w k (by simp; omega), fun w => low1_above f0 f1 own w h⟩
    · subst h
      exact ⟨f0, 0, 1, f0, 0, 1, fun b o b' o' w k k' => rkMerge1 b o b' o' f0 f1 w k k', fun b o w k => rkAdd1_same b o f0 0 w k, fun b o w k => rkHolds1_yes b o f0 0 w k, fun w => low1_same f0 f1 w⟩
    · exact ⟨f0, 0, 1, own, f0, 2, fun b o b' o' w k k' => rkMerge1 b o b' o' f0 f1 w k k', fun b o w k => rkAdd1_below b o f0 0 own w k h, fun b o w k => rkHolds2_x b o own f0 w k, fun w => low1_below f0 f1 own w h⟩

theorem maxF_zero {r : Nat → Int} (h : ∀ i, i < 1024 → 0 ≤ r i) : ∀ i, i < 1024 → maxF (fun _ => 0) r i = r i := by
  intro i hi
  have := h i hi
  simp only [maxF]
  split <;> omega
theorem addF_congr {r s : Nat → Int} (l : List UInt8) (h : ∀ i, i < 1024 → r i = s i) : ∀ i, i < 1024 → addF r l i = addF s l i := by
  intro i hi
  unfold addF
  rw [h i hi]

theorem holdsT_yes (B : Nat) (w : World) (hc : w.cell? ⟨B, 3, none⟩ = some (.int .i64 2)) :
    Calls Try.prog 17 #[.pointer (some ⟨B, 0, none⟩)] w fun e w' => e = .returned (.bool true) ∧ w' = w := holdsTomb_any B 2 w hc
theorem holdsT_no (B : Nat) (w : World) (hc : w.cell? ⟨B, 3, none⟩ = some (.int .i64 0)) :
    Calls Try.prog 17 #[.pointer (some ⟨B, 0, none⟩)] w fun e w' => e = .returned (.bool false) ∧ w' = w := holdsTomb_any B 0 w hc
end Go.Proofs.Qxb6612204a
