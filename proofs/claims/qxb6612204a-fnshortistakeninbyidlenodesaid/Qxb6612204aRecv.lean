import Derived.Test.Qxb6612204aMerge
import Derived.Deep.RegionWith
namespace Go.Proofs.Qxb6612204a
open Go.RowKit

theorem recv_no (B : Nat) (a : Value) (w : World) (hc : w.cell? ⟨B, 3, none⟩ = some (.int .i64 2)) :
    Calls Try.prog 26 #[.pointer (some ⟨B, 0, none⟩), a] w fun e w' => e = .returned (.bool false) ∧ w' = w := by
  go_enter Try.func26, Try.ntmps26
  go_wp2
  go_ret
  exact ⟨rfl, rfl⟩

/-- What a state becomes that takes a record in. -/
def takeIn (s : St) (r : Nat → Int) : St := { s with holds := 1, rg := addF (maxF s.rg r) s.node.data.toList }

theorem recv_yes {L : (Nat → Int) → List Value} (HL : IsL L) (B b : Nat) (s : St) (r : Nat → Int) (w : World) (hne : B ≠ b) (hs : Hid (StateAt w B s)) (hr : Hid (Regs w b 0 r)) (hh : (s.holds == 2) = false) (hn : s.node.size ≤ 1048576) :
    Calls Try.prog 26 #[.pointer (some ⟨B, 0, none⟩), .pointer (some ⟨b, 0, none⟩)] w fun e w' => e = .returned (.bool true) ∧ StateAt w' B (takeIn s r) ∧ Only B 3 1025 w w' := by
  obtain ⟨h, hhh⟩ : ∃ h, h = s.holds := ⟨_, rfl⟩
  have hc3 : w.cell? ⟨B, 3, none⟩ = some (.int .i64 h) := by rw [hhh]; exact hs.out.holds
  rw [← hhh] at hh
  have hf3 : w.frozen? ⟨B, 3, none⟩ = false := hs.out.tb.fr 3
  clear hhh
  go_enter Try.func26, Try.ntmps26
  go_wp2_with fail
  have h1 := hs.out.set_holds 1
  have k1 : Only B 3 1025 w (w.setCell ⟨B, 3, none⟩ (.int .i64 1)) := Only.setCell 3 _ (by omega) (by omega)
  refine (merge_any HL B 4 b 0 s.rg r _ h1.rg (hr.out.only hr.out.lt k1 (.inl (Ne.symm hne)))).mono ?_
  rintro e w1 ⟨rfl, hr1, ho1⟩
  have h2 := h1.rg_only ho1 hr1
  have k2 := k1.trans (ho1.mono (o' := 3) (n' := 1025) (by omega) (by omega))
  have K2 : Hid (Only B 3 1025 w w1) := k2
  have H2 : Hid (StateAt w1 B { s with holds := 1, rg := maxF s.rg r }) := h2
  have c0 : w1.cell? ⟨B, 0, none⟩ = some (.string s.node) := h2.node
  clear h1 h2 k1 k2 hr1 ho1 hc3 hf3 hh
  go_wp2_with fail
  go_region_with (go_at_call 38; refine (add_any B 4 s.node (maxF s.rg r) _ hn ?_).mono ?_; exact H2.out.rg; rintro e w2 ⟨rfl, hr2, ho2⟩)
  have K3 : Hid (StateAt w1.drew B { s with holds := 1, rg := maxF s.rg r }) := H2.out.below ((Below.refl _ _).drew)
  have K4 : Hid (Only B 3 1025 w w1.drew) := K2.out.trans ((Only.of_below (b := B) 3 1025 ((Below.refl _ _).drew) H2.out.lt))
  go_wp2
  go_ret
  exact ⟨rfl, K3.out.rg_only ho2 hr2, K4.out.trans (ho2.mono (by omega) (by omega))⟩
end Go.Proofs.Qxb6612204a
