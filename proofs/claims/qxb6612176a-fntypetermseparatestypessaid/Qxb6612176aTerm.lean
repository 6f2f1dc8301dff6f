import Derived.Test.Qxb6612176aRows
import Derived.WalkSpells
import Derived.WalkLawsBesides
import Derived.WalkKit
import Derived.ProofKit
import Derived.OpenShut
import Derived.ShutString
namespace Go.Proofs.Qxb6612176a.fnTypeTermSeparatesTypes
open Go.ChangeShapes Go.WideShapes Go.ChangeAt Go.RowKit
open Go.ChangeMaps (open_string shut_string)
set_option linter.unusedVariables false      -- a walk need not use every 'w<i>' (that an integer argument fits its kind)

theorem own : ownKnob Try.prog.godebug = none := by kernel_rfl

theorem bytes_any (a b : ByteArray) (ha : a.size ≤ maxLen) (hb : b.size ≤ maxLen) (w : World) :
    Calls Try.prog 5 #[.string a, .string b] w fun e w' => (∃ t : Bool, e = .returned (.bool t)) ∧ w' = w := by
  unfold maxLen at ha hb
  go_enter Try.func5, Try.ntmps5
  go_wp2
  all_goals (go_ret; exact ⟨⟨_, rfl⟩, rfl⟩)

theorem term_any (a : ByteArray) (w : World) :
    Calls Try.prog 13 #[.string a] w fun e w' => e = .returned (.agg #[.int .u8 3, .int .i32 0, .string a]) ∧ Below w.heap.size w w' := by
  go_enter Try.func13, Try.ntmps13
  go_wp2
  exact bodyPost_ret (v := .agg #[.int .u8 3, .int .i32 0, .string a]) (by simp [results, Try.results13, go_sem]) rfl ⟨rfl, (Below.refl _ _).alloc (Nat.le_refl _) _⟩

theorem zz_term (a : ByteArray) (w : World) :
    Calls Try.prog 6 #[.string a] w fun e w' => e = .returned (.agg #[.int .u8 3, .int .i32 0, .string a]) ∧ Below w.heap.size w w' := by
  go_enter Try.func6, Try.ntmps6
  go_wp2_with fail
  refine (term_any a _).mono ?_
  rintro e w1 ⟨rfl, hb1⟩
  have hblk : w1.heap[w.heap.size]? = some (.cells #[.int .u8 0, .int .i32 0, .string ⟨#[]⟩] 25) := by
    rw [hb1.block _ (by simp)]; exact (MapKept.heap_alloc w _).1
  have c0 : w1.cell? ⟨w.heap.size, 0, none⟩ = some (.int .u8 0) := by simp [World.cell?, hblk]
  have c1 : w1.cell? ⟨w.heap.size, 1, none⟩ = some (.int .i32 0) := by simp [World.cell?, hblk]
  have c2 : w1.cell? ⟨w.heap.size, 2, none⟩ = some (.string ⟨#[]⟩) := by simp [World.cell?, hblk]
  have f0 : w1.frozen? ⟨w.heap.size, 0, none⟩ = false := by simp [World.frozen?, hblk]
  have f1 : w1.frozen? ⟨w.heap.size, 1, none⟩ = false := by simp [World.frozen?, hblk]
  have f2 : w1.frozen? ⟨w.heap.size, 2, none⟩ = false := by simp [World.frozen?, hblk]
  have HE : Hid (Below w.heap.size w w1) := ((Below.refl _ _).alloc (Nat.le_refl _) _).trans (hb1.mono (by simp))
  clear hblk hb1
  go_wp2
  exact bodyPost_ret (v := .agg #[.int .u8 3, .int .i32 0, .string a]) (by simp [results, Try.results6, go_sem, c0, c1, c2]) rfl ⟨rfl, ((HE.out.setCell (Nat.le_refl _) _).setCell (Nat.le_refl _) _).setCell (Nat.le_refl _) _⟩

theorem walk_big (a0 : ByteArray) (a1 : ByteArray) (w0 : a0.size ≤ maxLen) (w1 : a1.size ≤ maxLen) (w : World) (h : 1048576 < a0.size ∨ (a0.size ≤ 1048576 ∧ 1048576 < a1.size) ∨ (a0.size ≤ 1048576 ∧ a1.size ≤ 1048576 ∧ 1048576 < a0.size + a1.size)) :
    Calls Try.prog 3 #[.string a0, .string a1] w fun e w' => e = .returned (.bool true) ∧ Below w.heap.size w w' := by
  rcases h with h | ⟨h, h'⟩ | ⟨h, h', h''⟩
  all_goals
    go_enter Try.func3, Try.ntmps3
    go_wp2_with fail
    refine (bytes_any a0 a1 w0 w1 w).mono ?_
    rintro e x ⟨⟨t, rfl⟩, rfl⟩
    unfold maxLen at w0 w1
    cases t
    · go_wp2_with fail
      go_ret
      exact ⟨rfl, Below.refl _ _⟩
    · go_wp2_with fail
      go_ret
      exact ⟨rfl, Below.refl _ _⟩

set_option maxHeartbeats 1000000 in
theorem walk_small (a0 : ByteArray) (a1 : ByteArray) (w : World) (h : a0.size + a1.size ≤ 1048576) (q : Bool) (hq : (a0.toList == a1.toList) = q) :
    Calls Try.prog 3 #[.string a0, .string a1] w fun e w' => e = .returned (.bool true) ∧ Below w.heap.size w w' := by
  have e0 : (a0.toList == a0.toList) = true := by simp
  have e1 : (a1.toList == a1.toList) = true := by simp
  have d0 : decide ((1048576 : Int) < (a0.size : Int)) = false := by simp; omega
  have d1 : decide ((1048576 : Int) < (a1.size : Int)) = false := by simp; omega
  go_enter Try.func3, Try.ntmps3
  go_wp2_with fail
  refine (bytes_any a0 a1 (by unfold maxLen; omega) (by unfold maxLen; omega) w).mono ?_
  rintro e x ⟨⟨t, rfl⟩, hx⟩
  subst hx
  cases t
  · go_wp2_with fail
    go_ret
    exact ⟨rfl, Below.refl _ _⟩
  · go_wp2_with fail
    clear d0 d1
    refine (zz_term a0 _).mono ?_
    rintro e x1 ⟨rfl, hb1⟩
    have HB1 : Hid (Below x.heap.size x x1) := hb1
    clear hb1
    go_wp2_with fail
    refine (zz_term a1 _).mono ?_
    rintro e x2 ⟨rfl, hb2⟩
    have hk : x2.heap[x1.heap.size]? = some (.cells #[.int .u8 3, .int .i32 0, .string a0] 25) := by
      rw [hb2.block _ (by simp)]; exact (MapKept.heap_alloc x1 _).1
    have hlt : x1.heap.size < x2.heap.size := (Array.getElem?_eq_some_iff.1 hk).1
    have c0 : x2.cell? ⟨x1.heap.size, 0, none⟩ = some (.int .u8 3) := by simp [World.cell?, hk]
    have c1 : x2.cell? ⟨x1.heap.size, 1, none⟩ = some (.int .i32 0) := by simp [World.cell?, hk]
    have c2 : x2.cell? ⟨x1.heap.size, 2, none⟩ = some (.string a0) := by simp [World.cell?, hk]
    have HB2 : Hid (Below x.heap.size x x2) := (HB1.out.alloc HB1.out.size _).trans (hb2.mono (by have := HB1.out.size; simp; omega))
    clear hb2 hk
    go_wp2_with fail
    all_goals
      go_ret
      exact ⟨rfl, HB2.out.alloc HB2.out.size _⟩

theorem walk (a0 : ByteArray) (a1 : ByteArray) (w0 : a0.size ≤ maxLen) (w1 : a1.size ≤ maxLen) (w : World) :
    Calls Try.prog 3 #[.string a0, .string a1] w fun e w' => e = .returned (.bool true) ∧ Below w.heap.size w w' := by
  by_cases h : a0.size + a1.size ≤ 1048576
  · exact walk_small a0 a1 w h _ rfl
  · exact walk_big a0 a1 w0 w1 w (by omega)

/-! ### THE ROW's STEP: WRITTEN OUT: LEAVE IT -/
set_option maxRecDepth 100000 in
theorem lifted (os : Os) (started : os.Started) (H : Type) (enc : TypeId × Value → H) :
    ReturnsInHanded {} Try.checked os 3 .any (Rows.fnTypeTermSeparatesTypesSpec.pre6 enc Try.prog Try.f3 Rows.fnTypeTermSeparatesTypesRow.domain false) (Rows.fnTypeTermSeparatesTypesSpec.post enc Try.prog Try.f3 false true false false) := by
  refine returnsInHanded_of_change (C := Try.checked) own started (by kernel_rfl) Try.func3
    (ChangeSpec.witness6 (enc := enc) (C := Try.checked) false ⟨#[], #[.string ByteArray.empty, .string ByteArray.empty], []⟩ 8 (by kernel_rfl) (by kernel_rfl) (by kernel_rfl) (by kernel_rfl)) ?_
  intro W base args ds gs before hval0 hW hcnd _
  have hval : ∀ (j : Nat) t v, Try.f3.params[j]? = some t → args[j]? = some v → Value.okWide Try.prog W .any base t v := hval0
  have hW' := hW
  obtain ⟨p, q, hA0, hV, rfl, hfz, hnd⟩ := hW
  have hA : DataW.TrodAll enc Try.prog W 0 (fun _ => true) true Try.f3.params.toList args.toList ds p := hA0
  rw [Try.params3] at hA hval
  obtain ⟨v0, vs0, d0, ds0, p0, q0, hargs, rfl, rfl, h0, r0⟩ := trodAll_cons hA
  obtain ⟨v1, vs1, d1, ds1, p1, q1, rfl, rfl, rfl, h1, r1⟩ := trodAll_cons r0
  obtain ⟨rfl, rfl, rfl⟩ := trodAll_nil r1
  obtain rfl : args = #[v0, v1] := by cases args; simp_all
  obtain ⟨rfl, rfl⟩ := trodVars_none hV
  obtain ⟨a0, rfl, rfl, rfl, w0⟩ := open_string Try.underlying9 (hval 0 9 v0 rfl rfl) h0
  obtain ⟨a1, rfl, rfl, rfl, w1⟩ := open_string Try.underlying9 (hval 1 9 v1 rfl rfl) h1
  clear hA0 hval0
  refine (walk a0 a1 w0 w1 W).mono fun e W' ⟨he, bel⟩ => ?_
  subst he
  exact ⟨_, rfl, _, _, _, [], _, [], hW', trodAll_mk1 (shut_bool Try.underlying4 _), (trodAll_cons_mk (shut_string Try.underlying9 w0) (trodAll_cons_mk (shut_string Try.underlying9 w1) trodAll_mk0)), rfl, bel.frame _, fun h => by cases h⟩

theorem over : Rows.fnTypeTermSeparatesTypesRow.holds Try.pinned (OpenSpec.ofChange Rows.fnTypeTermSeparatesTypesSpec) :=
  OpenClaim.holds_of_wide 3 Try.f3 rfl rfl rfl rfl rfl rfl rfl ⟨rfl, rfl, rfl, rfl, rfl⟩ rfl rfl rfl rfl rfl (by kernel_rfl) Try.func3 (by kernel_rfl)
    (of_decide_eq_true (by kernel_rfl)) (by unfold Func.isWrapper; first | (rw [if_pos (by decide +kernel)]; kernel_rfl) | (rw [if_neg (by decide +kernel)]; exact ⟨rfl, rfl⟩))
    (fun os started H enc _ => lifted os started H enc)

/-- ████ THE STATEMENT ████ -/
theorem proved : Rows.FnTypeTermSeparatesTypesSaid :=
  over
end Go.Proofs.Qxb6612176a.fnTypeTermSeparatesTypes

namespace Go.Proofs.Qxb6612176a
theorem typeTerm_proved : Rows.FnTypeTermSeparatesTypesSaid := fnTypeTermSeparatesTypes.proved
end Go.Proofs.Qxb6612176a
