import Derived.Test.Qxb6612204aShort
import Derived.Test.Qxb6612204aOpenW
namespace Go.Proofs.Qxb6612204a.ShortRow
open Go.ChangeShapes Go.WideShapes Go.ChangeAt Go.RowKit
open Go.ChangeMaps (open_string shut_string)

def wit : Array Value := #[.agg (lst fun _ => 0).toArray, .agg (lst fun _ => 0).toArray, .agg #[.int .u64 0, .int .u64 0], .int .i64 0, .int .u64 0, .string ByteArray.empty, .string ByteArray.empty]
theorem wit_ok (w : World) (base : Nat) : ∀ (j : Nat) t v, Try.f3.params[j]? = some t → wit[j]? = some v → Value.okWide Try.prog w .any base t v := by
  intro j t v ht hv
  rw [Try.params3] at ht
  match j, ht, hv with
  | 0, ht, hv => obtain rfl := Option.some.inj ht; obtain rfl := Option.some.inj hv; exact ok22 _ _
  | 1, ht, hv => obtain rfl := Option.some.inj ht; obtain rfl := Option.some.inj hv; exact ok22 _ _
  | 2, ht, hv => obtain rfl := Option.some.inj ht; obtain rfl := Option.some.inj hv; exact Value.okWide_of_okWideB (by kernel_rfl)
  | 3, ht, hv => obtain rfl := Option.some.inj ht; obtain rfl := Option.some.inj hv; exact Value.okWide_of_okWideB (by kernel_rfl)
  | 4, ht, hv => obtain rfl := Option.some.inj ht; obtain rfl := Option.some.inj hv; exact Value.okWide_of_okWideB (by kernel_rfl)
  | 5, ht, hv => obtain rfl := Option.some.inj ht; obtain rfl := Option.some.inj hv; exact Value.okWide_of_okWideB (by kernel_rfl)
  | 6, ht, hv => obtain rfl := Option.some.inj ht; obtain rfl := Option.some.inj hv; exact Value.okWide_of_okWideB (by kernel_rfl)
  | j + 7, ht, _ => simp at ht
theorem wit_trod {H : Type} (enc : TypeId × Value → H) (W : World) : DataW.TrodAll enc Try.prog W 0 (fun _ => true) true Try.f3.params.toList wit.toList [.agg ((List.range 1024).map fun _ => .lit (.int .u8 0)), .agg ((List.range 1024).map fun _ => .lit (.int .u8 0)), .agg [.lit (.int .u64 0), .lit (.int .u64 0)], .lit (.int .i64 0), .lit (.int .u64 0), .lit (.string []), .lit (.string [])] [] := by
  rw [Try.params3]
  exact (trodAll_cons_mk (trod22 enc W) (trodAll_cons_mk (trod22 enc W) (trodAll_cons_mk (trod24 enc W) (trodAll_cons_mk (trod3 enc W) (trodAll_cons_mk (trod23 enc W) (trodAll_cons_mk (trod9 enc W) (trodAll_cons_mk (trod9 enc W) trodAll_mk0)))))))
theorem wit_whole {H : Type} (enc : TypeId × Value → H) (W : World) : DataW.Whole enc Try.prog Try.f3.params.toList [] false W wit.toList [.agg ((List.range 1024).map fun _ => .lit (.int .u8 0)), .agg ((List.range 1024).map fun _ => .lit (.int .u8 0)), .agg [.lit (.int .u64 0), .lit (.int .u64 0)], .lit (.int .i64 0), .lit (.int .u64 0), .lit (.string []), .lit (.string [])] [] [] :=
  ⟨[], [], wit_trod enc W, rfl, rfl, fun _ _ h => (by cases h), fun h => (by cases h)⟩
set_option maxRecDepth 100000 in
theorem witness (os : Os) (H : Type) (enc : TypeId × Value → H) : ∃ (w : World) (tape : Tape) (i : Input), w.os = os ∧ (w.forCall tape i).Shaped Try.checked.prog ∧ i.vars = [] ∧ Input.okWide Try.checked.prog (w.forCall tape i) .any w.heap.size 3 i ∧
      Rows.fnShortIsTakenInByIdleNodeSpec.pre6 enc Try.checked.prog Try.f3 Rows.fnShortIsTakenInByIdleNodeRow.domain false (w.forCall tape i).memory i.args ∧ ({ modest := false } : Assume).holds Try.checked.prog (lone (Frame.enter Try.checked.prog 3 i.args .normal) [] (w.forCall tape i)) := by
  refine ⟨World.holding Try.checked.prog os ⟨#[], wit, []⟩, fun _ _ => 0, ⟨#[], wit, []⟩, rfl, World.shaped_of_B (by kernel_rfl) (by kernel_rfl), rfl, ?_, ⟨⟨_, _, _, wit_whole enc _, rfl⟩, ?_, _, _, _, wit_whole enc _, ?_⟩, ?_⟩
  · exact ⟨fun o h => (by simp at h), fun o h => (by cases h), by kernel_rfl, Try.f3, Try.func3, by kernel_rfl, by kernel_rfl, by kernel_rfl, by kernel_rfl, wit_ok _ _⟩
  · kernel_rfl
  · show (DataW.weightsEach Try.prog (Try.f3.params.toList ++ []) _).all _ = true
    rw [Try.params3]
    simp [DataW.weightsEach, weights22', weights24', weightsI, weightsS]
  · simp only [Assume.holds]
    exact ⟨by simp, by simp, fun _ => Modest.zero, by simp, by simp⟩

set_option maxRecDepth 100000 in
theorem lifted (os : Os) (started : os.Started) (H : Type) (enc : TypeId × Value → H) :
    ReturnsInHanded {} Try.checked os 3 .any (Rows.fnShortIsTakenInByIdleNodeSpec.pre6 enc Try.prog Try.f3 Rows.fnShortIsTakenInByIdleNodeRow.domain false) (Rows.fnShortIsTakenInByIdleNodeSpec.post enc Try.prog Try.f3 false true false false) := by
  refine returnsInHanded_of_change (C := Try.checked) own started (by kernel_rfl) Try.func3
    (witness os H enc) ?_
  obtain ⟨L, HL⟩ := some_L
  intro W base args ds gs before hval0 hW hcnd _
  have hval : ∀ (j : Nat) t v, Try.f3.params[j]? = some t → args[j]? = some v → Value.okWide Try.prog W .any base t v := hval0
  have hW' := hW
  obtain ⟨p, q, hA0, hV, rfl, hfz, hnd⟩ := hW
  have hA : DataW.TrodAll enc Try.prog W 0 (fun _ => true) true Try.f3.params.toList args.toList ds p := hA0
  rw [Try.params3] at hA hval
  obtain ⟨v0, vs0, d0, ds0, p0, q0, hargs, rfl, rfl, h0, r0⟩ := trodAll_cons hA
  obtain ⟨v1, vs1, d1, ds1, p1, q1, rfl, rfl, rfl, h1, r1⟩ := trodAll_cons r0
  obtain ⟨v2, vs2, d2, ds2, p2, q2, rfl, rfl, rfl, h2, r2⟩ := trodAll_cons r1
  obtain ⟨v3, vs3, d3, ds3, p3, q3, rfl, rfl, rfl, h3, r3⟩ := trodAll_cons r2
  obtain ⟨v4, vs4, d4, ds4, p4, q4, rfl, rfl, rfl, h4, r4⟩ := trodAll_cons r3
  obtain ⟨v5, vs5, d5, ds5, p5, q5, rfl, rfl, rfl, h5, r5⟩ := trodAll_cons r4
  obtain ⟨v6, vs6, d6, ds6, p6, q6, rfl, rfl, rfl, h6, r6⟩ := trodAll_cons r5
  obtain ⟨rfl, rfl, rfl⟩ := trodAll_nil r6
  obtain rfl : args = #[v0, v1, v2, v3, v4, v5, v6] := by cases args; simp_all
  obtain ⟨rfl, rfl⟩ := trodVars_none hV
  have k0 := h0
  have lt0 : ∀ x ∈ p0, x.block < W.heap.size := by obtain ⟨m, hm⟩ := k0; exact DataW.trod_lt m _ _ _ hm
  obtain ⟨a0, rfl, z0⟩ := open22W HL (hval 0 22 v0 rfl rfl) h0
  have k1 := h1
  have lt1 : ∀ x ∈ p1, x.block < W.heap.size := by obtain ⟨m, hm⟩ := k1; exact DataW.trod_lt m _ _ _ hm
  obtain ⟨a1, rfl, z1⟩ := open22W HL (hval 1 22 v1 rfl rfl) h1
  have k2 := h2
  have lt2 : ∀ x ∈ p2, x.block < W.heap.size := by obtain ⟨m, hm⟩ := k2; exact DataW.trod_lt m _ _ _ hm
  obtain ⟨a2, b2, rfl, w2, x2⟩ := open24 (hval 2 24 v2 rfl rfl) h2
  have k3 := h3
  have lt3 : ∀ x ∈ p3, x.block < W.heap.size := by obtain ⟨m, hm⟩ := k3; exact DataW.trod_lt m _ _ _ hm
  obtain ⟨a3, rfl, rfl, rfl, w3⟩ := open_int Try.underlying3 (hval 3 3 v3 rfl rfl) h3
  have k4 := h4
  have lt4 : ∀ x ∈ p4, x.block < W.heap.size := by obtain ⟨m, hm⟩ := k4; exact DataW.trod_lt m _ _ _ hm
  obtain ⟨a4, rfl, rfl, rfl, w4⟩ := open_int Try.underlying23 (hval 4 23 v4 rfl rfl) h4
  have k5 := h5
  have lt5 : ∀ x ∈ p5, x.block < W.heap.size := by obtain ⟨m, hm⟩ := k5; exact DataW.trod_lt m _ _ _ hm
  obtain ⟨a5, rfl, rfl, rfl, w5⟩ := open_string Try.underlying9 (hval 5 9 v5 rfl rfl) h5
  have k6 := h6
  have lt6 : ∀ x ∈ p6, x.block < W.heap.size := by obtain ⟨m, hm⟩ := k6; exact DataW.trod_lt m _ _ _ hm
  obtain ⟨a6, rfl, rfl, rfl, w6⟩ := open_string Try.underlying9 (hval 6 9 v6 rfl rfl) h6
  clear hA0 hval0
  refine (shortLaw_any HL a0 a1 a2 b2 a3 a4 a5 a6 W z0 z1 (bounds_u64 w4).1).mono fun e W' ⟨he, bel⟩ => ?_
  subst he
  exact ⟨_, rfl, _, _, _, [], _, [], hW', trodAll_mk1 (shut_bool Try.underlying4 _), (trodAll_cons_mk (Below.trod laidOut (by kernel_rfl) (of_decide_eq_true (by kernel_rfl)) k0 bel lt0) (trodAll_cons_mk (Below.trod laidOut (by kernel_rfl) (of_decide_eq_true (by kernel_rfl)) k1 bel lt1) (trodAll_cons_mk (Below.trod laidOut (by kernel_rfl) (of_decide_eq_true (by kernel_rfl)) k2 bel lt2) (trodAll_cons_mk (shut_int Try.underlying3 w3) (trodAll_cons_mk (shut_int Try.underlying23 w4) (trodAll_cons_mk (shut_string Try.underlying9 w5) (trodAll_cons_mk (shut_string Try.underlying9 w6) trodAll_mk0))))))), rfl, bel.frame _, fun h => by cases h⟩

theorem over : Rows.fnShortIsTakenInByIdleNodeRow.holds Try.pinned (OpenSpec.ofChange Rows.fnShortIsTakenInByIdleNodeSpec) :=
  OpenClaim.holds_of_wide 3 Try.f3 rfl rfl rfl rfl rfl rfl rfl ⟨rfl, rfl, rfl, rfl, rfl⟩ rfl rfl rfl rfl rfl (by kernel_rfl) Try.func3 (by kernel_rfl)
    (of_decide_eq_true (by kernel_rfl)) (by unfold Func.isWrapper; first | (rw [if_pos (by decide +kernel)]; kernel_rfl) | (rw [if_neg (by decide +kernel)]; exact ⟨rfl, rfl⟩))
    (fun os started H enc _ => lifted os started H enc)

end Go.Proofs.Qxb6612204a.ShortRow

namespace Go.Proofs.Qxb6612204a
/-- ████ THE STATEMENT ████ -/
theorem shortTaken_proved : Rows.FnShortIsTakenInByIdleNodeSaid := ShortRow.over
#print axioms shortTaken_proved
end Go.Proofs.Qxb6612204a
