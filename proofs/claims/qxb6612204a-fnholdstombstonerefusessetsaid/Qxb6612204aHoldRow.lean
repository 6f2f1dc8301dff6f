import Derived.Test.Qxb6612204aHold
import Derived.Test.Qxb6612204aWit
namespace Go.Proofs.Qxb6612204a.HoldRow
open Go.ChangeShapes Go.WideShapes Go.ChangeAt Go.RowKit
open Go.ChangeMaps (open_string shut_string)

def wit : Array Value := #[.string ByteArray.empty, .string ByteArray.empty, .int .i64 0, .agg (lst fun _ => 0).toArray, .agg (lst fun _ => 0).toArray, .agg (lst fun _ => 0).toArray, .agg #[.int .u64 0, .int .u64 0], .int .i64 0, .int .u64 0, .agg (lst fun _ => 0).toArray]
theorem wit_ok (w : World) (base : Nat) : ∀ (j : Nat) t v, Try.f4.params[j]? = some t → wit[j]? = some v → Value.okWide Try.prog w .any base t v := by
  intro j t v ht hv
  rw [Try.params4] at ht
  match j, ht, hv with
  | 0, ht, hv => obtain rfl := Option.some.inj ht; obtain rfl := Option.some.inj hv; exact Value.okWide_of_okWideB (by kernel_rfl)
  | 1, ht, hv => obtain rfl := Option.some.inj ht; obtain rfl := Option.some.inj hv; exact Value.okWide_of_okWideB (by kernel_rfl)
  | 2, ht, hv => obtain rfl := Option.some.inj ht; obtain rfl := Option.some.inj hv; exact Value.okWide_of_okWideB (by kernel_rfl)
  | 3, ht, hv => obtain rfl := Option.some.inj ht; obtain rfl := Option.some.inj hv; exact ok22 _ _
  | 4, ht, hv => obtain rfl := Option.some.inj ht; obtain rfl := Option.some.inj hv; exact ok22 _ _
  | 5, ht, hv => obtain rfl := Option.some.inj ht; obtain rfl := Option.some.inj hv; exact ok22 _ _
  | 6, ht, hv => obtain rfl := Option.some.inj ht; obtain rfl := Option.some.inj hv; exact Value.okWide_of_okWideB (by kernel_rfl)
  | 7, ht, hv => obtain rfl := Option.some.inj ht; obtain rfl := Option.some.inj hv; exact Value.okWide_of_okWideB (by kernel_rfl)
  | 8, ht, hv => obtain rfl := Option.some.inj ht; obtain rfl := Option.some.inj hv; exact Value.okWide_of_okWideB (by kernel_rfl)
  | 9, ht, hv => obtain rfl := Option.some.inj ht; obtain rfl := Option.some.inj hv; exact ok22 _ _
  | j + 10, ht, _ => simp at ht
theorem wit_trod {H : Type} (enc : TypeId × Value → H) (W : World) : DataW.TrodAll enc Try.prog W 0 (fun _ => true) true Try.f4.params.toList wit.toList [.lit (.string []), .lit (.string []), .lit (.int .i64 0), .agg ((List.range 1024).map fun _ => .lit (.int .u8 0)), .agg ((List.range 1024).map fun _ => .lit (.int .u8 0)), .agg ((List.range 1024).map fun _ => .lit (.int .u8 0)), .agg [.lit (.int .u64 0), .lit (.int .u64 0)], .lit (.int .i64 0), .lit (.int .u64 0), .agg ((List.range 1024).map fun _ => .lit (.int .u8 0))] [] := by
  rw [Try.params4]
  exact (trodAll_cons_mk (trod9 enc W) (trodAll_cons_mk (trod9 enc W) (trodAll_cons_mk (trod3 enc W) (trodAll_cons_mk (trod22 enc W) (trodAll_cons_mk (trod22 enc W) (trodAll_cons_mk (trod22 enc W) (trodAll_cons_mk (trod24 enc W) (trodAll_cons_mk (trod3 enc W) (trodAll_cons_mk (trod23 enc W) (trodAll_cons_mk (trod22 enc W) trodAll_mk0))))))))))
theorem wit_whole {H : Type} (enc : TypeId × Value → H) (W : World) : DataW.Whole enc Try.prog Try.f4.params.toList [] false W wit.toList [.lit (.string []), .lit (.string []), .lit (.int .i64 0), .agg ((List.range 1024).map fun _ => .lit (.int .u8 0)), .agg ((List.range 1024).map fun _ => .lit (.int .u8 0)), .agg ((List.range 1024).map fun _ => .lit (.int .u8 0)), .agg [.lit (.int .u64 0), .lit (.int .u64 0)], .lit (.int .i64 0), .lit (.int .u64 0), .agg ((List.range 1024).map fun _ => .lit (.int .u8 0))] [] [] :=
  ⟨[], [], wit_trod enc W, rfl, rfl, fun _ _ h => (by cases h), fun h => (by cases h)⟩
set_option maxRecDepth 100000 in
theorem witness (os : Os) (H : Type) (enc : TypeId × Value → H) : ∃ (w : World) (tape : Tape) (i : Input), w.os = os ∧ (w.forCall tape i).Shaped Try.checked.prog ∧ i.vars = [] ∧ Input.okWide Try.checked.prog (w.forCall tape i) .any w.heap.size 4 i ∧
      Rows.fnHoldsTombstoneRefusesSetSpec.pre6 enc Try.checked.prog Try.f4 Rows.fnHoldsTombstoneRefusesSetRow.domain false (w.forCall tape i).memory i.args ∧ ({ modest := false } : Assume).holds Try.checked.prog (lone (Frame.enter Try.checked.prog 4 i.args .normal) [] (w.forCall tape i)) := by
  refine ⟨World.holding Try.checked.prog os ⟨#[], wit, []⟩, fun _ _ => 0, ⟨#[], wit, []⟩, rfl, World.shaped_of_B (by kernel_rfl) (by kernel_rfl), rfl, ?_, ⟨⟨_, _, _, wit_whole enc _, rfl⟩, ?_, _, _, _, wit_whole enc _, ?_⟩, ?_⟩
  · exact ⟨fun o h => (by simp at h), fun o h => (by cases h), by kernel_rfl, Try.f4, Try.func4, by kernel_rfl, by kernel_rfl, by kernel_rfl, by kernel_rfl, wit_ok _ _⟩
  · kernel_rfl
  · show (DataW.weightsEach Try.prog (Try.f4.params.toList ++ []) _).all _ = true
    rw [Try.params4]
    simp [DataW.weightsEach, weights22', weights24', weightsI, weightsS]
  · simp only [Assume.holds]
    exact ⟨by simp, by simp, fun _ => Modest.zero, by simp, by simp⟩

set_option maxRecDepth 100000 in
theorem lifted (os : Os) (started : os.Started) (H : Type) (enc : TypeId × Value → H) :
    ReturnsInHanded {} Try.checked os 4 .any (Rows.fnHoldsTombstoneRefusesSetSpec.pre6 enc Try.prog Try.f4 Rows.fnHoldsTombstoneRefusesSetRow.domain false) (Rows.fnHoldsTombstoneRefusesSetSpec.post enc Try.prog Try.f4 false true false false) := by
  refine returnsInHanded_of_change (C := Try.checked) own started (by kernel_rfl) Try.func4
    (witness os H enc) ?_
  obtain ⟨L, HL⟩ := some_L
  intro W base args ds gs before hval0 hW hcnd _
  have hval : ∀ (j : Nat) t v, Try.f4.params[j]? = some t → args[j]? = some v → Value.okWide Try.prog W .any base t v := hval0
  have hW' := hW
  obtain ⟨p, q, hA0, hV, rfl, hfz, hnd⟩ := hW
  have hA : DataW.TrodAll enc Try.prog W 0 (fun _ => true) true Try.f4.params.toList args.toList ds p := hA0
  rw [Try.params4] at hA hval
  obtain ⟨v0, vs0, d0, ds0, p0, q0, hargs, rfl, rfl, h0, r0⟩ := trodAll_cons hA
  obtain ⟨v1, vs1, d1, ds1, p1, q1, rfl, rfl, rfl, h1, r1⟩ := trodAll_cons r0
  obtain ⟨v2, vs2, d2, ds2, p2, q2, rfl, rfl, rfl, h2, r2⟩ := trodAll_cons r1
  obtain ⟨v3, vs3, d3, ds3, p3, q3, rfl, rfl, rfl, h3, r3⟩ := trodAll_cons r2
  obtain ⟨v4, vs4, d4, ds4, p4, q4, rfl, rfl, rfl, h4, r4⟩ := trodAll_cons r3
  obtain ⟨v5, vs5, d5, ds5, p5, q5, rfl, rfl, rfl, h5, r5⟩ := trodAll_cons r4
  obtain ⟨v6, vs6, d6, ds6, p6, q6, rfl, rfl, rfl, h6, r6⟩ := trodAll_cons r5
  obtain ⟨v7, vs7, d7, ds7, p7, q7, rfl, rfl, rfl, h7, r7⟩ := trodAll_cons r6
  obtain ⟨v8, vs8, d8, ds8, p8, q8, rfl, rfl, rfl, h8, r8⟩ := trodAll_cons r7
  obtain ⟨v9, vs9, d9, ds9, p9, q9, rfl, rfl, rfl, h9, r9⟩ := trodAll_cons r8
  obtain ⟨rfl, rfl, rfl⟩ := trodAll_nil r9
  obtain rfl : args = #[v0, v1, v2, v3, v4, v5, v6, v7, v8, v9] := by cases args; simp_all
  obtain ⟨rfl, rfl⟩ := trodVars_none hV
  have k0 := h0
  have lt0 : ∀ x ∈ p0, x.block < W.heap.size := by obtain ⟨m, hm⟩ := k0; exact DataW.trod_lt m _ _ _ hm
  obtain ⟨a0, rfl, rfl, rfl, w0⟩ := open_string Try.underlying9 (hval 0 9 v0 rfl rfl) h0
  have k1 := h1
  have lt1 : ∀ x ∈ p1, x.block < W.heap.size := by obtain ⟨m, hm⟩ := k1; exact DataW.trod_lt m _ _ _ hm
  obtain ⟨a1, rfl, rfl, rfl, w1⟩ := open_string Try.underlying9 (hval 1 9 v1 rfl rfl) h1
  have k2 := h2
  have lt2 : ∀ x ∈ p2, x.block < W.heap.size := by obtain ⟨m, hm⟩ := k2; exact DataW.trod_lt m _ _ _ hm
  obtain ⟨a2, rfl, rfl, rfl, w2⟩ := open_int Try.underlying3 (hval 2 3 v2 rfl rfl) h2
  have k3 := h3
  have lt3 : ∀ x ∈ p3, x.block < W.heap.size := by obtain ⟨m, hm⟩ := k3; exact DataW.trod_lt m _ _ _ hm
  obtain ⟨a3, rfl⟩ := open22L HL (hval 3 22 v3 rfl rfl) h3
  have k4 := h4
  have lt4 : ∀ x ∈ p4, x.block < W.heap.size := by obtain ⟨m, hm⟩ := k4; exact DataW.trod_lt m _ _ _ hm
  obtain ⟨a4, rfl⟩ := open22L HL (hval 4 22 v4 rfl rfl) h4
  have k5 := h5
  have lt5 : ∀ x ∈ p5, x.block < W.heap.size := by obtain ⟨m, hm⟩ := k5; exact DataW.trod_lt m _ _ _ hm
  obtain ⟨a5, rfl⟩ := open22L HL (hval 5 22 v5 rfl rfl) h5
  have k6 := h6
  have lt6 : ∀ x ∈ p6, x.block < W.heap.size := by obtain ⟨m, hm⟩ := k6; exact DataW.trod_lt m _ _ _ hm
  obtain ⟨a6, b6, rfl, w6, x6⟩ := open24 (hval 6 24 v6 rfl rfl) h6
  have k7 := h7
  have lt7 : ∀ x ∈ p7, x.block < W.heap.size := by obtain ⟨m, hm⟩ := k7; exact DataW.trod_lt m _ _ _ hm
  obtain ⟨a7, rfl, rfl, rfl, w7⟩ := open_int Try.underlying3 (hval 7 3 v7 rfl rfl) h7
  have k8 := h8
  have lt8 : ∀ x ∈ p8, x.block < W.heap.size := by obtain ⟨m, hm⟩ := k8; exact DataW.trod_lt m _ _ _ hm
  obtain ⟨a8, rfl, rfl, rfl, w8⟩ := open_int Try.underlying23 (hval 8 23 v8 rfl rfl) h8
  have k9 := h9
  have lt9 : ∀ x ∈ p9, x.block < W.heap.size := by obtain ⟨m, hm⟩ := k9; exact DataW.trod_lt m _ _ _ hm
  obtain ⟨a9, rfl⟩ := open22L HL (hval 9 22 v9 rfl rfl) h9
  clear hA0 hval0
  refine (hold_any HL a0 a1 a2 a3 a4 a5 a9 a6 b6 a7 a8 W).mono fun e W' ⟨he, bel⟩ => ?_
  subst he
  exact ⟨_, rfl, _, _, _, [], _, [], hW', trodAll_mk1 (shut_bool Try.underlying4 _), (trodAll_cons_mk (shut_string Try.underlying9 w0) (trodAll_cons_mk (shut_string Try.underlying9 w1) (trodAll_cons_mk (shut_int Try.underlying3 w2) (trodAll_cons_mk (Below.trod laidOut (by kernel_rfl) (of_decide_eq_true (by kernel_rfl)) k3 bel lt3) (trodAll_cons_mk (Below.trod laidOut (by kernel_rfl) (of_decide_eq_true (by kernel_rfl)) k4 bel lt4) (trodAll_cons_mk (Below.trod laidOut (by kernel_rfl) (of_decide_eq_true (by kernel_rfl)) k5 bel lt5) (trodAll_cons_mk (Below.trod laidOut (by kernel_rfl) (of_decide_eq_true (by kernel_rfl)) k6 bel lt6) (trodAll_cons_mk (shut_int Try.underlying3 w7) (trodAll_cons_mk (shut_int Try.underlying23 w8) (trodAll_cons_mk (Below.trod laidOut (by kernel_rfl) (of_decide_eq_true (by kernel_rfl)) k9 bel lt9) trodAll_mk0)))))))))), rfl, bel.frame _, fun h => by cases h⟩

theorem over : Rows.fnHoldsTombstoneRefusesSetRow.holds Try.pinned (OpenSpec.ofChange Rows.fnHoldsTombstoneRefusesSetSpec) :=
  OpenClaim.holds_of_wide 4 Try.f4 rfl rfl rfl rfl rfl rfl rfl ⟨rfl, rfl, rfl, rfl, rfl⟩ rfl rfl rfl rfl rfl (by kernel_rfl) Try.func4 (by kernel_rfl)
    (of_decide_eq_true (by kernel_rfl)) (by unfold Func.isWrapper; first | (rw [if_pos (by decide +kernel)]; kernel_rfl) | (rw [if_neg (by decide +kernel)]; exact ⟨rfl, rfl⟩))
    (fun os started H enc _ => lifted os started H enc)

end Go.Proofs.Qxb6612204a.HoldRow

namespace Go.Proofs.Qxb6612204a
/-- ████ THE STATEMENT ████ -/
theorem holdsTombstone_proved : Rows.FnHoldsTombstoneRefusesSetSaid := HoldRow.over
#print axioms holdsTombstone_proved
end Go.Proofs.Qxb6612204a
