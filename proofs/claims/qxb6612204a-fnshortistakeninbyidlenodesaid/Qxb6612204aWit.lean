import Derived.Test.Qxb6612204aOpen
namespace Go.Proofs.Qxb6612204a
open Go.ChangeShapes Go.WideShapes Go.ChangeAt Go.RowKit
open Go.ChangeMaps (open_string shut_string)

theorem mapM_all {α β : Type} (f : α → Option β) (g : α → β) : ∀ (l : List α), (∀ i ∈ l, f i = some (g i)) → l.mapM f = some (l.map g)
  | [], _ => rfl
  | a :: l, h => by
    rw [List.mapM_cons, h a (by simp), mapM_all f g l (fun i hi => h i (by simp [hi]))]
    rfl

theorem depth_big : ∃ d, Try.prog.depth = d + 2 := ⟨Try.prog.depth - 2, by
  have : 2 ≤ Try.prog.depth := of_decide_eq_true (by kernel_rfl)
  omega⟩

theorem cellTypes22 : Try.prog.cellTypes Try.prog.depth 22 = some (List.replicate 1024 5) := by
  obtain ⟨d, hd⟩ := depth_big
  have h5 : Try.prog.cellTypes (d + 1) 5 = some [5] := by unfold Program.cellTypes; rw [Try.underlying5]
  rw [hd]
  unfold Program.cellTypes
  rw [Try.underlying22]
  show (Try.prog.cellTypes (d + 1) 5).map _ = _
  rw [h5]
  show some ((List.replicate 1024 [5]).flatten) = _
  rw [List.flatten_replicate_singleton]

/-- The zero array, as an argument. -/
theorem ok22 (w : World) (base : Nat) : Value.okWide Try.prog w .any base 22 (.agg (lst fun _ => 0).toArray) := by
  simp only [Value.okWide, Try.underlying22]
  have hl := lst_length fun _ => 0
  have hg := lst_get fun _ => 0
  refine ⟨_, rfl, by rw [cells22, List.size_toArray, hl], List.replicate 1024 5, cellTypes22, ⟨1, by rw [List.size_toArray, hl, List.length_replicate]⟩, fun i v hv => ?_⟩
  rw [List.getElem?_toArray] at hv
  have hi : i < 1024 := by
    have := (List.getElem?_eq_some_iff.1 hv).1
    rwa [hl] at this
  rw [hg i hi] at hv
  obtain rfl := Option.some.inj hv
  refine ⟨5, ?_, ?_⟩
  · rw [List.length_replicate, Nat.mod_eq_of_lt hi, List.getElem?_replicate, if_pos hi]
  · simp [Cell.okWide, Cell.ok, Try.underlying5]
    simp [IntKind.has, IntKind.min, IntKind.max, IntKind.signed, IntKind.bits]

theorem trod22 {H : Type} (enc : TypeId × Value → H) (W : World) : DataW.Trod enc Try.prog W 0 (fun _ => true) true 22 (.agg (lst fun _ => 0).toArray) (.agg ((List.range 1024).map fun _ => .lit (.int .u8 0))) [] := by
  refine ⟨2, ?_⟩
  show DataW.trod enc Try.prog W 0 (fun _ => true) true 2 22 (lst fun _ => 0).toArray.toList = _
  rw [List.toList_toArray]
  have hl := lst_length fun _ => 0
  have hg := lst_get fun _ => 0
  unfold DataW.trod
  rw [Try.underlying22]
  generalize lst (fun _ => 0) = cs at hl hg
  simp only [hl, cells22, cells5, Nat.mul_one, if_true]
  rw [mapM_all _ (fun _ => (.lit (.int .u8 0), []))]
  · simp [List.flatMap]
  · intro i hi
    have hi' : i < 1024 := by simpa using hi
    have e : (cs.drop i).take 1 = [.int .u8 0] := by
      have := hg i hi'
      rw [← List.head?_drop] at this
      cases hc : cs.drop i with
      | nil => rw [hc] at this; cases this
      | cons a t => rw [hc] at this; simp at this; simp [this]
    rw [e]
    exact trod_int_mk 0 Try.underlying5 (by decide)

theorem weights22 {H : Type} : ∀ l : List Nat, DataW.weightsAll (H := H) Try.prog 5 (l.map fun _ => .lit (.int .u8 0)) = []
  | [] => by simp [DataW.weightsAll]
  | _ :: l => by simp [DataW.weightsAll, DataW.weights, weights22 l]
theorem weights22' {H : Type} : DataW.weights (H := H) Try.prog 22 (.agg ((List.range 1024).map fun _ => .lit (.int .u8 0))) = [] := by
  unfold DataW.weights
  rw [Try.underlying22]
  exact weights22 _
theorem weights24' {H : Type} : DataW.weights (H := H) Try.prog 24 (.agg [.lit (.int .u64 0), .lit (.int .u64 0)]) = [] := by
  unfold DataW.weights
  rw [Try.underlying24]
  simp [DataW.weightsAll, DataW.weights]
theorem weightsI {H : Type} (t : TypeId) (k : IntKind) (n : Int) : DataW.weights (H := H) Try.prog t (.lit (.int k n)) = [] := by simp [DataW.weights]
theorem weightsS {H : Type} (t : TypeId) : DataW.weights (H := H) Try.prog t (.lit (.string [])) = [0] := by simp [DataW.weights]

theorem trod24 {H : Type} (enc : TypeId × Value → H) (W : World) : DataW.Trod enc Try.prog W 0 (fun _ => true) true 24 (.agg #[.int .u64 0, .int .u64 0]) (.agg [.lit (.int .u64 0), .lit (.int .u64 0)]) [] := ⟨2, by kernel_rfl⟩
theorem trod9 {H : Type} (enc : TypeId × Value → H) (W : World) : DataW.Trod enc Try.prog W 0 (fun _ => true) true 9 (.string ByteArray.empty) (.lit (.string [])) [] := ⟨1, by kernel_rfl⟩
theorem trod3 {H : Type} (enc : TypeId × Value → H) (W : World) : DataW.Trod enc Try.prog W 0 (fun _ => true) true 3 (.int .i64 0) (.lit (.int .i64 0)) [] := ⟨1, by kernel_rfl⟩
theorem trod23 {H : Type} (enc : TypeId × Value → H) (W : World) : DataW.Trod enc Try.prog W 0 (fun _ => true) true 23 (.int .u64 0) (.lit (.int .u64 0)) [] := ⟨1, by kernel_rfl⟩
end Go.Proofs.Qxb6612204a
