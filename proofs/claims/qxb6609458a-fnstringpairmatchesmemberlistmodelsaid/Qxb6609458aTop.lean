import Derived.Test.Qxb6609458aProg
import Derived.WalkKit
import Derived.WalkSpells
import Derived.Maps.OwnSet
import Derived.Lib.SliceRun
import Derived.WalkLawsBesides
import Derived.StringKeys
namespace Go.Proofs.Qxb6609458a
open Go.RowKit Go.Maps

theorem law : Keyed Try.prog 9 := string_keyed Try.underlying9
theorem zeroE (w : World) : (zeroValue 20).run Try.prog w = .ok .nilIface w := by kernel_rfl
theorem as32_nil (w : World) : (Instr.typeAssert .nilIface 20 32 true).run Try.prog w = .ok (.tuple #[.map none, .bool false]) w := by kernel_rfl
theorem as32_map (v : Value) (w : World) : (Instr.typeAssert (.iface 32 v) 20 32 true).run Try.prog w = .ok (.tuple #[v, .bool true]) w := by kernel_rfl
theorem as9_nil (w : World) : (Instr.typeAssert .nilIface 20 9 true).run Try.prog w = .ok (.tuple #[.string ⟨#[]⟩, .bool false]) w := by kernel_rfl
theorem as9_s (v : Value) (w : World) : (Instr.typeAssert (.iface 9 v) 20 9 true).run Try.prog w = .ok (.tuple #[v, .bool true]) w := by kernel_rfl
theorem as9_f (v : Value) (w : World) : (Instr.typeAssert (.iface 33 v) 20 9 true).run Try.prog w = .ok (.tuple #[.string ⟨#[]⟩, .bool false]) w := by kernel_rfl

/-- How an element of the map reads: nil; a string; a number (of which nothing is told). -/
def R : Value → Option (DataW Unit × List MemPlace)
  | .nilIface => some (.nil, [])
  | .iface t (.string s) => if t = 9 then some (.lit (.string s.data.toList), []) else none
  | .iface t (.float _ _) => if t = 33 then some (.lit (.bool true), []) else none
  | _ => none

theorem R_inv {v : Value} {z : DataW Unit × List MemPlace} (h : R v = some z) : (v = .nilIface ∧ z = (.nil, [])) ∨ (∃ s, v = .iface 9 (.string s) ∧ z = (.lit (.string s.data.toList), [])) ∨ (∃ k x, v = .iface 33 (.float k x) ∧ z = (.lit (.bool true), [])) := by
  unfold R at h
  split at h
  · exact .inl ⟨rfl, by simpa using h.symm⟩
  · split at h
    · rename_i e; subst e; exact .inr (.inl ⟨_, rfl, by simpa using h.symm⟩)
    · cases h
  · split at h
    · rename_i e; subst e; exact .inr (.inr ⟨_, _, rfl, by simpa using h.symm⟩)
    · cases h
  · cases h

/-- The string that stands at a key, if one does. -/
def strAt (D : DataW Unit) (k : ByteArray) : Option ByteArray :=
  match D.atKey (.string k.data.toList) .nil with
  | .lit (.string s) => some ⟨s.toArray⟩
  | _ => none

/-- What stringPair answers. -/
def pairOf (D : DataW Unit) (a b : ByteArray) : Option (ByteArray × ByteArray) :=
  if Maps.size D = 2 then (match strAt D a, strAt D b with | some x, some y => some (x, y) | _, _ => none) else none

def answer (r : Option (ByteArray × ByteArray)) : Value :=
  match r with
  | some (x, y) => .tuple #[.agg #[.string x, .string y], .bool true]
  | none => .tuple #[.agg #[.string ⟨#[]⟩, .string ⟨#[]⟩], .bool false]


/-- What 'x.(string)' with 'ok' gives. -/
def asr : Option ByteArray → Value
  | some s => .tuple #[.string s, .bool true]
  | none => .tuple #[.string ⟨#[]⟩, .bool false]

theorem as9_of {D : DataW Unit} {k : ByteArray} {v : Value} {ps : List MemPlace} (h : R v = some (D.atKey (.string k.data.toList) .nil, ps)) (w : World) :
    (Instr.typeAssert v 20 9 true).run Try.prog w = .ok (asr (strAt D k)) w := by
  rcases R_inv h with ⟨rfl, e⟩ | ⟨s, rfl, e⟩ | ⟨q, x, rfl, e⟩
  · have e1 : D.atKey (.string k.data.toList) .nil = .nil := congrArg Prod.fst e
    rw [as9_nil, strAt, e1]; rfl
  · have e1 : D.atKey (.string k.data.toList) .nil = .lit (.string s.data.toList) := congrArg Prod.fst e
    rw [as9_s, strAt, e1]
    simp [asr]
  · have e1 : D.atKey (.string k.data.toList) .nil = .lit (.bool true) := congrArg Prod.fst e
    rw [as9_f, strAt, e1]; rfl

theorem wpList_look {w : World} {ops : Array Oper} {rest : List Oper} {o : Oper} {a : Act} {Q : Exit → Act → World → Prop}
    (hg : o.guard = none) (m x : Operand) (hop : o.op = Op.lookup 32 m x false) (b n : Nat) (D : DataW Unit)
    (hm : a.eval m = .map (some b)) (hown : w.ownsMap Try.prog 9 R b n D) (k : ByteArray) (hx : a.eval x = .string k) (hk : k.size ≤ maxLen) (X : Value) (hX : asr (strAt D k) = X)
    (hK : ∀ v, (∀ w, (Instr.typeAssert v 20 9 true).run Try.prog w = .ok X w) → wpList Try.prog ops Q rest (a.put o.dst v) w) :
    wpList Try.prog ops Q (o :: rest) a w := by
  subst hX
  refine wpList_plain hg fun K' hK' => ?_
  obtain ⟨v, ps, hrun, hv⟩ := hown.lookup law Try.underlying32 (zeroE _) (zd := .nil) (zp := []) rfl (Go.WideMaps.keyOf_string_mk Try.underlying9 hk)
  unfold Oper.wp
  simp [execOp, hop, hm, hx, hrun, Result.andThen]
  exact hK' _ _ (hK v (as9_of hv))

theorem idx0 (x y : Value) (w : World) : (Instr.index 24 (.agg #[x, y]) (.int .i64 0)).run Try.prog w = .ok x w := by kernel_rfl
theorem idx1 (x y : Value) (w : World) : (Instr.index 24 (.agg #[x, y]) (.int .i64 1)).run Try.prog w = .ok y w := by kernel_rfl

theorem pair_nil (a b : ByteArray) (w : World) : Calls Try.prog 9 #[.nilIface, .string a, .string b] w fun e w' => e = .returned (answer none) ∧ Below w.heap.size w w' := by
  have h1 := as32_nil
  have h2 := fun (w : World) ty => Maps.len_nil (P := Try.prog) (w := w) Try.underlying32 ty
  go_enter Try.func9, Try.ntmps9
  go_wp2
  exact bodyPost_ret (v := .tuple #[.agg #[.string ⟨#[]⟩, .string ⟨#[]⟩], .bool false]) (by simp [results, Try.results9, go_sem]) rfl ⟨rfl, (Below.refl _ _).alloc (Nat.le_refl _) _⟩

theorem pair_size (D : DataW Unit) (a b : ByteArray) (B n : Nat) (w : World) (hown : w.ownsMap Try.prog 9 R B n D) (hs : Maps.size D ≠ 2) :
    Calls Try.prog 9 #[.iface 32 (.map (some B)), .string a, .string b] w fun e w' => e = .returned (answer none) ∧ Below w.heap.size w w' := by
  have h1 := as32_map
  have h2 : ((Maps.size D : Int) != 2) = true := by simp; omega
  go_enter Try.func9, Try.ntmps9
  go_wp2_with (at_len; refine wpList_len_own _ rfl _ 32 rfl 9 20 Try.underlying32 _ B n D rfl (hown.alloc _) ?_)
  exact bodyPost_ret (v := .tuple #[.agg #[.string ⟨#[]⟩, .string ⟨#[]⟩], .bool false]) (by simp [results, Try.results9, go_sem]) rfl ⟨rfl, (Below.refl _ _).alloc (Nat.le_refl _) _⟩

theorem pair_one (D : DataW Unit) (a b : ByteArray) (B n : Nat) (w : World) (ha : a.size ≤ maxLen) (hown : w.ownsMap Try.prog 9 R B n D) (hs : Maps.size D = 2) (h : strAt D a = none) :
    Calls Try.prog 9 #[.iface 32 (.map (some B)), .string a, .string b] w fun e w' => e = .returned (answer none) ∧ Below w.heap.size w w' := by
  have h1 := as32_map
  have h2 : ((Maps.size D : Int) != 2) = false := by simp; omega
  have i0 := idx0
  have i1 := idx1
  have h3 : asr (strAt D a) = .tuple #[.string ⟨#[]⟩, .bool false] := by rw [h]; rfl
  have H3 : Hid (asr (strAt D a) = .tuple #[.string ⟨#[]⟩, .bool false]) := h3
  clear h3 h hs
  go_enter Try.func9, Try.ntmps9
  go_wp2_with (at_len; refine wpList_len_own _ rfl _ 32 rfl 9 20 Try.underlying32 _ B n D rfl (hown.alloc _) ?_)
  refine wp_loop_rounds 1 ?_
  rw [rounds_succ]
  go_wp2_with (at_lookup; refine wpList_look rfl _ _ rfl B n D rfl ((hown.alloc _).alloc _) _ rfl ha _ H3.out ?_; intro v hv)
  exact bodyPost_ret (v := .tuple #[.agg #[.string ⟨#[]⟩, .string ⟨#[]⟩], .bool false]) (by simp [results, Try.results9, go_sem]) rfl ⟨rfl, ((Below.refl _ _).alloc (Nat.le_refl _) _).alloc (by simp) _⟩


theorem pair_two (D : DataW Unit) (a b sa : ByteArray) (B n : Nat) (w : World) (ha : a.size ≤ maxLen) (hb : b.size ≤ maxLen) (hown : w.ownsMap Try.prog 9 R B n D) (hs : Maps.size D = 2) (h : strAt D a = some sa) (h' : strAt D b = none) :
    Calls Try.prog 9 #[.iface 32 (.map (some B)), .string a, .string b] w fun e w' => e = .returned (answer none) ∧ Below w.heap.size w w' := by
  have h1 := as32_map
  have h2 : ((Maps.size D : Int) != 2) = false := by simp; omega
  have i0 := idx0
  have i1 := idx1
  have H3 : Hid (asr (strAt D a) = .tuple #[.string sa, .bool true]) := by show _ = _; rw [h]; rfl
  have H4 : Hid (asr (strAt D b) = .tuple #[.string ⟨#[]⟩, .bool false]) := by show _ = _; rw [h']; rfl
  clear h h' hs
  go_enter Try.func9, Try.ntmps9
  go_wp2_with (at_len; refine wpList_len_own _ rfl _ 32 rfl 9 20 Try.underlying32 _ B n D rfl (hown.alloc _) ?_)
  refine wp_loop_rounds 2 ?_
  rw [rounds_succ]
  go_wp2_with (at_lookup; refine wpList_look rfl _ _ rfl B n D rfl ((hown.alloc _).alloc _) _ rfl ha _ H3.out ?_; intro v hv)
  rw [rounds_succ]
  go_wp2_with (at_lookup; refine wpList_look rfl _ _ rfl B n D rfl ((hown.alloc _).alloc _) _ rfl hb _ H4.out ?_; intro v2 hv2)
  exact bodyPost_ret (v := .tuple #[.agg #[.string ⟨#[]⟩, .string ⟨#[]⟩], .bool false]) (by simp [results, Try.results9, go_sem]) rfl ⟨rfl, ((Below.refl _ _).alloc (Nat.le_refl _) _).alloc (by simp) _⟩

theorem pair_yes (D : DataW Unit) (a b sa sb : ByteArray) (B n : Nat) (w : World) (ha : a.size ≤ maxLen) (hb : b.size ≤ maxLen) (hown : w.ownsMap Try.prog 9 R B n D) (hs : Maps.size D = 2) (h : strAt D a = some sa) (h' : strAt D b = some sb) :
    Calls Try.prog 9 #[.iface 32 (.map (some B)), .string a, .string b] w fun e w' => e = .returned (answer (some (sa, sb))) ∧ Below w.heap.size w w' := by
  have h1 := as32_map
  have h2 : ((Maps.size D : Int) != 2) = false := by simp; omega
  have i0 := idx0
  have i1 := idx1
  have H3 : Hid (asr (strAt D a) = .tuple #[.string sa, .bool true]) := by show _ = _; rw [h]; rfl
  have H4 : Hid (asr (strAt D b) = .tuple #[.string sb, .bool true]) := by show _ = _; rw [h']; rfl
  clear h h' hs
  go_enter Try.func9, Try.ntmps9
  go_wp2_with (at_len; refine wpList_len_own _ rfl _ 32 rfl 9 20 Try.underlying32 _ B n D rfl (hown.alloc _) ?_)
  refine wp_loop_rounds 3 ?_
  rw [rounds_succ]
  go_wp2_with (at_lookup; refine wpList_look rfl _ _ rfl B n D rfl ((hown.alloc _).alloc _) _ rfl ha _ H3.out ?_; intro v hv)
  rw [rounds_succ]
  go_wp2_with (at_lookup; refine wpList_look rfl _ _ rfl B n D rfl ((hown.alloc _).alloc _) _ rfl hb _ H4.out ?_; intro v2 hv2)
  rw [rounds_succ]
  go_wp2
  exact bodyPost_ret (v := .tuple #[.agg #[.string sa, .string sb], .bool true]) (by simp [results, Try.results9, go_sem]) rfl ⟨rfl, ((Below.refl _ _).alloc (Nat.le_refl _) _).alloc (by simp) _⟩

/-- stringPair at a map. -/
theorem pair_map (D : DataW Unit) (a b : ByteArray) (B n : Nat) (w : World) (ha : a.size ≤ maxLen) (hb : b.size ≤ maxLen) (hown : w.ownsMap Try.prog 9 R B n D) :
    Calls Try.prog 9 #[.iface 32 (.map (some B)), .string a, .string b] w fun e w' => e = .returned (answer (pairOf D a b)) ∧ Below w.heap.size w w' := by
  by_cases hs : Maps.size D = 2
  · cases h : strAt D a with
    | none => rw [show pairOf D a b = none by simp [pairOf, h]]; exact pair_one D a b B n w ha hown hs h
    | some sa =>
      cases h' : strAt D b with
      | none => rw [show pairOf D a b = none by simp [pairOf, h, h']]; exact pair_two D a b sa B n w ha hb hown hs h h'
      | some sb => rw [show pairOf D a b = some (sa, sb) by simp [pairOf, hs, h, h']]; exact pair_yes D a b sa sb B n w ha hb hown hs h h'
  · rw [show pairOf D a b = none by simp [pairOf, hs]]; exact pair_size D a b B n w hown hs

end Go.Proofs.Qxb6609458a
