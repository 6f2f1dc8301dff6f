import Derived.Test.Qxb6609493aOffer
import Derived.Deep.AppendLies
import Derived.Laws.OwnMore
namespace Go.Proofs.Qxb6609493a
open Go.RowKit

/-! ### The node's block, the links' blocks -/
def linkRest : List Value := [.int .u8 0, .bool false, .bool false, .int .u64 0, .int .u64 0, .slice none 0 0, .int .u64 0, .int .i64 0, .pointer none, .int .u64 0, .int .i64 0, .pointer none, .int .u64 0, .int .u64 0, .int .u64 0, .int .u64 0, .int .i64 0, .int .u64 0, .int .i64 0, .pointer none, .int .u64 0, .int .i64 0, .pointer none, .bool false, .int .u64 0, .int .i64 0, .pointer none, .bool false, .int .u64 0, .int .i64 0, .pointer none, .bool false, .slice none 0 0, .int .u64 0, .slice none 0 0, .int .u64 0]
def linkL (L : (Nat → Int) → List Value) (i : Int) (r : Nat → Int) (k : Bool) (s : Int) : List Value := [.string ⟨#[]⟩, .string ⟨#[]⟩, .int .u64 i] ++ (L r ++ ([.bool k, .int .i64 s] ++ linkRest))
def nodeA : List Value := [.nilFunc, .nilFunc, .pointer none, .slice none 0 0, .slice none 0 0, .slice none 0 0, .slice none 0 0, .int .i64 0, .map none, .map none, .map none]
def nodeZ : List Value := [.int .u64 0, .int .i64 0, .pointer none, .int .u64 0, .nilIface, .int .u8 0, .int .u8 0, .int .u8 0, .int .u8 0, .int .u8 0, .int .u8 0, .int .u8 0, .int .u8 0, .int .u8 0, .int .u8 0, .int .u8 0, .int .u8 0, .int .u8 0, .int .u8 0, .int .u8 0, .int .u8 0, .int .u8 0, .int .u8 0, .int .u8 0, .int .u8 0, .int .u8 0, .int .u8 0, .int .u8 0, .int .u8 0, .int .u8 0, .int .u8 0, .int .u8 0, .int .u8 0, .int .u8 0, .int .u8 0, .int .u8 0, .int .u8 0, .slice none 0 0, .int .u64 0, .slice none 0 0, .int .u64 0, .int .i64 0, .pointer none, .map none, .int .u64 0, .slice none 0 0, .slice none 0 0]
def midL (L : (Nat → Int) → List Value) : List Value := nearL L Nr.zero ++ (nearL L Nr.zero ++ (nearL L Nr.zero ++ nearL L Nr.zero))
def nodeL (L : (Nat → Int) → List Value) (r : Nat → Int) : List Value := [.slice none 0 0] ++ (L r ++ (nodeA ++ (midL L ++ ([.bool false, .bool false] ++ nodeZ))))

theorem run_build81 {L : (Nat → Int) → List Value} (HL : IsL L) (r : Nat → Int) (w : World) : (Instr.build 81 #[(1, .agg (L r).toArray)]).run Try.prog w = .ok (.agg (nodeL L r).toArray) w := by
  obtain rfl : L = lst := funext HL
  kernel_rfl
theorem run_build64 {L : (Nat → Int) → List Value} (HL : IsL L) (i : Int) (r : Nat → Int) (k : Bool) (s : Int) (w : World) : (Instr.build 64 #[(2, .int .u64 i), (3, .agg (L r).toArray), (4, .bool k), (5, .int .i64 s)]).run Try.prog w = .ok (.agg (linkL L i r k s).toArray) w := by
  obtain rfl : L = lst := funext HL
  kernel_rfl
theorem midL_len {L : (Nat → Int) → List Value} (HL : IsL L) : (midL L).length = 172 := by simp [midL, nearL_len HL]

theorem Mem.app_left {w : World} {b o : Nat} {xs ys : List Value} (h : Mem w b o (xs ++ ys)) : Mem w b o xs := fun i v hv => h i v (by
  rw [List.getElem?_append_left (List.getElem?_eq_some_iff.1 hv).1]; exact hv)
theorem Mem.app_right {w : World} {b o n : Nat} {xs ys : List Value} (h : Mem w b o (xs ++ ys)) (hn : o + xs.length = n) : Mem w b n ys := fun i v hv => by
  have := h (xs.length + i) v (by rw [List.getElem?_append_right (by omega)]; rwa [show xs.length + i - xs.length = i by omega])
  rwa [show o + (xs.length + i) = n + i by omega] at this
theorem Mem.app {w : World} {b o n : Nat} {xs ys : List Value} (h : Mem w b o xs) (k : Mem w b n ys) (hn : o + xs.length = n) : Mem w b o (xs ++ ys) := fun i v hv => by
  by_cases hi : i < xs.length
  · rw [List.getElem?_append_left hi] at hv; exact h i v hv
  · rw [List.getElem?_append_right (by omega)] at hv
    have := k _ v hv
    rwa [show n + (i - xs.length) = o + i by omega] at this

structure NodeM (L : (Nat → Int) → List Value) (w : World) (N : Nat) (slf : Nat → Int) (lv : Value) : Prop where
  slf : Mem w N 1 (L slf)
  lk : w.cell? ⟨N, 25, none⟩ = some lv
  z : Mem w N 32 (midL L)
  fd : w.cell? ⟨N, 204, none⟩ = some (.bool false)
  fr : ∀ j, w.frozen? ⟨N, j, none⟩ = false
theorem NodeM.of_mem {L : (Nat → Int) → List Value} (HL : IsL L) {w : World} {N : Nat} {r : Nat → Int} (h : Mem w N 0 (nodeL L r)) (hf : ∀ j, w.frozen? ⟨N, j, none⟩ = false) : NodeM L w N r (.slice none 0 0) := by
  unfold nodeL at h
  have h1 : Mem w N 1 _ := h.app_right rfl
  have h2 : Mem w N 21 _ := h1.app_right (by rw [L_len HL])
  have h3 : Mem w N 32 _ := h2.app_right rfl
  have h4 : Mem w N 204 _ := h3.app_right (by rw [midL_len HL])
  exact ⟨h1.app_left, (h2.app_left 4 _ rfl).1, h3.app_left, (h4 0 _ rfl).1, hf⟩
theorem NodeM.lt {L : (Nat → Int) → List Value} {w : World} {N : Nat} {r : Nat → Int} {lv : Value} (h : NodeM L w N r lv) : N < w.heap.size := World.block_lt_of_cell? w _ h.lk
theorem NodeM.below {L : (Nat → Int) → List Value} {w w' : World} {N B : Nat} {r : Nat → Int} {lv : Value} (h : NodeM L w N r lv) (k : Below B w w') (hb : N < B) : NodeM L w' N r lv :=
  ⟨h.slf.below k hb, (k.cell (p := ⟨N, 25, none⟩) hb).trans h.lk, h.z.below k hb, (k.cell (p := ⟨N, 204, none⟩) hb).trans h.fd, fun j => (k.frozen (p := ⟨N, j, none⟩) hb).trans (h.fr j)⟩

structure LinkAt (L : (Nat → Int) → List Value) (w : World) (p : Nat) (i : Int) (r : Nat → Int) (k : Bool) (s : Int) : Prop where
  i : w.cell? ⟨p, 2, none⟩ = some (.int .u64 i)
  r : Mem w p 3 (L r)
  k : w.cell? ⟨p, 23, none⟩ = some (.bool k)
  s : w.cell? ⟨p, 24, none⟩ = some (.int .i64 s)
theorem LinkAt.of_mem {L : (Nat → Int) → List Value} (HL : IsL L) {w : World} {p : Nat} {i : Int} {r : Nat → Int} {k : Bool} {s : Int} (h : Mem w p 0 (linkL L i r k s)) : LinkAt L w p i r k s := by
  unfold linkL at h
  have h1 : Mem w p 3 _ := h.app_right rfl
  have h2 : Mem w p 23 _ := h1.app_right (by rw [L_len HL])
  exact ⟨(h.app_left 2 _ rfl).1, h1.app_left, (h2.app_left 0 _ rfl).1, (h2.app_left 1 _ rfl).1⟩
theorem LinkAt.lt {L : (Nat → Int) → List Value} {w : World} {p : Nat} {i : Int} {r : Nat → Int} {k : Bool} {s : Int} (h : LinkAt L w p i r k s) : p < w.heap.size := World.block_lt_of_cell? w _ h.i
/-- Where the block is as it was. -/
theorem LinkAt.same {L : (Nat → Int) → List Value} {w w' : World} {p : Nat} {i : Int} {r : Nat → Int} {k : Bool} {s : Int} (h : LinkAt L w p i r k s) (e : w'.heap[p]? = w.heap[p]?) : LinkAt L w' p i r k s := by
  have hc : ∀ j, w'.cell? ⟨p, j, none⟩ = w.cell? ⟨p, j, none⟩ := fun j => World.cell?_of_block (a := ⟨p, j, none⟩) e
  have hf : ∀ j, w'.frozen? ⟨p, j, none⟩ = w.frozen? ⟨p, j, none⟩ := fun j => World.frozen?_of_block (a := ⟨p, j, none⟩) e
  exact ⟨(hc _).trans h.i, fun j v hv => ⟨(hc _).trans (h.r j v hv).1, (hf _).trans (h.r j v hv).2⟩, (hc _).trans h.k, (hc _).trans h.s⟩

def ptrs (q : Nat → Nat) (n : Nat) : List Value := (List.range n).map fun i => .pointer (some ⟨q i, 0, none⟩)
theorem ptrs_get (q : Nat → Nat) (n i : Nat) (h : i < n) : (ptrs q n)[i]? = some (.pointer (some ⟨q i, 0, none⟩)) := by simp [ptrs, h]
theorem ptrs_len (q : Nat → Nat) (n : Nat) : (ptrs q n).length = n := by simp [ptrs]
theorem ptrs_succ (q : Nat → Nat) (n : Nat) : ptrs q (n + 1) = ptrs q n ++ [.pointer (some ⟨q n, 0, none⟩)] := by simp [ptrs, List.range_succ]
theorem ptrs_congr {q q' : Nat → Nat} (n : Nat) (h : ∀ i, i < n → q i = q' i) : ptrs q n = ptrs q' n := List.map_congr_left fun i hi => by rw [h i (by simpa using hi)]

/-- The links of a node: n of them, in the order made. -/
structure Links (L : (Nat → Int) → List Value) (w : World) (B N : Nat) (lv : Value) (n : Nat) (q : Nat → Nat) (ad : Nat → Nat → Int) (kn : Nat → Bool) (st : Nat → Int) : Prop where
  own : w.ownsRow B 49 1 lv n (ptrs q n)
  far : lv.ownBlock ≠ some N
  lk : ∀ i, i < n → LinkAt L w (q i) (i : Int) (ad i) (kn i) (st i)
  ne : ∀ i, i < n → q i ≠ N ∧ some (q i) ≠ lv.ownBlock ∧ B ≤ q i
/-- Where every block but the node's own, and the new ones, is as it was. -/
theorem Links.same {L : (Nat → Int) → List Value} {w w' : World} {B N : Nat} {lv : Value} {n : Nat} {q : Nat → Nat} {ad : Nat → Nat → Int} {kn : Nat → Bool} {st : Nat → Int} (h : Links L w B N lv n q ad kn st) (k : ∀ b, b < w.heap.size → b ≠ N → w'.heap[b]? = w.heap[b]?) : Links L w' B N lv n q ad kn st := by
  refine ⟨⟨h.own.1, ?_⟩, h.far, fun i hi => (h.lk i hi).same (k _ (h.lk i hi).lt (h.ne i hi).1), h.ne⟩
  rcases h.own.2 with a | ⟨g, cap, cur, hv, hb, hg, rest⟩
  · exact .inl a
  · refine .inr ⟨g, cap, cur, hv, hb, ?_, rest⟩
    rw [k g (Array.getElem?_eq_some_iff.1 hg).1 (fun e => h.far (by rw [hv]; simp [Value.ownBlock, e]))]
    exact hg
theorem Links.below {L : (Nat → Int) → List Value} {w w' : World} {B N : Nat} {lv : Value} {n : Nat} {q : Nat → Nat} {ad : Nat → Nat → Int} {kn : Nat → Bool} {st : Nat → Int} (h : Links L w B N lv n q ad kn st) (k : Below w.heap.size w w') : Links L w' B N lv n q ad kn st := h.same fun b hb _ => k.block b hb
theorem Links.only {L : (Nat → Int) → List Value} {w w' : World} {B N o m : Nat} {lv : Value} {n : Nat} {q : Nat → Nat} {ad : Nat → Nat → Int} {kn : Nat → Bool} {st : Nat → Int} (h : Links L w B N lv n q ad kn st) (k : Only N o m w w') : Links L w' B N lv n q ad kn st := h.same fun b hb hn => k.block b hb hn

section
variable {ops : Array Oper} {rest : List Oper} {a : Act} {w : World} {Q : Exit → Act → World → Prop}
theorem D_build81 (k : Nat) {x : Operand} {ty : TypeId} {pos : String} {after : Array Edge} {L : (Nat → Int) → List Value} (HL : IsL L) (r : Nat → Int) (hx : a.eval x = .agg (L r).toArray)
    (h : wpList Try.prog ops Q rest (a.put (some k) (.agg (nodeL L r).toArray)) w) : wpList Try.prog ops Q ({ dst := some k, op := .build 81 #[(1, x)], type := ty, pos := pos, after := after, guard := none } :: rest) a w := by
  refine wpList_plain rfl fun K' hK' => ?_
  have e : (#[(1, x)] : Array (Nat × Operand)).map (fun (i, x) => (i, a.eval x)) = #[(1, .agg (L r).toArray)] := by simp [hx]
  unfold Oper.wp
  simp only [execOp, e, run_build81 HL, Sem.run_bind, Result.andThen_ok, Sem.run_pure]
  exact hK' _ _ h
end

set_option maxHeartbeats 1000000 in
theorem newNode_any {L : (Nat → Int) → List Value} (HL : IsL L) (r : Nat → Int) (w : World) :
    Calls Try.prog 18 #[.agg (L r).toArray] w fun e w' => ∃ N, e = .returned (.pointer (some ⟨N, 0, none⟩)) ∧ w.heap.size ≤ N ∧ NodeM L w' N r (.slice none 0 0) ∧ Below w.heap.size w w' := by
  go_enter Try.func18, Try.ntmps18
  go_wp2_with (first | ((with_reducible refine D_box 30 1 (L r) ?_ ?_); (rfl); (intro p1 w1 g1 l1 m1 B1)) | ((with_reducible refine D_load 30 3 ta30 (L r) (L_len HL _) p1 0 ?_ ?_ ?_); (rfl); (exact m1)) | ((with_reducible refine D_build81 4 HL r ?_ ?_); (rfl)))
  go_ret
  exact ⟨w1.heap.size, rfl, B1.size, NodeM.of_mem HL (Mem.new w1 _ 81 rfl) (fun j => frozen_of_row _ _ j _ _ (heap_alloc_new w1 _)), bl B1 ((Below.refl _ _).alloc (Nat.le_refl _) _)⟩
end Go.Proofs.Qxb6609493a
