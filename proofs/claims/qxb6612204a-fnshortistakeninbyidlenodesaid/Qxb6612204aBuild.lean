import Derived.Test.Qxb6612204aArr2
namespace Go.Proofs.Qxb6612204a
open Go.RowKit

/-! ### What 'build' makes -/
theorem fold_set (off : Nat) : ∀ (v : List Value) (k : Nat) (cs : Array Value), ((v.zipIdx k).foldl (fun cs (p : Value × Nat) => cs.setIfInBounds (off + p.2) p.1) cs).size = cs.size ∧
    ∀ i, ((v.zipIdx k).foldl (fun cs (p : Value × Nat) => cs.setIfInBounds (off + p.2) p.1) cs)[i]? = if off + k ≤ i ∧ i < off + k + v.length ∧ i < cs.size then v[i - (off + k)]? else cs[i]?
  | [], k, cs => ⟨rfl, fun i => by simp; omega⟩
  | x :: v, k, cs => by
    obtain ⟨h1, h2⟩ := fold_set off v (k + 1) (cs.setIfInBounds (off + k) x)
    rw [List.zipIdx_cons, List.foldl_cons]
    refine ⟨by rw [h1]; simp, fun i => ?_⟩
    rw [h2 i]
    simp only [Array.size_setIfInBounds, List.length_cons]
    by_cases c1 : off + (k + 1) ≤ i ∧ i < off + (k + 1) + v.length ∧ i < cs.size
    · rw [if_pos c1, if_pos (by omega), show i - (off + k) = (i - (off + (k + 1))) + 1 by omega]
      simp
    · rw [if_neg c1]
      by_cases c2 : i = off + k
      · subst c2
        by_cases c3 : off + k < cs.size
        · rw [if_pos (by omega)]
          simp [c3]
        · rw [if_neg (by omega)]
          rw [Array.getElem?_eq_none (by simp; omega), Array.getElem?_eq_none (by omega)]
      · rw [if_neg (by omega), Array.getElem?_setIfInBounds_ne (by omega)]

/-- One part laid over the cells. -/
def lay (cs : Array Value) (off : Nat) (v : Array Value) : Array Value := v.zipIdx.foldl (fun cs (c, j) => cs.setIfInBounds (off + j) c) cs
theorem lay_eq (cs : Array Value) (off : Nat) (v : Array Value) : lay cs off v = (v.toList.zipIdx 0).foldl (fun cs (p : Value × Nat) => cs.setIfInBounds (off + p.2) p.1) cs := by
  unfold lay
  rw [← Array.foldl_toList]
  simp
theorem lay_size (cs : Array Value) (off : Nat) (v : Array Value) : (lay cs off v).size = cs.size := by rw [lay_eq]; exact (fold_set off v.toList 0 cs).1
theorem lay_get (cs : Array Value) (off : Nat) (v : Array Value) (i : Nat) : (lay cs off v)[i]? = if off ≤ i ∧ i < off + v.size ∧ i < cs.size then v[i - off]? else cs[i]? := by
  rw [lay_eq, (fold_set off v.toList 0 cs).2 i]
  simp

/-- 'fill', one part at a time. -/
theorem fill_cons {place : Nat → Option (Nat × Nat)} {cs : Array Value} {i off size : Nat} {v : Value} {rest : List (Nat × Value)} (h : place i = some (off, size)) (hs : v.cells.size = size) (hf : off + size ≤ cs.size) :
    Instr.fill place cs ((i, v) :: rest) = Instr.fill place (lay cs off v.cells) rest := by
  rw [Instr.fill, h]
  simp only
  rw [if_neg (by simp; omega)]
  rfl
theorem fill_nil {place : Nat → Option (Nat × Nat)} {cs : Array Value} : Instr.fill place cs [] = some cs := rfl

theorem zeroAny {t : TypeId} {n : Nat} (h : (Try.prog.info? t).map (fun i => i.zero.map fun z => z.cells.size) = some (some n)) (w : World) : ∃ z, (zeroValue t).run Try.prog w = .ok z w ∧ z.cells.size = n := by
  obtain ⟨i, hi, hz⟩ := Option.map_eq_some_iff.1 h
  obtain ⟨z, hz1, hz2⟩ := Option.map_eq_some_iff.1 hz
  exact ⟨z, by simp [zeroValue, typeInfo, hi, hz1], hz2⟩
theorem zs57 : (Try.prog.info? 57).map (fun i => i.zero.map fun z => z.cells.size) = some (some 1024) := by kernel_rfl
theorem zs61 : (Try.prog.info? 61).map (fun i => i.zero.map fun z => z.cells.size) = some (some 2052) := by kernel_rfl
theorem zs64 : (Try.prog.info? 64).map (fun i => i.zero.map fun z => z.cells.size) = some (some 3080) := by kernel_rfl

theorem cells_agg (cs : Array Value) : (Value.agg cs).cells = cs := rfl
theorem hl22 (r : Nat → Int) : (lst r).toArray.size = 1024 := by rw [List.size_toArray, lst_length]

/-- A part laid right behind what is laid already. -/
theorem lay_append (X Z A : Array Value) (off : Nat) (ho : off = X.size) (h : A.size ≤ Z.size) : lay (X ++ Z) off A = (X ++ A) ++ Z.extract A.size Z.size := by
  subst ho
  apply Array.ext_getElem?
  intro i
  rw [lay_get, Array.getElem?_append, Array.getElem?_append, Array.getElem?_append, Array.getElem?_extract]
  simp only [Array.size_append]
  by_cases c1 : i < X.size
  · rw [if_neg (by omega), if_pos c1, if_pos (by omega), if_pos c1]
  · by_cases c2 : i < X.size + A.size
    · rw [if_pos (by omega), if_pos c2, if_neg c1]
    · rw [if_neg (by omega), if_neg c1, if_neg c2]
      split
      · congr 1; omega
      · rw [Array.getElem?_eq_none (by omega)]

theorem lay_last (X Z A : Array Value) (off : Nat) (ho : off = X.size) (h : A.size = Z.size) : lay (X ++ Z) off A = X ++ A := by
  rw [lay_append X Z A off ho (by omega)]
  simp [h]

/-- Four parts. -/
theorem fill4 (pl : Nat → Option (Nat × Nat)) (z A B C D : Array Value) (va vb vc vd : Value) (ha : va.cells = A) (hb : vb.cells = B) (hc : vc.cells = C) (hd : vd.cells = D)
    (p0 : pl 0 = some (0, A.size)) (p1 : pl 1 = some (A.size, B.size)) (p2 : pl 2 = some (A.size + B.size, C.size)) (p3 : pl 3 = some (A.size + B.size + C.size, D.size)) (hz : z.size = A.size + B.size + C.size + D.size) :
    Instr.fill pl z [(0, va), (1, vb), (2, vc), (3, vd)] = some (A ++ B ++ C ++ D) := by
  subst ha hb hc hd
  rw [fill_cons p0 rfl (by omega), fill_cons p1 rfl (by rw [lay_size]; omega), fill_cons p2 rfl (by rw [lay_size, lay_size]; omega), fill_cons p3 rfl (by rw [lay_size, lay_size, lay_size]; omega), fill_nil]
  have e0 : lay z 0 va.cells = va.cells ++ z.extract va.cells.size z.size := by
    have := lay_append #[] z va.cells 0 rfl (by omega)
    simpa using this
  rw [e0, lay_append _ _ _ _ rfl (by simp; omega), lay_append _ _ _ _ (by simp) (by simp; omega), lay_last _ _ _ _ (by simp; omega) (by simp; omega)]

/-- Six parts. -/
theorem fill6 (pl : Nat → Option (Nat × Nat)) (z A B C D E F : Array Value) (va vb vc vd ve vf : Value) (ha : va.cells = A) (hb : vb.cells = B) (hc : vc.cells = C) (hd : vd.cells = D) (he : ve.cells = E) (hf : vf.cells = F)
    (p0 : pl 0 = some (0, A.size)) (p1 : pl 1 = some (A.size, B.size)) (p2 : pl 2 = some (A.size + B.size, C.size)) (p3 : pl 3 = some (A.size + B.size + C.size, D.size)) (p4 : pl 4 = some (A.size + B.size + C.size + D.size, E.size)) (p5 : pl 5 = some (A.size + B.size + C.size + D.size + E.size, F.size))
    (hz : z.size = A.size + B.size + C.size + D.size + E.size + F.size) :
    Instr.fill pl z [(0, va), (1, vb), (2, vc), (3, vd), (4, ve), (5, vf)] = some (A ++ B ++ C ++ D ++ E ++ F) := by
  subst ha hb hc hd he hf
  rw [fill_cons p0 rfl (by omega), fill_cons p1 rfl (by rw [lay_size]; omega), fill_cons p2 rfl (by rw [lay_size, lay_size]; omega), fill_cons p3 rfl (by rw [lay_size, lay_size, lay_size]; omega),
    fill_cons p4 rfl (by rw [lay_size, lay_size, lay_size, lay_size]; omega), fill_cons p5 rfl (by rw [lay_size, lay_size, lay_size, lay_size, lay_size]; omega), fill_nil]
  have e0 : lay z 0 va.cells = va.cells ++ z.extract va.cells.size z.size := by
    have := lay_append #[] z va.cells 0 rfl (by omega)
    simpa using this
  rw [e0, lay_append _ _ _ _ rfl (by simp; omega), lay_append _ _ _ _ (by simp) (by simp; omega), lay_append _ _ _ _ (by simp; omega) (by simp; omega), lay_append _ _ _ _ (by simp; omega) (by simp; omega), lay_last _ _ _ _ (by simp; omega) (by simp; omega)]

theorem fill1 (pl : Nat → Option (Nat × Nat)) (z A : Array Value) (va : Value) (ha : va.cells = A) (p0 : pl 0 = some (0, A.size)) (hz : z.size = A.size) : Instr.fill pl z [(0, va)] = some A := by
  subst ha
  rw [fill_cons p0 rfl (by omega), fill_nil]
  have := lay_last #[] z va.cells 0 rfl hz.symm
  simp at this
  rw [this]
end Go.Proofs.Qxb6612204a
