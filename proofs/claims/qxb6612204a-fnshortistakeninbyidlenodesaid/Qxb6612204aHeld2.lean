import Derived.Test.Qxb6612204aHeld
namespace Go.Proofs.Qxb6612204a
open Go.RowKit

section
variable {ops : Array Oper} {Q : Exit → Act → World → Prop} {S : World → Prop} {fuel : Nat} {listed : Array Bool} {a : Act} {w : World}

/-- The store of a whole array, alone ready. -/
theorem H_store (i k k' : Nat) {ty : TypeId} {pos : String} {after : Array Edge} {L : (Nat → Int) → List Value} (HL : IsL L) (b o : Nat) (r r0 : Nat → Int)
    (hi : ops[i]? = some { dst := none, op := .store 22 (.tmp k) (.tmp k'), type := ty, pos := pos, after := after, guard := none }) (hr : Region.ready .any ops listed = [i])
    (hx : a.eval (.tmp k) = .pointer (some ⟨b, o, none⟩)) (hy : a.eval (.tmp k') = .agg (L r).toArray) (h0 : Regs w b o r0)
    (h : ∀ w', Regs w' b o r → Only b o 1024 w w' → S w' ∧ wpAnyH Try.prog .any ops Q S fuel (listed.setIfInBounds i true) a w') : wpAnyH Try.prog .any ops Q S (fuel + 1) listed a w := by
  refine wpAnyH_ready (rs := [i]) hr (by simp) ?_
  refine AllReadyH.cons hi (fun K hK => ?_) AllReadyH.nil
  rw [if_pos (by rfl)]
  rw [HL r] at hy
  have e1 : (lst r).toArray.toList = lst r := by simp
  have e2 : (lst r).toArray.size = 1024 := by rw [List.size_toArray, lst_length]
  refine wp_store_mid 22 (.tmp k) (.tmp k') rfl b o (lst r).toArray hx hy ?_ ?_ (all_oneCell_toArray (lst_one r)) ?_
  · rw [e2]; exact h0.there
  · rw [e2]; exact info22
  · rw [e1]
    have h3 := World.rangeAt_setCells_same w b o (lst r) (by rw [lst_length]; exact h0.there)
    have h4 := Only.setCells b (lst r) o w
    rw [lst_length] at h4
    obtain ⟨s1, s2⟩ := h _ (Regs.mk h3 (World.there_setCells h0.there b o _)) h4
    exact hK.out _ _ s1 (fun _ => s2)

/-- The store of two numbers, alone ready. -/
theorem H_store2 (i k k' : Nat) {ty : TypeId} {pos : String} {after : Array Edge} (b o : Nat) (u v u0 v0 : Int)
    (hi : ops[i]? = some { dst := none, op := .store 24 (.tmp k) (.tmp k'), type := ty, pos := pos, after := after, guard := none }) (hr : Region.ready .any ops listed = [i])
    (hx : a.eval (.tmp k) = .pointer (some ⟨b, o, none⟩)) (hy : a.eval (.tmp k') = .agg #[.int .u64 u, .int .u64 v]) (h0 : w.cell? ⟨b, o, none⟩ = some (.int .u64 u0)) (h1 : w.cell? ⟨b, o + 1, none⟩ = some (.int .u64 v0)) (hf : ∀ j, w.frozen? ⟨b, j, none⟩ = false)
    (h : ∀ w', w'.cell? ⟨b, o, none⟩ = some (.int .u64 u) → w'.cell? ⟨b, o + 1, none⟩ = some (.int .u64 v) → Only b o 2 w w' → S w' ∧ wpAnyH Try.prog .any ops Q S fuel (listed.setIfInBounds i true) a w') : wpAnyH Try.prog .any ops Q S (fuel + 1) listed a w := by
  refine wpAnyH_ready (rs := [i]) hr (by simp) ?_
  refine AllReadyH.cons hi (fun K hK => ?_) AllReadyH.nil
  rw [if_pos (by rfl)]
  have ht : w.there b o 2 := by
    intro j hj
    refine ⟨?_, hf _⟩
    match j, hj with
    | 0, _ => rw [Nat.add_zero, h0]; rfl
    | 1, _ => rw [h1]; rfl
  refine wp_store_mid 24 (.tmp k) (.tmp k') rfl b o #[.int .u64 u, .int .u64 v] hx hy ht (by kernel_rfl) (by simp [Value.oneCell']) ?_
  have h3 := World.rangeAt_setCells_same w b o [.int .u64 u, .int .u64 v] ht
  have h4 := Only.setCells b [.int .u64 u, .int .u64 v] o w
  obtain ⟨s1, s2⟩ := h _ (h3 0 _ rfl) (h3 1 _ rfl) h4
  exact hK.out _ _ s1 (fun _ => s2)
end
end Go.Proofs.Qxb6612204a
