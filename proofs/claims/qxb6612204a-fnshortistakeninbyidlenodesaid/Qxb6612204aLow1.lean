import Derived.Test.Qxb6612204aSh2
namespace Go.Proofs.Qxb6612204a
open Go.RowKit

set_option maxHeartbeats 1000000 in
theorem in3_0 (x y z v : Int) (w : World) :
    Calls Try.prog 46 #[.agg #[.int .u64 x, .int .u64 y, .int .u64 z], .int .i64 0, .int .u64 v] w fun e w' => e = .returned (.bool false) ∧ Below w.heap.size w w' := by
  go_enter Try.func46, Try.ntmps46
  go_wp2_with fail
  refine wp_loop_rounds 1 ?_
  rw [rounds_succ]
  go_wp2_with fail
  go_ret
  exact ⟨rfl, (Below.refl _ _).alloc (Nat.le_refl _) _⟩

set_option maxHeartbeats 1000000 in
theorem in3_1_yes (y z v : Int) (w : World) :
    Calls Try.prog 46 #[.agg #[.int .u64 v, .int .u64 y, .int .u64 z], .int .i64 1, .int .u64 v] w fun e w' => e = .returned (.bool true) ∧ Below w.heap.size w w' := by
  go_enter Try.func46, Try.ntmps46
  go_wp2_with fail
  refine wp_loop_rounds 1 ?_
  rw [rounds_succ]
  go_wp2_with fail
  go_ret
  exact ⟨rfl, (Below.refl _ _).alloc (Nat.le_refl _) _⟩

set_option maxHeartbeats 1000000 in
theorem in3_1_no (x y z v : Int) (w : World) (hne : (x == v) = false) :
    Calls Try.prog 46 #[.agg #[.int .u64 x, .int .u64 y, .int .u64 z], .int .i64 1, .int .u64 v] w fun e w' => e = .returned (.bool false) ∧ Below w.heap.size w w' := by
  have hne' : ¬ x = v := by simpa using hne
  go_enter Try.func46, Try.ntmps46
  go_wp2_with fail
  refine wp_loop_rounds 2 ?_
  rw [rounds_succ]
  go_wp2_with fail
  rw [rounds_succ]
  go_wp2_with fail
  go_ret
  exact ⟨rfl, (Below.refl _ _).alloc (Nat.le_refl _) _⟩

/-- The three blocks of zzLowest. -/
structure Lw (w W : World) (f0 f1 x y z : Int) : Prop where
  f0 : W.cell? ⟨w.heap.size, 0, none⟩ = some (.int .u64 f0)
  f1 : W.cell? ⟨w.heap.size, 1, none⟩ = some (.int .u64 f1)
  r0 : W.cell? ⟨w.heap.size + 1, 0, none⟩ = some (.int .u64 0)
  r1 : W.cell? ⟨w.heap.size + 1, 1, none⟩ = some (.int .u64 0)
  x : W.cell? ⟨w.heap.size + 1 + 1, 0, none⟩ = some (.int .u64 x)
  y : W.cell? ⟨w.heap.size + 1 + 1, 1, none⟩ = some (.int .u64 y)
  z : W.cell? ⟨w.heap.size + 1 + 1, 2, none⟩ = some (.int .u64 z)
  fr : ∀ j, W.frozen? ⟨w.heap.size + 1, j, none⟩ = false
  fb : ∀ j, W.frozen? ⟨w.heap.size + 1 + 1, j, none⟩ = false
  bel : Below w.heap.size w W

theorem Lw.mk' (w : World) (f0 f1 : Int) : Lw w (((w.alloc (.cells #[.int .u64 f0, .int .u64 f1] 24)).alloc (.cells #[.int .u64 0, .int .u64 0] 24)).alloc (.cells #[.int .u64 0, .int .u64 0, .int .u64 0] 78)) f0 f1 0 0 0 := by
  have b1 : (((w.alloc (.cells #[.int .u64 f0, .int .u64 f1] 24)).alloc (.cells #[.int .u64 0, .int .u64 0] 24)).alloc (.cells #[.int .u64 0, .int .u64 0, .int .u64 0] 78)).heap[w.heap.size]? = some (.cells #[.int .u64 f0, .int .u64 f1] 24) := by
    rw [Below.heap_alloc _ _ _ (by simp; omega), Below.heap_alloc _ _ _ (by simp)]
    exact new_blk _ _ rfl
  have b2 : (((w.alloc (.cells #[.int .u64 f0, .int .u64 f1] 24)).alloc (.cells #[.int .u64 0, .int .u64 0] 24)).alloc (.cells #[.int .u64 0, .int .u64 0, .int .u64 0] 78)).heap[w.heap.size + 1]? = some (.cells #[.int .u64 0, .int .u64 0] 24) := by
    rw [Below.heap_alloc _ _ _ (by simp)]
    exact new_blk _ _ (by simp)
  have b3 : (((w.alloc (.cells #[.int .u64 f0, .int .u64 f1] 24)).alloc (.cells #[.int .u64 0, .int .u64 0] 24)).alloc (.cells #[.int .u64 0, .int .u64 0, .int .u64 0] 78)).heap[w.heap.size + 1 + 1]? = some (.cells #[.int .u64 0, .int .u64 0, .int .u64 0] 78) := new_blk _ _ (by simp)
  exact ⟨cell_of_row _ _ 0 _ _ _ b1, cell_of_row _ _ 1 _ _ _ b1, cell_of_row _ _ 0 _ _ _ b2, cell_of_row _ _ 1 _ _ _ b2, cell_of_row _ _ 0 _ _ _ b3, cell_of_row _ _ 1 _ _ _ b3, cell_of_row _ _ 2 _ _ _ b3, fun j => frozen_of_row _ _ j _ _ b2, fun j => frozen_of_row _ _ j _ _ b3,
    (((Below.refl _ _).alloc (Nat.le_refl _) _).alloc (by simp) _).alloc (by simp; omega) _⟩

theorem Lw.below {w W W' : World} {f0 f1 x y z : Int} (h : Lw w W f0 f1 x y z) (k : Below W.heap.size W W') : Lw w W' f0 f1 x y z :=
  have h1 : w.heap.size + 1 < W.heap.size := World.block_lt_of_cell? W _ h.r0
  have h2 : w.heap.size + 1 + 1 < W.heap.size := World.block_lt_of_cell? W _ h.x
  ⟨cell_below h.f0 k, cell_below h.f1 k, cell_below h.r0 k, cell_below h.r1 k, cell_below h.x k, cell_below h.y k, cell_below h.z k,
    fun j => (k.frozen (p := ⟨w.heap.size + 1, j, none⟩) h1).trans (h.fr j), fun j => (k.frozen (p := ⟨w.heap.size + 1 + 1, j, none⟩) h2).trans (h.fb j), h.bel.trans (k.mono h.bel.size)⟩

theorem Lw.set_x {w W : World} {f0 f1 x y z : Int} (h : Lw w W f0 f1 x y z) (v : Int) : Lw w (W.setCell ⟨w.heap.size + 1 + 1, 0, none⟩ (.int .u64 v)) f0 f1 v y z :=
  ⟨by rw [World.cell?_setCell_other _ _ _ _ (by intro q; injection q; omega)]; exact h.f0, by rw [World.cell?_setCell_other _ _ _ _ (by intro q; injection q; omega)]; exact h.f1, by rw [World.cell?_setCell_other _ _ _ _ (by intro q; injection q; omega)]; exact h.r0, by rw [World.cell?_setCell_other _ _ _ _ (by intro q; injection q; omega)]; exact h.r1,
    World.cell?_setCell_same _ _ _ h.x, by rw [World.cell?_setCell_other _ _ _ _ (by intro q; injection q; omega)]; exact h.y, by rw [World.cell?_setCell_other _ _ _ _ (by intro q; injection q; omega)]; exact h.z,
    fun j => (World.frozen?_setCell _ _ _ _).trans (h.fr j), fun j => (World.frozen?_setCell _ _ _ _).trans (h.fb j), h.bel.trans ((Only.setCell (n := 1) 0 _ (Nat.le_refl _) (by omega)).below (by omega) h.bel.size)⟩
theorem Lw.set_y {w W : World} {f0 f1 x y z : Int} (h : Lw w W f0 f1 x y z) (v : Int) : Lw w (W.setCell ⟨w.heap.size + 1 + 1, 1, none⟩ (.int .u64 v)) f0 f1 x v z :=
  ⟨by rw [World.cell?_setCell_other _ _ _ _ (by intro q; injection q; omega)]; exact h.f0, by rw [World.cell?_setCell_other _ _ _ _ (by intro q; injection q; omega)]; exact h.f1, by rw [World.cell?_setCell_other _ _ _ _ (by intro q; injection q; omega)]; exact h.r0, by rw [World.cell?_setCell_other _ _ _ _ (by intro q; injection q; omega)]; exact h.r1,
    by rw [World.cell?_setCell_other _ _ _ _ (by intro q; injection q; omega)]; exact h.x, World.cell?_setCell_same _ _ _ h.y, by rw [World.cell?_setCell_other _ _ _ _ (by intro q; injection q; omega)]; exact h.z,
    fun j => (World.frozen?_setCell _ _ _ _).trans (h.fr j), fun j => (World.frozen?_setCell _ _ _ _).trans (h.fb j), h.bel.trans ((Only.setCell (n := 1) 1 _ (Nat.le_refl _) (by omega)).below (by omega) h.bel.size)⟩

theorem two_set {A : World} {b : Nat} {p q u0 u1 : Value} (h0 : A.cell? ⟨b, 0, none⟩ = some u0) (h1 : A.cell? ⟨b, 1, none⟩ = some u1) :
    ((A.setCell ⟨b, 0, none⟩ p).setCell ⟨b, 1, none⟩ q).cell? ⟨b, 0, none⟩ = some p ∧ ((A.setCell ⟨b, 0, none⟩ p).setCell ⟨b, 1, none⟩ q).cell? ⟨b, 1, none⟩ = some q :=
  ⟨by rw [World.cell?_setCell_other _ _ _ _ (by intro q; injection q; omega)]; exact World.cell?_setCell_same _ _ _ h0, World.cell?_setCell_same _ _ _ (by rw [World.cell?_setCell_other _ _ _ _ (by intro q; injection q; omega)]; exact h1)⟩
theorem below_setCell {w A : World} (h : Below w.heap.size w A) {b j : Nat} {v : Value} (hb : w.heap.size ≤ b) : Below w.heap.size w (A.setCell ⟨b, j, none⟩ v) :=
  h.trans ((Only.setCell (n := 1) j v (Nat.le_refl _) (by omega)).below hb h.size)
theorem cell_far {A : World} {b b' j j' : Nat} {v u : Value} (h : A.cell? ⟨b, j, none⟩ = some v) (hne : ¬ b' = b) : (A.setCell ⟨b', j', none⟩ u).cell? ⟨b, j, none⟩ = some v := by
  rw [World.cell?_setCell_other _ _ _ _ (by intro q; injection q with q1; exact hne q1)]; exact h

/-- Two results: two ranks in memory, a number. -/
theorem results2 {fn : Func} {p u : Tmp} (h : fn.results = #[.cell p 24, .tmp u]) (tmps : Array Value) (w : World) (b : Nat) (x y n : Value)
    (h0 : tmps.getD p undef = .pointer (some ⟨b, 0, none⟩)) (h1 : tmps.getD u undef = n) (c0 : w.cell? ⟨b, 0, none⟩ = some x) (c1 : w.cell? ⟨b, 1, none⟩ = some y) :
    (results fn tmps).run Try.prog w = .ok (.tuple #[.agg #[x, y], n]) w := by
  have l2 := run_loadVar_mid (P := Try.prog) w b 0 24 [x, y] (.array 2 23) (fun j c hc => by
    match j, hc with
    | 0, hc => simp at hc; subst hc; exact c0
    | 1, hc => simp at hc; subst hc; exact c1
    | j + 2, hc => simp at hc) Try.underlying24 rfl (by kernel_rfl)
  have q0 : tmps[p]?.getD undef = .pointer (some ⟨b, 0, none⟩) := by simpa using h0
  have q1 : tmps[u]?.getD undef = n := by simpa using h1
  simp [results, h, q0, q1, asAddr, l2]

set_option maxHeartbeats 4000000 in
set_option maxRecDepth 100000 in
theorem low0 (f0 f1 own : Int) (w : World) :
    Calls Try.prog 22 #[.agg #[.int .u64 f0, .int .u64 f1], .int .i64 0, .int .u64 own] w fun e w' => e = .returned (.tuple #[.agg #[.int .u64 own, .int .u64 0], .int .i64 1]) ∧ Below w.heap.size w w' := by
  obtain ⟨W, hW⟩ : ∃ W, W = (((w.alloc (.cells #[.int .u64 f0, .int .u64 f1] 24)).alloc (.cells #[.int .u64 0, .int .u64 0] 24)).alloc (.cells #[.int .u64 0, .int .u64 0, .int .u64 0] 78)) := ⟨_, rfl⟩
  have H : Hid (Lw w W f0 f1 0 0 0) := by rw [hW]; exact Lw.mk' w f0 f1
  have HW : Hid (W = (((w.alloc (.cells #[.int .u64 f0, .int .u64 f1] 24)).alloc (.cells #[.int .u64 0, .int .u64 0] 24)).alloc (.cells #[.int .u64 0, .int .u64 0, .int .u64 0] 78))) := hW
  clear hW
  go_enter Try.func22, Try.ntmps22
  go_wp2_with fail
  rw [← HW.out]
  clear HW
  refine wp_loop_rounds 1 ?_
  rw [rounds_succ]
  obtain ⟨g0, g1, g2⟩ : W.cell? ⟨w.heap.size + 1 + 1, 0, none⟩ = some (.int .u64 0) ∧ W.cell? ⟨w.heap.size + 1 + 1, 1, none⟩ = some (.int .u64 0) ∧ W.cell? ⟨w.heap.size + 1 + 1, 2, none⟩ = some (.int .u64 0) := ⟨H.out.x, H.out.y, H.out.z⟩
  go_wp2_with fail
  refine (in3_0 0 0 0 own W).mono ?_
  rintro x W1 ⟨rfl, hb⟩
  have H1 : Hid (Lw w W1 f0 f1 0 0 0) := H.out.below hb
  clear hb g0 g1 g2 H
  obtain ⟨g0, fb⟩ := And.intro H1.out.x H1.out.fb
  go_wp2_with fail
  refine wp_loop_rounds 1 ?_
  rw [rounds_succ]
  go_wp2_with fail
  have hm : (W1.setCell ⟨w.heap.size + 1 + 1, 0, none⟩ (.int .u64 own)).heap.size = W1.heap.size := by simp [World.setCell]
  obtain ⟨V, hV⟩ : ∃ V, V = (W1.setCell ⟨w.heap.size + 1 + 1, 0, none⟩ (.int .u64 own)).alloc (.cells #[.int .u64 0, .int .u64 0] 24) := ⟨_, rfl⟩
  rw [← hV]
  have HL0 := H1.out.set_x own
  have HLV : Hid (Lw w V f0 f1 own 0 0) := by
    show Lw _ _ _ _ _ _ _
    rw [hV]; exact HL0.below ((Below.refl _ _).alloc (Nat.le_refl _) _)
  have bV : V.heap[W1.heap.size]? = some (.cells #[.int .u64 0, .int .u64 0] 24) := by rw [hV]; exact new_blk _ _ hm.symm
  have o0 := cell_of_row V _ 0 _ _ _ bV
  have o1 := cell_of_row V _ 1 _ _ _ bV
  simp at o0 o1
  have fo : ∀ j, V.frozen? ⟨W1.heap.size, j, none⟩ = false := fun j => frozen_of_row V _ j _ _ bV
  have hlt : w.heap.size + 1 + 1 < W1.heap.size := by rw [← hm]; exact World.block_lt_of_cell? _ _ HL0.x
  have hn1 : ¬ W1.heap.size = w.heap.size + 1 := by omega
  have hn2 : ¬ W1.heap.size = w.heap.size + 1 + 1 := by omega
  obtain ⟨y0, y1, y2, y3, y4⟩ := And.intro HLV.out.x (And.intro HLV.out.y (And.intro HLV.out.r0 (And.intro HLV.out.r1 HLV.out.fr)))
  have HBV : Hid (Below w.heap.size w V) := HLV.out.bel
  have HWW : Hid (w.heap.size ≤ W1.heap.size) := by show _ ≤ _; omega
  clear hV HL0 HLV bV hm g0 fb H1
  refine wp_loop_rounds 2 ?_
  rw [rounds_succ]
  go_wp2_with fail
  rw [rounds_succ]
  go_wp2_with fail
  have T := two_set (A := (V.setCell ⟨W1.heap.size, 0, none⟩ (.int .u64 own))) (b := w.heap.size + 1) (p := .int .u64 own) (q := .int .u64 0) (cell_far y2 hn1) (cell_far y3 hn1)
  exact bodyPost_ret (results2 Try.results22 _ _ (w.heap.size + 1) _ _ _ rfl rfl T.1 T.2) rfl ⟨rfl, below_setCell (below_setCell (below_setCell HBV.out HWW.out) (by omega)) (by omega)⟩
set_option maxHeartbeats 4000000 in
set_option maxRecDepth 100000 in
theorem low1_same (f0 f1 : Int) (w : World) :
    Calls Try.prog 22 #[.agg #[.int .u64 f0, .int .u64 f1], .int .i64 1, .int .u64 f0] w fun e w' => e = .returned (.tuple #[.agg #[.int .u64 f0, .int .u64 0], .int .i64 1]) ∧ Below w.heap.size w w' := by
  obtain ⟨W, hW⟩ : ∃ W, W = (((w.alloc (.cells #[.int .u64 f0, .int .u64 f1] 24)).alloc (.cells #[.int .u64 0, .int .u64 0] 24)).alloc (.cells #[.int .u64 0, .int .u64 0, .int .u64 0] 78)) := ⟨_, rfl⟩
  have H : Hid (Lw w W f0 f1 0 0 0) := by rw [hW]; exact Lw.mk' w f0 f1
  have HW : Hid (W = (((w.alloc (.cells #[.int .u64 f0, .int .u64 f1] 24)).alloc (.cells #[.int .u64 0, .int .u64 0] 24)).alloc (.cells #[.int .u64 0, .int .u64 0, .int .u64 0] 78))) := hW
  clear hW
  go_enter Try.func22, Try.ntmps22
  go_wp2_with fail
  rw [← HW.out]
  clear HW
  refine wp_loop_rounds 2 ?_
  rw [rounds_succ]
  go_wp2_with fail
  refine wp_region_held_drew (S := fun w' => Below W.heap.size W w') (by kernel_rfl) ((Below.refl _ _).drew) (fun hHeld => ?_)
  refine H_take 0 26 (.agg #[.int .u64 0, .int .u64 0, .int .u64 0]) rfl rfl (by kernel_rfl) (by kernel_rfl) (by kernel_rfl) (fun _ _ _ h => h) rfl ?_ hHeld ?_
  · intro w' k; obtain ⟨g0, g1, g2, h0, h1, fb⟩ := And.intro (H.out.below k).x (And.intro (H.out.below k).y (And.intro (H.out.below k).z (And.intro (H.out.below k).f0 (And.intro (H.out.below k).f1 (H.out.below k).fb)))); go_simp
  try simp only [Act.put, List.setIfInBounds_toArray, List.set_cons_zero, List.set_cons_succ]
  refine H_move 1 27 (.int .i64 0) rfl (by kernel_rfl) (by kernel_rfl) (by kernel_rfl) (fun _ _ _ h => h) rfl rfl hHeld ?_
  try simp only [Act.put, List.setIfInBounds_toArray, List.set_cons_zero, List.set_cons_succ]
  refine H_move 2 28 (.int .i64 0) rfl (by kernel_rfl) (by kernel_rfl) (by kernel_rfl) (fun _ _ _ h => h) rfl rfl hHeld ?_
  try simp only [Act.put, List.setIfInBounds_toArray, List.set_cons_zero, List.set_cons_succ]
  refine H_take 3 29 (.pointer (some ⟨w.heap.size, 0, none⟩)) rfl rfl (by kernel_rfl) (by kernel_rfl) (by kernel_rfl) (fun _ _ _ h => h) rfl ?_ hHeld ?_
  · intro w' _; go_simp
  try simp only [Act.put, List.setIfInBounds_toArray, List.set_cons_zero, List.set_cons_succ]
  refine H_take 4 30 (.int .u64 f0) rfl rfl (by kernel_rfl) (by kernel_rfl) (by kernel_rfl) (fun _ _ _ h => h) rfl ?_ hHeld ?_
  · intro w' k; obtain ⟨g0, g1, g2, h0, h1, fb⟩ := And.intro (H.out.below k).x (And.intro (H.out.below k).y (And.intro (H.out.below k).z (And.intro (H.out.below k).f0 (And.intro (H.out.below k).f1 (H.out.below k).fb)))); go_simp
  try simp only [Act.put, List.setIfInBounds_toArray, List.set_cons_zero, List.set_cons_succ]
  refine wpAnyH_ready (rs := [5]) (by kernel_rfl) (by simp) ?_
  refine AllReadyH.cons rfl (fun K hK => ?_) AllReadyH.nil
  go_simp
  refine (in3_0 0 0 0 f0 _).mono ?_
  rintro x Wc ⟨rfl, hbc⟩
  refine hK.out _ _ (hHeld.trans (hbc.mono hHeld.size)) (fun hHeld => ?_)
  clear hK K
  try simp only [Act.put, List.setIfInBounds_toArray, List.set_cons_zero, List.set_cons_succ]
  refine H_take 6 32 (.bool true) rfl rfl (by kernel_rfl) (by kernel_rfl) (by kernel_rfl) (fun _ _ _ h => h) rfl ?_ hHeld ?_
  · intro w' _; go_simp
  try simp only [Act.put, List.setIfInBounds_toArray, List.set_cons_zero, List.set_cons_succ]
  refine wpAnyH_done (by kernel_rfl) ?_ _
  have HC : Hid (Lw w Wc f0 f1 0 0 0) := H.out.below hHeld
  clear hHeld hbc H
  obtain ⟨g0, g1, g2, h0, h1, fb⟩ := And.intro HC.out.x (And.intro HC.out.y (And.intro HC.out.z (And.intro HC.out.f0 (And.intro HC.out.f1 HC.out.fb))))
  go_wp2_with fail
  rw [rounds_succ]
  go_wp2_with fail
  refine (in3_1_yes 0 0 f0 _).mono ?_
  rintro x W1 ⟨rfl, hb⟩
  have H1 : Hid (Lw w W1 f0 f1 f0 0 0) := (HC.out.set_x f0).below hb
  clear hb g0 g1 g2 h0 h1 fb HC
  go_wp2_with fail
  refine wp_loop_rounds 1 ?_
  rw [rounds_succ]
  go_wp2_with fail
  have hm : (W1).heap.size = W1.heap.size := rfl
  obtain ⟨V, hV⟩ : ∃ V, V = (W1).alloc (.cells #[.int .u64 0, .int .u64 0] 24) := ⟨_, rfl⟩
  rw [← hV]
  have HL0 := H1.out
  have HLV : Hid (Lw w V f0 f1 f0 0 0) := by
    show Lw _ _ _ _ _ _ _
    rw [hV]; exact HL0.below ((Below.refl _ _).alloc (Nat.le_refl _) _)
  have bV : V.heap[W1.heap.size]? = some (.cells #[.int .u64 0, .int .u64 0] 24) := by rw [hV]; exact new_blk _ _ hm.symm
  have o0 := cell_of_row V _ 0 _ _ _ bV
  have o1 := cell_of_row V _ 1 _ _ _ bV
  simp at o0 o1
  have fo : ∀ j, V.frozen? ⟨W1.heap.size, j, none⟩ = false := fun j => frozen_of_row V _ j _ _ bV
  have hlt : w.heap.size + 1 + 1 < W1.heap.size := by rw [← hm]; exact World.block_lt_of_cell? _ _ HL0.x
  have hn1 : ¬ W1.heap.size = w.heap.size + 1 := by omega
  have hn2 : ¬ W1.heap.size = w.heap.size + 1 + 1 := by omega
  obtain ⟨y0, y1, y2, y3, y4⟩ := And.intro HLV.out.x (And.intro HLV.out.y (And.intro HLV.out.r0 (And.intro HLV.out.r1 HLV.out.fr)))
  have HBV : Hid (Below w.heap.size w V) := HLV.out.bel
  have HWW : Hid (w.heap.size ≤ W1.heap.size) := by show _ ≤ _; omega
  clear hV HL0 HLV bV hm H1
  refine wp_loop_rounds 2 ?_
  rw [rounds_succ]
  go_wp2_with fail
  rw [rounds_succ]
  go_wp2_with fail
  have T := two_set (A := (V.setCell ⟨W1.heap.size, 0, none⟩ (.int .u64 f0))) (b := w.heap.size + 1) (p := .int .u64 f0) (q := .int .u64 0) (cell_far y2 hn1) (cell_far y3 hn1)
  exact bodyPost_ret (results2 Try.results22 _ _ (w.heap.size + 1) _ _ _ rfl rfl T.1 T.2) rfl ⟨rfl, below_setCell (below_setCell (below_setCell HBV.out HWW.out) (by omega)) (by omega)⟩
set_option maxHeartbeats 4000000 in
set_option maxRecDepth 100000 in
theorem low1_above (f0 f1 own : Int) (w : World) (hq : f0 < own) :
    Calls Try.prog 22 #[.agg #[.int .u64 f0, .int .u64 f1], .int .i64 1, .int .u64 own] w fun e w' => e = .returned (.tuple #[.agg #[.int .u64 f0, .int .u64 own], .int .i64 2]) ∧ Below w.heap.size w w' := by
  obtain ⟨W, hW⟩ : ∃ W, W = (((w.alloc (.cells #[.int .u64 f0, .int .u64 f1] 24)).alloc (.cells #[.int .u64 0, .int .u64 0] 24)).alloc (.cells #[.int .u64 0, .int .u64 0, .int .u64 0] 78)) := ⟨_, rfl⟩
  have H : Hid (Lw w W f0 f1 0 0 0) := by rw [hW]; exact Lw.mk' w f0 f1
  have HW : Hid (W = (((w.alloc (.cells #[.int .u64 f0, .int .u64 f1] 24)).alloc (.cells #[.int .u64 0, .int .u64 0] 24)).alloc (.cells #[.int .u64 0, .int .u64 0, .int .u64 0] 78))) := hW
  clear hW
  go_enter Try.func22, Try.ntmps22
  go_wp2_with fail
  rw [← HW.out]
  clear HW
  refine wp_loop_rounds 2 ?_
  rw [rounds_succ]
  go_wp2_with fail
  refine wp_region_held_drew (S := fun w' => Below W.heap.size W w') (by kernel_rfl) ((Below.refl _ _).drew) (fun hHeld => ?_)
  refine H_take 0 26 (.agg #[.int .u64 0, .int .u64 0, .int .u64 0]) rfl rfl (by kernel_rfl) (by kernel_rfl) (by kernel_rfl) (fun _ _ _ h => h) rfl ?_ hHeld ?_
  · intro w' k; obtain ⟨g0, g1, g2, h0, h1, fb⟩ := And.intro (H.out.below k).x (And.intro (H.out.below k).y (And.intro (H.out.below k).z (And.intro (H.out.below k).f0 (And.intro (H.out.below k).f1 (H.out.below k).fb)))); go_simp
  try simp only [Act.put, List.setIfInBounds_toArray, List.set_cons_zero, List.set_cons_succ]
  refine H_move 1 27 (.int .i64 0) rfl (by kernel_rfl) (by kernel_rfl) (by kernel_rfl) (fun _ _ _ h => h) rfl rfl hHeld ?_
  try simp only [Act.put, List.setIfInBounds_toArray, List.set_cons_zero, List.set_cons_succ]
  refine H_move 2 28 (.int .i64 0) rfl (by kernel_rfl) (by kernel_rfl) (by kernel_rfl) (fun _ _ _ h => h) rfl rfl hHeld ?_
  try simp only [Act.put, List.setIfInBounds_toArray, List.set_cons_zero, List.set_cons_succ]
  refine H_take 3 29 (.pointer (some ⟨w.heap.size, 0, none⟩)) rfl rfl (by kernel_rfl) (by kernel_rfl) (by kernel_rfl) (fun _ _ _ h => h) rfl ?_ hHeld ?_
  · intro w' _; go_simp
  try simp only [Act.put, List.setIfInBounds_toArray, List.set_cons_zero, List.set_cons_succ]
  refine H_take 4 30 (.int .u64 f0) rfl rfl (by kernel_rfl) (by kernel_rfl) (by kernel_rfl) (fun _ _ _ h => h) rfl ?_ hHeld ?_
  · intro w' k; obtain ⟨g0, g1, g2, h0, h1, fb⟩ := And.intro (H.out.below k).x (And.intro (H.out.below k).y (And.intro (H.out.below k).z (And.intro (H.out.below k).f0 (And.intro (H.out.below k).f1 (H.out.below k).fb)))); go_simp
  try simp only [Act.put, List.setIfInBounds_toArray, List.set_cons_zero, List.set_cons_succ]
  refine wpAnyH_ready (rs := [5]) (by kernel_rfl) (by simp) ?_
  refine AllReadyH.cons rfl (fun K hK => ?_) AllReadyH.nil
  go_simp
  refine (in3_0 0 0 0 f0 _).mono ?_
  rintro x Wc ⟨rfl, hbc⟩
  refine hK.out _ _ (hHeld.trans (hbc.mono hHeld.size)) (fun hHeld => ?_)
  clear hK K
  try simp only [Act.put, List.setIfInBounds_toArray, List.set_cons_zero, List.set_cons_succ]
  refine H_take 6 32 (.bool true) rfl rfl (by kernel_rfl) (by kernel_rfl) (by kernel_rfl) (fun _ _ _ h => h) rfl ?_ hHeld ?_
  · intro w' _; go_simp
  try simp only [Act.put, List.setIfInBounds_toArray, List.set_cons_zero, List.set_cons_succ]
  refine wpAnyH_done (by kernel_rfl) ?_ _
  have HC : Hid (Lw w Wc f0 f1 0 0 0) := H.out.below hHeld
  clear hHeld hbc H
  obtain ⟨g0, g1, g2, h0, h1, fb⟩ := And.intro HC.out.x (And.intro HC.out.y (And.intro HC.out.z (And.intro HC.out.f0 (And.intro HC.out.f1 HC.out.fb))))
  go_wp2_with fail
  rw [rounds_succ]
  go_wp2_with fail
  refine (in3_1_no f0 0 0 own _ (by simp; omega)).mono ?_
  rintro x W0 ⟨rfl, hb⟩
  have H0 : Hid (Lw w W0 f0 f1 f0 0 0) := (HC.out.set_x f0).below hb
  clear hb g0 g1 g2 h0 h1 fb HC
  obtain ⟨g0, g1, g2, h0, h1, fb⟩ := And.intro H0.out.x (And.intro H0.out.y (And.intro H0.out.z (And.intro H0.out.f0 (And.intro H0.out.f1 H0.out.fb))))
  go_wp2_with fail
  obtain ⟨W2, hW2⟩ : ∃ W2, W2 = W0.setCell ⟨w.heap.size + 1 + 1, 1, none⟩ (.int .u64 own) := ⟨_, rfl⟩
  rw [← hW2]
  have H2 : Hid (Lw w W2 f0 f1 f0 own 0) := by
    have := H0.out.set_y own
    rw [← hW2] at this
    exact this
  clear hW2 H0 g0 g1 g2 h0 h1 fb
  obtain ⟨g0, g1, g2, h0, h1, fb⟩ := And.intro H2.out.x (And.intro H2.out.y (And.intro H2.out.z (And.intro H2.out.f0 (And.intro H2.out.f1 H2.out.fb))))
  refine wp_loop_rounds 2 ?_
  rw [rounds_succ]
  go_wp2_with fail
  have hng : ¬ own < f0 := by omega
  refine wp_loop_rounds 1 ?_
  rw [rounds_succ]
  go_wp2_with fail
  go_quiet (fail)
  obtain ⟨W1, hW1⟩ : ∃ W1, W1 = W2.drewN nq := ⟨_, rfl⟩
  rw [← hW1]
  have H1 : Hid (Lw w W1 f0 f1 f0 own 0) := by
    have := H2.out.below (below_drewN _ W2 nq)
    rw [← hW1] at this
    exact this
  clear hW1 H2 g0 g1 g2 h0 h1 fb
  go_wp2_with fail
  rw [rounds_succ]
  go_wp2_with fail
  have hm : (W1).heap.size = W1.heap.size := rfl
  obtain ⟨V, hV⟩ : ∃ V, V = (W1).alloc (.cells #[.int .u64 0, .int .u64 0] 24) := ⟨_, rfl⟩
  rw [← hV]
  have HL0 := H1.out
  have HLV : Hid (Lw w V f0 f1 f0 own 0) := by
    show Lw _ _ _ _ _ _ _
    rw [hV]; exact HL0.below ((Below.refl _ _).alloc (Nat.le_refl _) _)
  have bV : V.heap[W1.heap.size]? = some (.cells #[.int .u64 0, .int .u64 0] 24) := by rw [hV]; exact new_blk _ _ hm.symm
  have o0 := cell_of_row V _ 0 _ _ _ bV
  have o1 := cell_of_row V _ 1 _ _ _ bV
  simp at o0 o1
  have fo : ∀ j, V.frozen? ⟨W1.heap.size, j, none⟩ = false := fun j => frozen_of_row V _ j _ _ bV
  have hlt : w.heap.size + 1 + 1 < W1.heap.size := by rw [← hm]; exact World.block_lt_of_cell? _ _ HL0.x
  have hn1 : ¬ W1.heap.size = w.heap.size + 1 := by omega
  have hn2 : ¬ W1.heap.size = w.heap.size + 1 + 1 := by omega
  obtain ⟨y0, y1, y2, y3, y4⟩ := And.intro HLV.out.x (And.intro HLV.out.y (And.intro HLV.out.r0 (And.intro HLV.out.r1 HLV.out.fr)))
  have HBV : Hid (Below w.heap.size w V) := HLV.out.bel
  have HWW : Hid (w.heap.size ≤ W1.heap.size) := by show _ ≤ _; omega
  clear hV HL0 HLV bV hm H1
  refine wp_loop_rounds 3 ?_
  rw [rounds_succ]
  go_wp2_with fail
  rw [rounds_succ]
  go_wp2_with fail
  rw [rounds_succ]
  go_wp2_with fail
  have T := two_set (A := ((V.setCell ⟨W1.heap.size, 0, none⟩ (.int .u64 f0)).setCell ⟨W1.heap.size, 1, none⟩ (.int .u64 own))) (b := w.heap.size + 1) (p := .int .u64 f0) (q := .int .u64 own) (cell_far (cell_far y2 hn1) hn1) (cell_far (cell_far y3 hn1) hn1)
  exact bodyPost_ret (results2 Try.results22 _ _ (w.heap.size + 1) _ _ _ rfl rfl T.1 T.2) rfl ⟨rfl, below_setCell (below_setCell (below_setCell (below_setCell HBV.out HWW.out) HWW.out) (by omega)) (by omega)⟩
set_option maxHeartbeats 4000000 in
set_option maxRecDepth 100000 in
theorem low1_below (f0 f1 own : Int) (w : World) (hq : own < f0) :
    Calls Try.prog 22 #[.agg #[.int .u64 f0, .int .u64 f1], .int .i64 1, .int .u64 own] w fun e w' => e = .returned (.tuple #[.agg #[.int .u64 own, .int .u64 f0], .int .i64 2]) ∧ Below w.heap.size w w' := by
  obtain ⟨W, hW⟩ : ∃ W, W = (((w.alloc (.cells #[.int .u64 f0, .int .u64 f1] 24)).alloc (.cells #[.int .u64 0, .int .u64 0] 24)).alloc (.cells #[.int .u64 0, .int .u64 0, .int .u64 0] 78)) := ⟨_, rfl⟩
  have H : Hid (Lw w W f0 f1 0 0 0) := by rw [hW]; exact Lw.mk' w f0 f1
  have HW : Hid (W = (((w.alloc (.cells #[.int .u64 f0, .int .u64 f1] 24)).alloc (.cells #[.int .u64 0, .int .u64 0] 24)).alloc (.cells #[.int .u64 0, .int .u64 0, .int .u64 0] 78))) := hW
  clear hW
  go_enter Try.func22, Try.ntmps22
  go_wp2_with fail
  rw [← HW.out]
  clear HW
  refine wp_loop_rounds 2 ?_
  rw [rounds_succ]
  go_wp2_with fail
  refine wp_region_held_drew (S := fun w' => Below W.heap.size W w') (by kernel_rfl) ((Below.refl _ _).drew) (fun hHeld => ?_)
  refine H_take 0 26 (.agg #[.int .u64 0, .int .u64 0, .int .u64 0]) rfl rfl (by kernel_rfl) (by kernel_rfl) (by kernel_rfl) (fun _ _ _ h => h) rfl ?_ hHeld ?_
  · intro w' k; obtain ⟨g0, g1, g2, h0, h1, fb⟩ := And.intro (H.out.below k).x (And.intro (H.out.below k).y (And.intro (H.out.below k).z (And.intro (H.out.below k).f0 (And.intro (H.out.below k).f1 (H.out.below k).fb)))); go_simp
  try simp only [Act.put, List.setIfInBounds_toArray, List.set_cons_zero, List.set_cons_succ]
  refine H_move 1 27 (.int .i64 0) rfl (by kernel_rfl) (by kernel_rfl) (by kernel_rfl) (fun _ _ _ h => h) rfl rfl hHeld ?_
  try simp only [Act.put, List.setIfInBounds_toArray, List.set_cons_zero, List.set_cons_succ]
  refine H_move 2 28 (.int .i64 0) rfl (by kernel_rfl) (by kernel_rfl) (by kernel_rfl) (fun _ _ _ h => h) rfl rfl hHeld ?_
  try simp only [Act.put, List.setIfInBounds_toArray, List.set_cons_zero, List.set_cons_succ]
  refine H_take 3 29 (.pointer (some ⟨w.heap.size, 0, none⟩)) rfl rfl (by kernel_rfl) (by kernel_rfl) (by kernel_rfl) (fun _ _ _ h => h) rfl ?_ hHeld ?_
  · intro w' _; go_simp
  try simp only [Act.put, List.setIfInBounds_toArray, List.set_cons_zero, List.set_cons_succ]
  refine H_take 4 30 (.int .u64 f0) rfl rfl (by kernel_rfl) (by kernel_rfl) (by kernel_rfl) (fun _ _ _ h => h) rfl ?_ hHeld ?_
  · intro w' k; obtain ⟨g0, g1, g2, h0, h1, fb⟩ := And.intro (H.out.below k).x (And.intro (H.out.below k).y (And.intro (H.out.below k).z (And.intro (H.out.below k).f0 (And.intro (H.out.below k).f1 (H.out.below k).fb)))); go_simp
  try simp only [Act.put, List.setIfInBounds_toArray, List.set_cons_zero, List.set_cons_succ]
  refine wpAnyH_ready (rs := [5]) (by kernel_rfl) (by simp) ?_
  refine AllReadyH.cons rfl (fun K hK => ?_) AllReadyH.nil
  go_simp
  refine (in3_0 0 0 0 f0 _).mono ?_
  rintro x Wc ⟨rfl, hbc⟩
  refine hK.out _ _ (hHeld.trans (hbc.mono hHeld.size)) (fun hHeld => ?_)
  clear hK K
  try simp only [Act.put, List.setIfInBounds_toArray, List.set_cons_zero, List.set_cons_succ]
  refine H_take 6 32 (.bool true) rfl rfl (by kernel_rfl) (by kernel_rfl) (by kernel_rfl) (fun _ _ _ h => h) rfl ?_ hHeld ?_
  · intro w' _; go_simp
  try simp only [Act.put, List.setIfInBounds_toArray, List.set_cons_zero, List.set_cons_succ]
  refine wpAnyH_done (by kernel_rfl) ?_ _
  have HC : Hid (Lw w Wc f0 f1 0 0 0) := H.out.below hHeld
  clear hHeld hbc H
  obtain ⟨g0, g1, g2, h0, h1, fb⟩ := And.intro HC.out.x (And.intro HC.out.y (And.intro HC.out.z (And.intro HC.out.f0 (And.intro HC.out.f1 HC.out.fb))))
  go_wp2_with fail
  rw [rounds_succ]
  go_wp2_with fail
  refine (in3_1_no f0 0 0 own _ (by simp; omega)).mono ?_
  rintro x W0 ⟨rfl, hb⟩
  have H0 : Hid (Lw w W0 f0 f1 f0 0 0) := (HC.out.set_x f0).below hb
  clear hb g0 g1 g2 h0 h1 fb HC
  obtain ⟨g0, g1, g2, h0, h1, fb⟩ := And.intro H0.out.x (And.intro H0.out.y (And.intro H0.out.z (And.intro H0.out.f0 (And.intro H0.out.f1 H0.out.fb))))
  go_wp2_with fail
  obtain ⟨W2, hW2⟩ : ∃ W2, W2 = W0.setCell ⟨w.heap.size + 1 + 1, 1, none⟩ (.int .u64 own) := ⟨_, rfl⟩
  rw [← hW2]
  have H2 : Hid (Lw w W2 f0 f1 f0 own 0) := by
    have := H0.out.set_y own
    rw [← hW2] at this
    exact this
  clear hW2 H0 g0 g1 g2 h0 h1 fb
  obtain ⟨g0, g1, g2, h0, h1, fb⟩ := And.intro H2.out.x (And.intro H2.out.y (And.intro H2.out.z (And.intro H2.out.f0 (And.intro H2.out.f1 H2.out.fb))))
  refine wp_loop_rounds 2 ?_
  rw [rounds_succ]
  go_wp2_with fail
  refine wp_loop_rounds 2 ?_
  rw [rounds_succ]
  go_wp2_with fail
  go_quiet (fail)
  obtain ⟨W3, hW3⟩ : ∃ W3, W3 = W2.drewN nq := ⟨_, rfl⟩
  rw [← hW3]
  have H3 : Hid (Lw w W3 f0 f1 f0 own 0) := by
    have := H2.out.below (below_drewN _ W2 nq)
    rw [← hW3] at this
    exact this
  clear hW3 H2 g0 g1 g2 h0 h1 fb
  obtain ⟨g0, g1, g2, h0, h1, fb⟩ := And.intro H3.out.x (And.intro H3.out.y (And.intro H3.out.z (And.intro H3.out.f0 (And.intro H3.out.f1 H3.out.fb))))
  go_wp2_with fail
  obtain ⟨W4, hW4⟩ : ∃ W4, W4 = (W3.setCell ⟨w.heap.size + 1 + 1, 0, none⟩ (.int .u64 own)).setCell ⟨w.heap.size + 1 + 1, 1, none⟩ (.int .u64 f0) := ⟨_, rfl⟩
  rw [← hW4]
  have H4 : Hid (Lw w W4 f0 f1 own f0 0) := by
    have := (H3.out.set_x own).set_y f0
    rw [← hW4] at this
    exact this
  clear hW4 H3 g0 g1 g2 h0 h1 fb
  obtain ⟨g0, g1, g2, h0, h1, fb⟩ := And.intro H4.out.x (And.intro H4.out.y (And.intro H4.out.z (And.intro H4.out.f0 (And.intro H4.out.f1 H4.out.fb))))
  rw [rounds_succ]
  go_wp2_with fail
  go_quiet (fail)
  obtain ⟨W1, hW1⟩ : ∃ W1, W1 = W4.drewN nq := ⟨_, rfl⟩
  rw [← hW1]
  have H1 : Hid (Lw w W1 f0 f1 own f0 0) := by
    have := H4.out.below (below_drewN _ W4 nq)
    rw [← hW1] at this
    exact this
  clear hW1 H4 g0 g1 g2 h0 h1 fb
  go_wp2_with fail
  rw [rounds_succ]
  go_wp2_with fail
  have hm : (W1).heap.size = W1.heap.size := rfl
  obtain ⟨V, hV⟩ : ∃ V, V = (W1).alloc (.cells #[.int .u64 0, .int .u64 0] 24) := ⟨_, rfl⟩
  rw [← hV]
  have HL0 := H1.out
  have HLV : Hid (Lw w V f0 f1 own f0 0) := by
    show Lw _ _ _ _ _ _ _
    rw [hV]; exact HL0.below ((Below.refl _ _).alloc (Nat.le_refl _) _)
  have bV : V.heap[W1.heap.size]? = some (.cells #[.int .u64 0, .int .u64 0] 24) := by rw [hV]; exact new_blk _ _ hm.symm
  have o0 := cell_of_row V _ 0 _ _ _ bV
  have o1 := cell_of_row V _ 1 _ _ _ bV
  simp at o0 o1
  have fo : ∀ j, V.frozen? ⟨W1.heap.size, j, none⟩ = false := fun j => frozen_of_row V _ j _ _ bV
  have hlt : w.heap.size + 1 + 1 < W1.heap.size := by rw [← hm]; exact World.block_lt_of_cell? _ _ HL0.x
  have hn1 : ¬ W1.heap.size = w.heap.size + 1 := by omega
  have hn2 : ¬ W1.heap.size = w.heap.size + 1 + 1 := by omega
  obtain ⟨y0, y1, y2, y3, y4⟩ := And.intro HLV.out.x (And.intro HLV.out.y (And.intro HLV.out.r0 (And.intro HLV.out.r1 HLV.out.fr)))
  have HBV : Hid (Below w.heap.size w V) := HLV.out.bel
  have HWW : Hid (w.heap.size ≤ W1.heap.size) := by show _ ≤ _; omega
  clear hV HL0 HLV bV hm H1
  refine wp_loop_rounds 3 ?_
  rw [rounds_succ]
  go_wp2_with fail
  rw [rounds_succ]
  go_wp2_with fail
  rw [rounds_succ]
  go_wp2_with fail
  have T := two_set (A := ((V.setCell ⟨W1.heap.size, 0, none⟩ (.int .u64 own)).setCell ⟨W1.heap.size, 1, none⟩ (.int .u64 f0))) (b := w.heap.size + 1) (p := .int .u64 own) (q := .int .u64 f0) (cell_far (cell_far y2 hn1) hn1) (cell_far (cell_far y3 hn1) hn1)
  exact bodyPost_ret (results2 Try.results22 _ _ (w.heap.size + 1) _ _ _ rfl rfl T.1 T.2) rfl ⟨rfl, below_setCell (below_setCell (below_setCell (below_setCell HBV.out HWW.out) HWW.out) (by omega)) (by omega)⟩
end Go.Proofs.Qxb6612204a
