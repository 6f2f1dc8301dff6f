import Derived.Test.Qxb6612204aAdd2
import Derived.LoopN
import Derived.Deep.QuietTactic
import Derived.BigQuiet
namespace Go.Proofs.Qxb6612204a
open Go.RowKit

/-- Two ranks and their number, from offset o on in block b. -/
structure RkAt (w : World) (b o : Nat) (x y n : Int) : Prop where
  x : w.cell? ⟨b, o, none⟩ = some (.int .u64 x)
  y : w.cell? ⟨b, o + 1, none⟩ = some (.int .u64 y)
  n : w.cell? ⟨b, o + 2, none⟩ = some (.int .i64 n)
  fr : ∀ j, w.frozen? ⟨b, j, none⟩ = false

theorem below_drewN (n : Nat) (w : World) (k : Nat) : Below n w (w.drewN k) := ⟨rfl, rfl, rfl, Nat.le_refl _, fun _ _ => rfl⟩

theorem RkAt.set_x {w : World} {b o : Nat} {x y n : Int} (h : RkAt w b o x y n) (v : Int) : RkAt (w.setCell ⟨b, o, none⟩ (.int .u64 v)) b o v y n :=
  ⟨World.cell?_setCell_same _ _ _ h.x, by rw [World.cell?_setCell_other _ _ _ _ (by intro e; injection e; omega)]; exact h.y, by rw [World.cell?_setCell_other _ _ _ _ (by intro e; injection e; omega)]; exact h.n, fun j => (World.frozen?_setCell _ _ _ _).trans (h.fr j)⟩
theorem RkAt.set_y {w : World} {b o : Nat} {x y n : Int} (h : RkAt w b o x y n) (v : Int) : RkAt (w.setCell ⟨b, o + 1, none⟩ (.int .u64 v)) b o x v n :=
  ⟨by rw [World.cell?_setCell_other _ _ _ _ (by intro e; injection e; omega)]; exact h.x, World.cell?_setCell_same _ _ _ h.y, by rw [World.cell?_setCell_other _ _ _ _ (by intro e; injection e; omega)]; exact h.n, fun j => (World.frozen?_setCell _ _ _ _).trans (h.fr j)⟩
theorem RkAt.set_n {w : World} {b o : Nat} {x y n : Int} (h : RkAt w b o x y n) (v : Int) : RkAt (w.setCell ⟨b, o + 2, none⟩ (.int .i64 v)) b o x y v :=
  ⟨by rw [World.cell?_setCell_other _ _ _ _ (by intro e; injection e; omega)]; exact h.x, by rw [World.cell?_setCell_other _ _ _ _ (by intro e; injection e; omega)]; exact h.y, World.cell?_setCell_same _ _ _ h.n, fun j => (World.frozen?_setCell _ _ _ _).trans (h.fr j)⟩

set_option maxHeartbeats 1000000 in
theorem rkHolds0 (b o : Nat) (x y v : Int) (w : World) (h : RkAt w b o x y 0) :
    Calls Try.prog 42 #[.pointer (some ⟨b, o, none⟩), .int .u64 v] w fun e w' => e = .returned (.bool false) ∧ Below w.heap.size w w' := by
  obtain ⟨hx, hy, hn, _⟩ := h
  go_enter Try.func42, Try.ntmps42
  go_wp2_with fail
  go_quiet (fail)
  go_wp2_with fail
  refine wp_loop_rounds 1 ?_
  rw [rounds_succ]
  go_wp2_with fail
  go_ret
  exact ⟨rfl, below_drewN _ _ _⟩

set_option maxHeartbeats 1000000 in
theorem rkHolds1_yes (b o : Nat) (v y : Int) (w : World) (h : RkAt w b o v y 1) :
    Calls Try.prog 42 #[.pointer (some ⟨b, o, none⟩), .int .u64 v] w fun e w' => e = .returned (.bool true) ∧ Below w.heap.size w w' := by
  obtain ⟨hx, hy, hn, _⟩ := h
  go_enter Try.func42, Try.ntmps42
  go_wp2_with fail
  go_quiet (fail)
  go_wp2_with fail
  refine wp_loop_rounds 1 ?_
  rw [rounds_succ]
  go_wp2_with fail
  go_ret
  exact ⟨rfl, below_drewN _ _ _⟩

set_option maxHeartbeats 1000000 in
theorem rkHolds1_no (b o : Nat) (x y v : Int) (w : World) (h : RkAt w b o x y 1) (hne : (x == v) = false) :
    Calls Try.prog 42 #[.pointer (some ⟨b, o, none⟩), .int .u64 v] w fun e w' => e = .returned (.bool false) ∧ Below w.heap.size w w' := by
  obtain ⟨hx, hy, hn, _⟩ := h
  have hne' : ¬ x = v := by simpa using hne
  go_enter Try.func42, Try.ntmps42
  go_wp2_with fail
  go_quiet (fail)
  go_wp2_with fail
  refine wp_loop_rounds 2 ?_
  rw [rounds_succ]
  go_wp2_with fail
  rw [rounds_succ]
  go_wp2_with fail
  go_ret
  exact ⟨rfl, below_drewN _ _ _⟩

set_option maxHeartbeats 1000000 in
theorem rkHolds2_x (b o : Nat) (v y : Int) (w : World) (h : RkAt w b o v y 2) :
    Calls Try.prog 42 #[.pointer (some ⟨b, o, none⟩), .int .u64 v] w fun e w' => e = .returned (.bool true) ∧ Below w.heap.size w w' := by
  obtain ⟨hx, hy, hn, _⟩ := h
  go_enter Try.func42, Try.ntmps42
  go_wp2_with fail
  go_quiet (fail)
  go_wp2_with fail
  refine wp_loop_rounds 1 ?_
  rw [rounds_succ]
  go_wp2_with fail
  go_ret
  exact ⟨rfl, below_drewN _ _ _⟩

set_option maxHeartbeats 1000000 in
theorem rkHolds2_y (b o : Nat) (x v : Int) (w : World) (h : RkAt w b o x v 2) (hne : (x == v) = false) :
    Calls Try.prog 42 #[.pointer (some ⟨b, o, none⟩), .int .u64 v] w fun e w' => e = .returned (.bool true) ∧ Below w.heap.size w w' := by
  obtain ⟨hx, hy, hn, _⟩ := h
  have hne' : ¬ x = v := by simpa using hne
  go_enter Try.func42, Try.ntmps42
  go_wp2_with fail
  go_quiet (fail)
  go_wp2_with fail
  refine wp_loop_rounds 2 ?_
  rw [rounds_succ]
  go_wp2_with fail
  rw [rounds_succ]
  go_wp2_with fail
  go_ret
  exact ⟨rfl, below_drewN _ _ _⟩

theorem RkAt.below {w w' : World} {b o : Nat} {x y n : Int} (h : RkAt w b o x y n) (k : Below w.heap.size w w') : RkAt w' b o x y n := by
  have hlt : b < w.heap.size := World.block_lt_of_cell? w _ h.x
  exact ⟨by rw [k.cell (p := ⟨b, o, none⟩) hlt]; exact h.x, by rw [k.cell (p := ⟨b, o + 1, none⟩) hlt]; exact h.y, by rw [k.cell (p := ⟨b, o + 2, none⟩) hlt]; exact h.n, fun j => (k.frozen (p := ⟨b, j, none⟩) hlt).trans (h.fr j)⟩

set_option maxHeartbeats 2000000 in
theorem rkAdd0 (b o : Nat) (v : Int) (w : World) (h : RkAt w b o 0 0 0) :
    Calls Try.prog 41 #[.pointer (some ⟨b, o, none⟩), .int .u64 v] w fun e w' => e = .returned (.tuple #[]) ∧ RkAt w' b o v 0 1 ∧ Only b o 3 w w' := by
  go_enter Try.func41, Try.ntmps41
  go_wp2_with fail
  refine (rkHolds0 b o 0 0 v w h).mono ?_
  rintro e w1 ⟨rfl, hb⟩
  have HK : Hid (Only b o 3 w w1) := Only.of_below (b := b) o 3 hb (World.block_lt_of_cell? w _ h.x)
  have HR := (show Hid (RkAt w1 b o _ _ _) from h.below hb)
  obtain ⟨hx, hy, hn, hf⟩ := h.below hb
  clear hb h
  go_wp2_with fail
  refine wp_loop_rounds 1 ?_
  rw [rounds_succ]
  go_wp2_with fail
  go_end0
  exact ⟨rfl, (HR.out.set_n 1).set_x v, (HK.out.trans (Only.setCell _ _ (by omega) (by omega))).trans (Only.setCell _ _ (by omega) (by omega))⟩

set_option maxHeartbeats 2000000 in
theorem rkAdd1_same (b o : Nat) (v y : Int) (w : World) (h : RkAt w b o v y 1) :
    Calls Try.prog 41 #[.pointer (some ⟨b, o, none⟩), .int .u64 v] w fun e w' => e = .returned (.tuple #[]) ∧ RkAt w' b o v y 1 ∧ Only b o 3 w w' := by
  go_enter Try.func41, Try.ntmps41
  go_wp2_with fail
  refine (rkHolds1_yes b o v y w h).mono ?_
  rintro e w1 ⟨rfl, hb⟩
  have HK : Hid (Only b o 3 w w1) := Only.of_below (b := b) o 3 hb (World.block_lt_of_cell? w _ h.x)
  have HR := (show Hid (RkAt w1 b o _ _ _) from h.below hb)
  clear hb h
  go_wp2_with fail
  exact bodyPost_ret (results_none rfl _ _ _) rfl ⟨rfl, HR.out, HK.out⟩

set_option maxHeartbeats 2000000 in
theorem rkAdd1_above (b o : Nat) (x y v : Int) (w : World) (h : RkAt w b o x y 1) (hlt : x < v) :
    Calls Try.prog 41 #[.pointer (some ⟨b, o, none⟩), .int .u64 v] w fun e w' => e = .returned (.tuple #[]) ∧ RkAt w' b o x v 2 ∧ Only b o 3 w w' := by
  go_enter Try.func41, Try.ntmps41
  go_wp2_with fail
  refine (rkHolds1_no b o x y v w h (by simp; omega)).mono ?_
  rintro e w1 ⟨rfl, hb⟩
  have HK : Hid (Only b o 3 w w1) := Only.of_below (b := b) o 3 hb (World.block_lt_of_cell? w _ h.x)
  have HR := (show Hid (RkAt w1 b o _ _ _) from h.below hb)
  obtain ⟨hx, hy, hn, hf⟩ := h.below hb
  clear hb h
  have hng : ¬ v < x := by omega
  go_wp2_with fail
  refine wp_loop_rounds 1 ?_
  rw [rounds_succ]
  go_wp2_with fail
  go_end0
  exact ⟨rfl, (HR.out.set_n 2).set_y v, (HK.out.trans (Only.setCell _ _ (by omega) (by omega))).trans (Only.setCell _ _ (by omega) (by omega))⟩

set_option maxHeartbeats 2000000 in
theorem rkAdd1_below (b o : Nat) (x y v : Int) (w : World) (h : RkAt w b o x y 1) (hlt : v < x) :
    Calls Try.prog 41 #[.pointer (some ⟨b, o, none⟩), .int .u64 v] w fun e w' => e = .returned (.tuple #[]) ∧ RkAt w' b o v x 2 ∧ Only b o 3 w w' := by
  go_enter Try.func41, Try.ntmps41
  go_wp2_with fail
  refine (rkHolds1_no b o x y v w h (by simp; omega)).mono ?_
  rintro e w1 ⟨rfl, hb⟩
  have HK : Hid (Only b o 3 w w1) := Only.of_below (b := b) o 3 hb (World.block_lt_of_cell? w _ h.x)
  have HR := (show Hid (RkAt w1 b o _ _ _) from h.below hb)
  obtain ⟨hx, hy, hn, hf⟩ := h.below hb
  clear hb h
  go_wp2_with fail
  refine wp_loop_rounds 2 ?_
  rw [rounds_succ]
  go_wp2_with fail
  go_region
  go_wp2_with fail
  rw [rounds_succ]
  go_wp2_with fail
  go_end0
  have HD : Hid (RkAt (w1.setCell ⟨b, o + 2, none⟩ (.int .i64 2)).drew b o x y 2) := (HR.out.set_n 2).below ((Below.refl _ _).drew)
  refine ⟨rfl, (HD.out.set_y x).set_x v, ?_⟩
  have k1 : Only b o 3 w (w1.setCell ⟨b, o + 2, none⟩ (.int .i64 2)) := HK.out.trans (Only.setCell _ _ (by omega) (by omega))
  have k2 : Only b o 3 w (w1.setCell ⟨b, o + 2, none⟩ (.int .i64 2)).drew := k1.trans (Only.of_below (b := b) o 3 ((Below.refl _ _).drew) (World.block_lt_of_cell? _ _ (HR.out.set_n 2).x))
  exact (k2.trans (Only.setCell _ _ (by omega) (by omega))).trans (Only.setCell _ _ (by omega) (by omega))
end Go.Proofs.Qxb6612204a
