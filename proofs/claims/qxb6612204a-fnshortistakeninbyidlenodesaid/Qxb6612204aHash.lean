import Derived.Test.Qxb6612204aNums
import Derived.Laws.IdiomStrings
namespace Go.Proofs.Qxb6612204a
open Go.RowKit

theorem method_write (a : Addr) (w : World) : (method 211 92 (.pointer (some a)) "Write").run Try.prog w = .ok (76, .pointer (some a)) w := by kernel_rfl
theorem method_sum (a : Addr) (w : World) : (method 211 92 (.pointer (some a)) "Sum64").run Try.prog w = .ok (75, .pointer (some a)) w := by kernel_rfl

theorem getD_data (s : ByteArray) (i : Nat) (h : i < s.data.size) : s.data.toList.getD i 0 = s.data[i] := by
  simp only [List.getD, Array.getElem?_toList, Array.getElem?_eq_getElem h]; rfl

theorem hashID_any (s : ByteArray) (w : World) (hs : s.size ≤ 1048576) :
    Calls Try.prog 48 #[.string s] w fun e w' => e = .returned (.int .u64 (hashF s.data.toList)) ∧ Below w.heap.size w w' := by
  have hcv := fun w => run_bytes_of_string (P := Try.prog) w 9 90 5 s Try.underlying9 Try.underlying90 Try.underlying5
  have m1 := method_write
  have m2 := method_sum
  go_enter Try.func48, Try.ntmps48
  go_wp2_with fail
  refine (new64_any _).mono ?_
  rintro e x ⟨rfl, hx⟩
  subst hx
  go_wp2_with fail
  generalize hO : (Obj.cells (bytesRow s (grownCap (w.alloc (Obj.cells #[Value.int IntKind.u64 fnv0] 91)) s.size 0 5)) 5 ((bytesRow s (grownCap (w.alloc (Obj.cells #[Value.int IntKind.u64 fnv0] 91)) s.size 0 5)).size, (bytesRow s (grownCap (w.alloc (Obj.cells #[Value.int IntKind.u64 fnv0] 91)) s.size 0 5)).size + 1)) = O
  refine (write_any w.heap.size fnv0 (w.heap.size + 1) s.size _ s.data.toList _ (by rw [Array.length_toList]; rfl) hs (by simp) (by simp) ?_).mono ?_
  · intro i hi
    have hb : ((w.alloc (Obj.cells #[Value.int IntKind.u64 fnv0] 91)).alloc O).heap[w.heap.size + 1]? = some O := heap_alloc2_new w _ _
    have hi' : i < s.data.size := hi
    rw [getD_data s i hi']
    show ((w.alloc (Obj.cells #[Value.int IntKind.u64 fnv0] 91)).alloc O).cell? _ = _
    rw [← hO] at hb ⊢
    rw [cell_of_row _ _ _ _ _ _ hb, bytesRow_at s _ i hi']
  · rintro e x ⟨rfl, hx⟩
    subst hx
    go_wp2_with fail
    refine (sum64_any w.heap.size (fnv fnv0 s.data.toList) _ (by simp)).mono ?_
    rintro e x ⟨rfl, hx⟩
    subst hx
    go_wp2_with fail
    refine (mix_any _ _ (is64_fnv _ is64_fnv0 _)).mono ?_
    rintro e x ⟨rfl, hx⟩
    subst hx
    go_wp2_with fail
    go_ret
    refine ⟨rfl, ?_⟩
    exact (((Below.refl _ _).alloc (Nat.le_refl _) _).alloc (by simp) _).drew
end Go.Proofs.Qxb6612204a
