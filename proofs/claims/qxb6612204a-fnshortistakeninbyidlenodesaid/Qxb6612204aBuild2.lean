import Derived.Test.Qxb6612204aBuild
namespace Go.Proofs.Qxb6612204a
open Go.RowKit

theorem run_build57 (r : Nat → Int) (w : World) : (Instr.build 57 #[(0, .agg (lst r).toArray)]).run Try.prog w = .ok (.agg (lst r).toArray) w := by
  obtain ⟨z, hz, hs⟩ := zeroAny zs57 w
  have hl := hl22 r
  generalize (lst r).toArray = A at hl
  have hfill : Instr.fill (fun x => ([(0, 1024)] : List (Nat × Nat))[x]?) z.cells [(0, .agg A)] = some A := fill1 _ _ _ _ rfl (by rw [hl]; rfl) (by rw [hs, hl])
  simp only [Instr.build, Sem.run_bind, hz, Result.andThen_ok, run_underlying Try.underlying57]
  simp [Try.sizeOf22, hfill]

/-- A tombstone's cells. -/
def tombArr (tg rc : Nat → Int) (f0 f1 n e : Int) : Array Value := (lst tg).toArray ++ (lst rc).toArray ++ #[.int .u64 f0, .int .u64 f1, .int .i64 n] ++ #[.int .u64 e]
theorem tombArr_size (tg rc : Nat → Int) (f0 f1 n e : Int) : (tombArr tg rc f0 f1 n e).size = 2052 := by
  unfold tombArr
  rw [Array.size_append, Array.size_append, Array.size_append, hl22, hl22]; rfl

theorem run_build61 (tg rc : Nat → Int) (f0 f1 n e : Int) (w : World) :
    (Instr.build 61 #[(0, .agg (lst tg).toArray), (1, .agg (lst rc).toArray), (2, .agg #[.int .u64 f0, .int .u64 f1, .int .i64 n]), (3, .int .u64 e)]).run Try.prog w = .ok (.agg (tombArr tg rc f0 f1 n e)) w := by
  obtain ⟨z, hz, hs⟩ := zeroAny zs61 w
  unfold tombArr
  have ha := hl22 tg
  have hb := hl22 rc
  generalize (lst tg).toArray = A at ha
  generalize (lst rc).toArray = B at hb
  have hfill : Instr.fill (fun x => ([(0, 1024), (1024, 1024), (2048, 3), (2051, 1)] : List (Nat × Nat))[x]?) z.cells [(0, .agg A), (1, .agg B), (2, .agg #[.int .u64 f0, .int .u64 f1, .int .i64 n]), (3, .int .u64 e)] = some (A ++ B ++ #[.int .u64 f0, .int .u64 f1, .int .i64 n] ++ #[.int .u64 e]) :=
    fill4 _ _ _ _ _ _ _ _ _ _ rfl rfl rfl rfl (by rw [ha]; rfl) (by rw [ha, hb]; rfl) (by rw [ha, hb]; rfl) (by rw [ha, hb]; rfl) (by rw [hs, ha, hb]; rfl)
  simp only [Instr.build, Sem.run_bind, hz, Result.andThen_ok, run_underlying Try.underlying61]
  simp [Try.sizeOf57, Try.sizeOf59, Try.sizeOf23, hfill]

/-- A state's cells. -/
def stateArr (node set : ByteArray) (rank holds : Int) (rec : Nat → Int) (T : Array Value) : Array Value := #[.string node] ++ #[.string set] ++ #[.int .u64 rank] ++ #[.int .i64 holds] ++ (lst rec).toArray ++ T

theorem run_build64 (node set : ByteArray) (rank holds : Int) (rec : Nat → Int) (T : Array Value) (hT : T.size = 2052) (w : World) :
    (Instr.build 64 #[(0, .string node), (1, .string set), (2, .int .u64 rank), (3, .int .i64 holds), (4, .agg (lst rec).toArray), (5, .agg T)]).run Try.prog w = .ok (.agg (stateArr node set rank holds rec T)) w := by
  obtain ⟨z, hz, hs⟩ := zeroAny zs64 w
  unfold stateArr
  have ha := hl22 rec
  generalize (lst rec).toArray = A at ha
  have hfill : Instr.fill (fun x => ([(0, 1), (1, 1), (2, 1), (3, 1), (4, 1024), (1028, 2052)] : List (Nat × Nat))[x]?) z.cells [(0, .string node), (1, .string set), (2, .int .u64 rank), (3, .int .i64 holds), (4, .agg A), (5, .agg T)] = some (#[.string node] ++ #[.string set] ++ #[.int .u64 rank] ++ #[.int .i64 holds] ++ A ++ T) :=
    fill6 _ _ _ _ _ _ _ _ _ _ _ _ _ _ rfl rfl rfl rfl rfl rfl (by rfl) (by rfl) (by rfl) (by rfl) (by rw [ha]; rfl) (by rw [ha, hT]; rfl) (by rw [hs, ha, hT]; rfl)
  simp only [Instr.build, Sem.run_bind, hz, Result.andThen_ok, run_underlying Try.underlying64]
  simp [Try.sizeOf57, Try.sizeOf61, Try.sizeOf23, Try.sizeOf9, Try.sizeOf62, hfill]
end Go.Proofs.Qxb6612204a
