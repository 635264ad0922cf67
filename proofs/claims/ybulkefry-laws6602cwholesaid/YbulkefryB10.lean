import Derived.Test.YbulkefryB5
import Derived.Test.YbulkefryB6
import Derived.Test.YbulkefryB8
import Derived.Test.YbulkefryB9
import Derived.Test.YbulkefryS2
namespace Go.Proofs.Ybulkefry
open Go.RowKit

theorem mkN (n : Nat) (hn : n ≤ 65536) (w : World) : (Instr.makeSlice 29 (.int .i64 1) (.int .i64 ((n : Int) + 1))).run Yba.prog w =
    .ok (.slice (some ⟨w.heap.size, 0, none⟩) 1 (n + 1)) (w.alloc (.cells (madeCells #[.int .i64 0, .int .i64 0, .int .i64 0, .int .i64 0, .int .i64 0, .int .i64 0, .int .i64 0, .int .u64 0, .int .i32 0, .int .i32 0, .int .i32 0] ((n + 1) * 11)) 37)) := by
  obtain ⟨i, hi, hz, e2, e3⟩ := info_parts info37
  have := run_make (P := Yba.prog) w 29 37 i _ Yba.underlying29 hi hz .i64 .i64 1 (n + 1) (by omega) (by omega) (by rw [e3]; omega) (by omega)
  rw [e2] at this
  simpa [Value.cells] using this

theorem made_row (w : World) (N : Nat) : NodesAt (w.alloc (.cells (madeCells #[.int .i64 0, .int .i64 0, .int .i64 0, .int .i64 0, .int .i64 0, .int .i64 0, .int .i64 0, .int .u64 0, .int .i32 0, .int .i32 0, .int .i32 0] (N * 11)) 37)) w.heap.size N N (fun _ _ => 0) := by
  refine ⟨_, heap_alloc_new w _, size_madeCells _ _, fun j hj t ht => ?_⟩
  have e : (j * 11 + t) % 11 = t := by omega
  have hlt : j * 11 + t < N * 11 := by omega
  have hm : (madeCells #[.int .i64 0, .int .i64 0, .int .i64 0, .int .i64 0, .int .i64 0, .int .i64 0, .int .i64 0, .int .u64 0, .int .i32 0, .int .i32 0, .int .i32 0] (N * 11))[j * 11 + t]? = some ((#[.int .i64 0, .int .i64 0, .int .i64 0, .int .i64 0, .int .i64 0, .int .i64 0, .int .i64 0, .int .u64 0, .int .i32 0, .int .i32 0, .int .i32 0] : Array Value)[(j * 11 + t) % 11]!) := by
    simp [madeCells, hlt]
  rw [hm, e]
  match t, ht with
  | 0, _ | 1, _ | 2, _ | 3, _ | 4, _ | 5, _ | 6, _ | 7, _ | 8, _ | 9, _ | 10, _ => rfl
end Go.Proofs.Ybulkefry
