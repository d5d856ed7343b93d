import Derived.Test.YbulkdqeqDoorRow
import Derived.Laws.MakeOwn
namespace Go.Proofs.YbulkdqeqDoor
open Go.RowKit
theorem make_any (w : World) (l c : Nat) (hl : l ≤ c) (hc : c ≤ 2097152) : (Instr.makeSlice 22 (.int .i64 l) (.int .i64 c)).run Ybad.prog w = .ok (.slice (some ⟨w.heap.size, 0, none⟩) l c) (w.alloc (.cells (madeCells #[.int .u8 0] c) 5)) := by
  obtain ⟨i, hi, hzz⟩ := Option.map_eq_some_iff.1 info5
  simp only [Prod.mk.injEq] at hzz
  obtain ⟨hz, hsz, hby⟩ := hzz
  have h := run_makeSlice w 22 5 i (.int .u8 0) Ybad.underlying22 hi hz .i64 .i64 l c (by omega) (by omega) (by rw [hsz]; simp; omega) (by rw [hby]; omega) (by omega)
  rw [hsz] at h
  simpa [Value.cells] using h
theorem made16 : madeCells #[.int .u8 0] 16 = #[.int .u8 0, .int .u8 0, .int .u8 0, .int .u8 0, .int .u8 0, .int .u8 0, .int .u8 0, .int .u8 0, .int .u8 0, .int .u8 0, .int .u8 0, .int .u8 0, .int .u8 0, .int .u8 0, .int .u8 0, .int .u8 0] := by kernel_rfl
theorem made_buf (w : World) (c : Nat) (hc : c ≤ 2097152) : Buf (w.alloc (.cells (madeCells #[.int .u8 0] c) 5)) w.heap.size c [] :=
  ⟨⟨_, heap_alloc_new w _, size_madeCells _ _, rfl⟩, Nat.zero_le _, by simp only [maxLen]; omega⟩
end Go.Proofs.YbulkdqeqDoor
