/- A row of zero bytes of a given length, made: it reads as zeros. -/
import Derived.Test.YtimklfdofldhaaaTurn
import Derived.Deep.OwnRows
namespace Go.Proofs.Ytimklfdofldhaaa
open Go.RowKit

theorem zero_info : (Try.prog.info? 5).map (fun i => (i.zero, i.size, i.bytes)) = some (some (.int .u8 0), 1, 1) := by kernel_rfl
/-- make([]byte, n). -/
theorem zero_make (n : Nat) (hn : n ≤ 100000) : ∃ O : Obj,
    (∀ w : World, (Instr.makeSlice 22 (.int .i64 n) (.int .i64 n)).run Try.prog w = .ok (.slice (some ⟨w.heap.size, 0, none⟩) n n) (w.alloc O)) ∧
    ∀ w : World, Bs (w.alloc O) (some ⟨w.heap.size, 0, none⟩) n (List.replicate n 0) := by
  refine ⟨.cells (madeCells #[.int .u8 0] n) 5, fun w => ?_, fun w => ?_⟩
  · exact run_make_row' 22 5 (.int .u8 0) 1 Try.underlying22 zero_info rfl .i64 .i64 n (by omega) (by omega) w
  · refine ⟨by simp, fun hn0 => ⟨_, 0, rfl, fun j v hj => ?_⟩⟩
    have hjn : j < n := by
      have := (List.getElem?_eq_some_iff.1 hj).1
      simpa using this
    rw [(Blk.new w 5 (madeCells #[.int .u8 0] n)).cell (0 + j)]
    have h0 : j % 1 = 0 := by omega
    simp [hjn] at hj
    simp [madeCells, hjn, h0, ← hj, bv]
end Go.Proofs.Ytimklfdofldhaaa
