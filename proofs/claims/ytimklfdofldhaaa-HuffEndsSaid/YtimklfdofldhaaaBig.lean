/- A row of zero bytes of a given length, made and turned into a string: only the length matters. -/
import Derived.Test.YtimklfdofldhaaaTurn
import Derived.Deep.OwnRows
namespace Go.Proofs.Ytimklfdofldhaaa
open Go.RowKit

theorem big_info : (Try.prog.info? 5).map (fun i => (i.zero, i.size, i.bytes)) = some (some (.int .u8 0), 1, 1) := by kernel_rfl
/-- make([]byte, n), then string of it. -/
theorem big_make (n : Nat) (hn : n ≤ 100000) : ∃ (O : Obj) (bs : ByteArray), bs.size = n ∧
    (∀ w : World, (Instr.makeSlice 22 (.int .i64 n) (.int .i64 n)).run Try.prog w = .ok (.slice (some ⟨w.heap.size, 0, none⟩) n n) (w.alloc O)) ∧
    ∀ w : World, (convert 22 9 (.slice (some ⟨w.heap.size, 0, none⟩) n n)).run Try.prog (w.alloc O) = .ok (.string bs) (w.alloc O) := by
  refine ⟨.cells (madeCells #[.int .u8 0] n) 5, ⟨(List.replicate n 0).toArray⟩, by simp [ByteArray.size], fun w => ?_, fun w => ?_⟩
  · exact run_make_row' 22 5 (.int .u8 0) 1 Try.underlying22 big_info rfl .i64 .i64 n (by omega) (by omega) w
  · have hl : (List.replicate n (0 : UInt8)).length = n := by simp
    have h := run_convert_bytes_back (P := Try.prog) (w.alloc (.cells (madeCells #[.int .u8 0] n) 5)) _ _ _ ⟨w.heap.size, 0, none⟩ n (List.replicate n 0) Try.underlying22 Try.underlying5 Try.underlying9 (fun j hj => ?_)
    · rw [hl] at h
      exact h
    · rw [hl] at hj
      have e : (⟨w.heap.size, 0, none⟩ : Addr).add j = ⟨w.heap.size, j, none⟩ := by simp [Addr.add]; try omega
      have hs : (madeCells #[.int .u8 0] n).size = n := by simp [madeCells]
      rw [e, (Blk.new w 5 (madeCells #[.int .u8 0] n)).cell j]
      have h0 : j % 1 = 0 := by omega
      simp [madeCells, hj, h0]
theorem big_4096 : ∃ (O : Obj) (bs : ByteArray), bs.size = 4096 ∧
    (∀ w : World, (Instr.makeSlice 22 (.int .i64 4096) (.int .i64 4096)).run Try.prog w = .ok (.slice (some ⟨w.heap.size, 0, none⟩) 4096 4096) (w.alloc O)) ∧
    ∀ w : World, (convert 22 9 (.slice (some ⟨w.heap.size, 0, none⟩) 4096 4096)).run Try.prog (w.alloc O) = .ok (.string bs) (w.alloc O) := big_make 4096 (by omega)
theorem big_5000 : ∃ (O : Obj) (bs : ByteArray), bs.size = 5000 ∧
    (∀ w : World, (Instr.makeSlice 22 (.int .i64 5000) (.int .i64 5000)).run Try.prog w = .ok (.slice (some ⟨w.heap.size, 0, none⟩) 5000 5000) (w.alloc O)) ∧
    ∀ w : World, (convert 22 9 (.slice (some ⟨w.heap.size, 0, none⟩) 5000 5000)).run Try.prog (w.alloc O) = .ok (.string bs) (w.alloc O) := big_make 5000 (by omega)
end Go.Proofs.Ytimklfdofldhaaa
