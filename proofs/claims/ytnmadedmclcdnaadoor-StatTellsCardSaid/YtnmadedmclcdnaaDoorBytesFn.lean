/- Copies of bytes, each call once: wlvref.Copy and bytes.Clone answer a slice of the call's own. Condition: at most 2^46 bytes. -/
import Derived.Test.YtnmadedmclcdnaaDoorTurn
namespace Go.Proofs.YtnmadedmclcdnaaDoor
open Go.RowKit

theorem info_parts {t : TypeId} {z : Value} {size bytes : Nat} (h : (Tryd.prog.info? t).map (fun i => (i.zero, i.size, i.bytes)) = some (some z, size, bytes)) :
    ∃ i, Tryd.prog.info? t = some i ∧ i.zero = some z ∧ i.size = size ∧ i.bytes = bytes := by
  rcases hi : Tryd.prog.info? t with _ | i
  · rw [hi] at h; cases h
  · rw [hi] at h
    simp only [Option.map_some, Option.some.injEq, Prod.mk.injEq] at h
    exact ⟨i, rfl, h.1, h.2.1, h.2.2⟩
theorem u8_info : (Tryd.prog.info? 5).map (fun i => (i.zero, i.size, i.bytes)) = some (some (.int .u8 0), 1, 1) := by kernel_rfl




end Go.Proofs.YtnmadedmclcdnaaDoor
