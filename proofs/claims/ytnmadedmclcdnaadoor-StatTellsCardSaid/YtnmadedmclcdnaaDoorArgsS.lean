/- Numbers and texts that came in. No condition. -/
import Derived.Test.YtnmadedmclcdnaaDoorOpen
import Derived.Test.YtnmadedmclcdnaaDoorTurn
namespace Go.Proofs.YtnmadedmclcdnaaDoor
open Go.ChangeShapes Go.WideShapes Go.ChangeAt Go.RowKit Go.Deep
section
variable {H : Type} {enc : TypeId × Value → H} {W : World} {b0 base : Nat} {spare : Nat → Bool} {held : Bool} {v : Value} {d : DataW H} {p : List MemPlace}
theorem arg_num (hv : Value.okWide Tryd.prog W .any b0 3 v) (_h : DataW.Trod enc Tryd.prog W base spare held 3 v d p) : ∃ z, v = .int .i64 z := okWide_int Tryd.underlying3 hv
theorem arg_text (hv : Value.okWide Tryd.prog W .any b0 9 v) (_h : DataW.Trod enc Tryd.prog W base spare held 9 v d p) : ∃ l : List UInt8, v = .string ⟨l.toArray⟩ := by
  obtain ⟨⟨a⟩, rfl⟩ := okWide_string Tryd.underlying9 hv
  exact ⟨a.toList, by simp⟩
end
end Go.Proofs.YtnmadedmclcdnaaDoor
