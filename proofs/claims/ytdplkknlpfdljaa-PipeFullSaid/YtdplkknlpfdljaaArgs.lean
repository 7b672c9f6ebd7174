/- Arguments of plain types, opened to the words of these texts. No condition. -/
import Derived.Test.YtdplkknlpfdljaaOpen
namespace Go.Proofs.Ytdplkknlpfdljaa
open Go.ChangeShapes Go.WideShapes Go.ChangeAt Go.RowKit Go.Deep

theorem TryA.cells_u8 : Try.prog.cellsOf 5 = 1 := by kernel_rfl
theorem TryA.bytes_u8 : Try.prog.bytesOf 5 = 1 := by kernel_rfl

section
variable {H : Type} {enc : TypeId × Value → H} {W : World} {b0 base : Nat} {spare : Nat → Bool} {held : Bool} {v : Value} {d : DataW H} {p : List MemPlace}

/-- A []byte. -/
theorem arg_bytes (hv : Value.okWide Try.prog W .any b0 22 v) (h : DataW.Trod enc Try.prog W base spare held 22 v d p) :
    ∃ A n c l, v = .slice A n c ∧ Bs W A n l ∧ n ≤ c ∧ n ≤ 9223372036854775807 ∧ (d = .nil ∧ n = 0 ∨ ∃ elems sp, d = .slice elems sp ∧ elems.length = n) := by
  obtain ⟨a0, len, cap, rfl⟩ := okWide_slice Try.underlying22 hv
  obtain ⟨fuel, hf⟩ := h
  obtain ⟨A, n, c, l, hcs, hb, hle, hm, hd⟩ := trod_bytes Try.underlying22 Try.underlying5 TryA.cells_u8 hf
  simp [Value.cells] at hcs
  obtain ⟨rfl, rfl, rfl⟩ := hcs
  exact ⟨_, _, _, l, rfl, hb, hle, by unfold maxLen at hm; omega, by
    rcases hd with ⟨h1, h2⟩ | ⟨e, sp, h1, h2, _⟩
    · exact .inl ⟨h1, by omega⟩
    · exact .inr ⟨e, sp, h1, h2⟩⟩

/-- An int. -/
theorem arg_int (hv : Value.okWide Try.prog W .any b0 3 v) (h : DataW.Trod enc Try.prog W base spare held 3 v d p) :
    ∃ n, v = .int .i64 n ∧ -9223372036854775808 ≤ n ∧ n ≤ 9223372036854775807 := by
  obtain ⟨n, rfl, _, _, hw⟩ := open_int Try.underlying3 hv h
  have := bounds_i64 hw
  exact ⟨n, rfl, by omega, by omega⟩

/-- A byte. -/
theorem arg_byte (hv : Value.okWide Try.prog W .any b0 5 v) (h : DataW.Trod enc Try.prog W base spare held 5 v d p) :
    ∃ n, v = .int .u8 n ∧ 0 ≤ n ∧ n < 256 := by
  obtain ⟨n, rfl, _, _, hw⟩ := open_int Try.underlying5 hv h
  have := byte_wf hw
  exact ⟨n, rfl, by omega, by omega⟩
end
end Go.Proofs.Ytdplkknlpfdljaa
