/- HuffTells returns true for all bytes and rooms: Code, Bits, Encode and Decode answer as the reference. No condition. -/
import Derived.Test.YtimklfdofldhaaaHuffTells
import Derived.Test.YtimklfdofldhaaaArgs
namespace Go.Proofs.Ytimklfdofldhaaa
open Go.ChangeShapes Go.WideShapes Go.ChangeAt Go.RowKit Go.Deep

theorem huffTells_law : LawWalk 5 Try.f5 := by
  intro H enc W base args ds p hval hA hsz
  rw [Try.params5] at hA hval hsz
  obtain ⟨v0, v1, d0, d1, p0, p1, rfl, rfl, rfl, h0, h1⟩ := trodAll_two hA
  obtain ⟨A0, n0, c0, l0, rfl, hb0, hc0, hm0, hd0⟩ := arg_bytes (hval 0 22 v0 rfl rfl) h0
  obtain ⟨z1, rfl, zl1, zh1⟩ := arg_int (hval 1 3 v1 rfl rfl) h1
  exact tells_walk A0 n0 c0 l0 z1 W hb0 hm0

set_option maxRecDepth 100000 in
theorem huffTells_lifted (os : Os) (started : os.Started) (H : Type) (enc : TypeId × Value → H) :
    ReturnsInHanded {} Try.checked os 5 .any (Rows.huffTellsSpec.pre6 enc Try.prog Try.f5 Rows.huffTellsRow.domain false) (Rows.huffTellsSpec.post enc Try.prog Try.f5 false true false false) :=
  law_lifted huffTells_law (by kernel_rfl) rfl (fun H ds h => by
      rw [Try.params5] at h
      match ds, h with
      | [d0, d1], _ => rfl) (by
      rw [Try.params5]
      intro t ht
      change t ∈ [22, 3] at ht
      simp only [List.mem_cons, List.not_mem_nil, or_false] at ht
      rcases ht with rfl | rfl
      all_goals exact ⟨by kernel_rfl, of_decide_eq_true (by kernel_rfl)⟩) (by kernel_rfl) Try.func5 os started H enc
    (ChangeSpec.witness6 (enc := enc) (C := Try.checked) false ⟨#[], #[.slice none 0 0, .int .i64 0], []⟩ 8 (by kernel_rfl) (by kernel_rfl) (by kernel_rfl) (by kernel_rfl))

theorem huffTells_proved : Rows.HuffTellsSaid :=
  OpenClaim.holds_of_wide 5 Try.f5 rfl rfl rfl rfl rfl rfl rfl ⟨rfl, rfl, rfl, rfl, rfl⟩ rfl rfl rfl rfl rfl (by kernel_rfl) Try.func5 (by kernel_rfl)
    (of_decide_eq_true (by kernel_rfl)) (by unfold Func.isWrapper; first | (rw [if_pos (by decide +kernel)]; kernel_rfl) | (rw [if_neg (by decide +kernel)]; exact ⟨rfl, rfl⟩))
    (fun os started H enc _ => huffTells_lifted os started H enc)
#print axioms huffTells_proved
end Go.Proofs.Ytimklfdofldhaaa
