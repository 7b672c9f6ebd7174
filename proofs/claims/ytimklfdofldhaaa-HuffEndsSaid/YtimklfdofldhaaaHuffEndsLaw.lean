/- HuffEnds returns true for all bytes: a cleared bit of the padding answers as the reference, four bytes of ones behind are an error, nothing is nothing. No condition. -/
import Derived.Test.YtimklfdofldhaaaHuffEnds
import Derived.Test.YtimklfdofldhaaaArgs
namespace Go.Proofs.Ytimklfdofldhaaa
open Go.ChangeShapes Go.WideShapes Go.ChangeAt Go.RowKit Go.Deep

theorem huffEnds_law : LawWalk 4 Try.f4 := by
  intro H enc W base args ds p hval hA hsz
  rw [Try.params4] at hA hval hsz
  obtain ⟨v0, d0, rfl, rfl, h0⟩ := trodAll_one hA
  obtain ⟨A0, n0, c0, l0, rfl, hb0, hc0, hm0, hd0⟩ := arg_bytes (hval 0 22 v0 rfl rfl) h0
  exact ends_walk A0 n0 c0 l0 W hb0 hm0

set_option maxRecDepth 100000 in
theorem huffEnds_lifted (os : Os) (started : os.Started) (H : Type) (enc : TypeId × Value → H) :
    ReturnsInHanded {} Try.checked os 4 .any (Rows.huffEndsSpec.pre6 enc Try.prog Try.f4 Rows.huffEndsRow.domain false) (Rows.huffEndsSpec.post enc Try.prog Try.f4 false true false false) :=
  law_lifted huffEnds_law (by kernel_rfl) rfl (fun H ds h => by
      rw [Try.params4] at h
      match ds, h with
      | [d0], _ => rfl) (by
      rw [Try.params4]
      intro t ht
      change t ∈ [22] at ht
      simp only [List.mem_cons, List.not_mem_nil, or_false] at ht
      rcases ht with rfl
      all_goals exact ⟨by kernel_rfl, of_decide_eq_true (by kernel_rfl)⟩) (by kernel_rfl) Try.func4 os started H enc
    (ChangeSpec.witness6 (enc := enc) (C := Try.checked) false ⟨#[], #[.slice none 0 0], []⟩ 8 (by kernel_rfl) (by kernel_rfl) (by kernel_rfl) (by kernel_rfl))

theorem huffEnds_proved : Rows.HuffEndsSaid :=
  OpenClaim.holds_of_wide 4 Try.f4 rfl rfl rfl rfl rfl rfl rfl ⟨rfl, rfl, rfl, rfl, rfl⟩ rfl rfl rfl rfl rfl (by kernel_rfl) Try.func4 (by kernel_rfl)
    (of_decide_eq_true (by kernel_rfl)) (by unfold Func.isWrapper; first | (rw [if_pos (by decide +kernel)]; kernel_rfl) | (rw [if_neg (by decide +kernel)]; exact ⟨rfl, rfl⟩))
    (fun os started H enc _ => huffEnds_lifted os started H enc)
#print axioms huffEnds_proved
end Go.Proofs.Ytimklfdofldhaaa
