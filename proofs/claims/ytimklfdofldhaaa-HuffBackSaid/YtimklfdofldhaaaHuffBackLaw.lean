/- HuffBack returns true for all bytes: Decode reads what Encode wrote, no code begins another one, eight more ones are an error, and a room that is one too small is an error. No condition. -/
import Derived.Test.YtimklfdofldhaaaHuffBack
import Derived.Test.YtimklfdofldhaaaArgs
namespace Go.Proofs.Ytimklfdofldhaaa
open Go.ChangeShapes Go.WideShapes Go.ChangeAt Go.RowKit Go.Deep

theorem huffBack_law : LawWalk 6 Try.f6 := by
  intro H enc W base args ds p hval hA hsz
  rw [Try.params6] at hA hval hsz
  obtain ⟨v0, v1, v2, d0, d1, d2, p0, p1, p2, rfl, rfl, rfl, h0, h1, h2⟩ := trodAll_three hA
  obtain ⟨A0, n0, c0, l0, rfl, hb0, hc0, hm0, hd0⟩ := arg_bytes (hval 0 22 v0 rfl rfl) h0
  obtain ⟨z1, rfl, zl1, zh1⟩ := arg_byte (hval 1 5 v1 rfl rfl) h1
  obtain ⟨z2, rfl, zl2, zh2⟩ := arg_byte (hval 2 5 v2 rfl rfl) h2
  exact back_walk A0 n0 c0 l0 z1 z2 W hb0 hm0 zl1 (by omega) zl2 (by omega)

set_option maxRecDepth 100000 in
theorem huffBack_lifted (os : Os) (started : os.Started) (H : Type) (enc : TypeId × Value → H) :
    ReturnsInHanded {} Try.checked os 6 .any (Rows.huffBackSpec.pre6 enc Try.prog Try.f6 Rows.huffBackRow.domain false) (Rows.huffBackSpec.post enc Try.prog Try.f6 false true false false) :=
  law_lifted huffBack_law (by kernel_rfl) rfl (fun H ds h => by
      rw [Try.params6] at h
      match ds, h with
      | [d0, d1, d2], _ => rfl) (by
      rw [Try.params6]
      intro t ht
      change t ∈ [22, 5, 5] at ht
      simp only [List.mem_cons, List.not_mem_nil, or_false] at ht
      rcases ht with rfl | rfl | rfl
      all_goals exact ⟨by kernel_rfl, of_decide_eq_true (by kernel_rfl)⟩) (by kernel_rfl) Try.func6 os started H enc
    (ChangeSpec.witness6 (enc := enc) (C := Try.checked) false ⟨#[], #[.slice none 0 0, .int .u8 0, .int .u8 0], []⟩ 8 (by kernel_rfl) (by kernel_rfl) (by kernel_rfl) (by kernel_rfl))

theorem huffBack_proved : Rows.HuffBackSaid :=
  OpenClaim.holds_of_wide 6 Try.f6 rfl rfl rfl rfl rfl rfl rfl ⟨rfl, rfl, rfl, rfl, rfl⟩ rfl rfl rfl rfl rfl (by kernel_rfl) Try.func6 (by kernel_rfl)
    (of_decide_eq_true (by kernel_rfl)) (by unfold Func.isWrapper; first | (rw [if_pos (by decide +kernel)]; kernel_rfl) | (rw [if_neg (by decide +kernel)]; exact ⟨rfl, rfl⟩))
    (fun os started H enc _ => huffBack_lifted os started H enc)
#print axioms huffBack_proved
end Go.Proofs.Ytimklfdofldhaaa
