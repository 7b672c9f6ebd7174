/- HuffLong returns true for all numbers and bytes: codes have 5 to 30 bits, and the seventeen frequent signs have 5 or 6. No condition. -/
import Derived.Test.YtimklfdofldhaaaHuffLong
import Derived.Test.YtimklfdofldhaaaArgs
namespace Go.Proofs.Ytimklfdofldhaaa
open Go.ChangeShapes Go.WideShapes Go.ChangeAt Go.RowKit Go.Deep

theorem huffLong_law : LawWalk 7 Try.f7 := by
  intro H enc W base args ds p hval hA hsz
  rw [Try.params7] at hA hval hsz
  obtain ⟨v0, v1, d0, d1, p0, p1, rfl, rfl, rfl, h0, h1⟩ := trodAll_two hA
  obtain ⟨z0, rfl, zl0, zh0⟩ := arg_int (hval 0 3 v0 rfl rfl) h0
  obtain ⟨z1, rfl, zl1, zh1⟩ := arg_byte (hval 1 5 v1 rfl rfl) h1
  exact long_walk z0 z1 W zh0 zl1 (by omega)

set_option maxRecDepth 100000 in
theorem huffLong_lifted (os : Os) (started : os.Started) (H : Type) (enc : TypeId × Value → H) :
    ReturnsInHanded {} Try.checked os 7 .any (Rows.huffLongSpec.pre6 enc Try.prog Try.f7 Rows.huffLongRow.domain false) (Rows.huffLongSpec.post enc Try.prog Try.f7 false true false false) :=
  law_lifted huffLong_law (by kernel_rfl) rfl (fun H ds h => by
      rw [Try.params7] at h
      match ds, h with
      | [d0, d1], _ => rfl) (by
      rw [Try.params7]
      intro t ht
      change t ∈ [3, 5] at ht
      simp only [List.mem_cons, List.not_mem_nil, or_false] at ht
      rcases ht with rfl | rfl
      all_goals exact ⟨by kernel_rfl, of_decide_eq_true (by kernel_rfl)⟩) (by kernel_rfl) Try.func7 os started H enc
    (ChangeSpec.witness6 (enc := enc) (C := Try.checked) false ⟨#[], #[.int .i64 0, .int .u8 0], []⟩ 8 (by kernel_rfl) (by kernel_rfl) (by kernel_rfl) (by kernel_rfl))

theorem huffLong_proved : Rows.HuffLongSaid :=
  OpenClaim.holds_of_wide 7 Try.f7 rfl rfl rfl rfl rfl rfl rfl ⟨rfl, rfl, rfl, rfl, rfl⟩ rfl rfl rfl rfl rfl (by kernel_rfl) Try.func7 (by kernel_rfl)
    (of_decide_eq_true (by kernel_rfl)) (by unfold Func.isWrapper; first | (rw [if_pos (by decide +kernel)]; kernel_rfl) | (rw [if_neg (by decide +kernel)]; exact ⟨rfl, rfl⟩))
    (fun os started H enc _ => huffLong_lifted os started H enc)
#print axioms huffLong_proved
end Go.Proofs.Ytimklfdofldhaaa
