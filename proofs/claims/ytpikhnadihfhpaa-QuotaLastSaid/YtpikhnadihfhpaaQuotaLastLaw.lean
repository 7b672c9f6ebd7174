/- QuotaLast returns true for all numbers. No condition. -/
import Derived.Test.YtpikhnadihfhpaaQLast
import Derived.Test.YtpikhnadihfhpaaArgs
namespace Go.Proofs.Ytpikhnadihfhpaa
open Go.ChangeShapes Go.WideShapes Go.ChangeAt Go.RowKit Go.Deep

theorem quotaLast_law : LawWalk 3 Try.f3 := by
  intro H enc W base args ds p hval hA hsz
  rw [Try.params3] at hA hval hsz
  obtain ⟨v0, v1, v2, d0, d1, d2, p0, p1, p2, rfl, rfl, rfl, h0, h1, h2⟩ := trodAll_three hA
  obtain ⟨z0, rfl, zl0, zh0⟩ := arg_int (hval 0 3 v0 rfl rfl) h0
  obtain ⟨z1, rfl, zl1, zh1⟩ := arg_int (hval 1 3 v1 rfl rfl) h1
  obtain ⟨z2, rfl, zl2, zh2⟩ := arg_int (hval 2 3 v2 rfl rfl) h2
  exact last_walk z0 z1 z2 W

set_option maxRecDepth 100000 in
theorem quotaLast_lifted (os : Os) (started : os.Started) (H : Type) (enc : TypeId × Value → H) :
    ReturnsInHanded {} Try.checked os 3 .any (Rows.quotaLastSpec.pre6 enc Try.prog Try.f3 Rows.quotaLastRow.domain false) (Rows.quotaLastSpec.post enc Try.prog Try.f3 false true false false) :=
  law_lifted quotaLast_law (by kernel_rfl) rfl (fun H ds h => by
      rw [Try.params3] at h
      match ds, h with
      | [d0, d1, d2], _ => rfl) (by
      rw [Try.params3]
      intro t ht
      change t ∈ [3, 3, 3] at ht
      simp only [List.mem_cons, List.not_mem_nil, or_false] at ht
      rcases ht with rfl | rfl | rfl
      all_goals exact ⟨by kernel_rfl, of_decide_eq_true (by kernel_rfl)⟩) (by kernel_rfl) Try.func3 os started H enc
    (ChangeSpec.witness6 (enc := enc) (C := Try.checked) false ⟨#[], #[.int .i64 0, .int .i64 0, .int .i64 0], []⟩ 8 (by kernel_rfl) (by kernel_rfl) (by kernel_rfl) (by kernel_rfl))

theorem quotaLast_proved : Rows.QuotaLastSaid :=
  OpenClaim.holds_of_wide 3 Try.f3 rfl rfl rfl rfl rfl rfl rfl ⟨rfl, rfl, rfl, rfl, rfl⟩ rfl rfl rfl rfl rfl (by kernel_rfl) Try.func3 (by kernel_rfl)
    (of_decide_eq_true (by kernel_rfl)) (by unfold Func.isWrapper; first | (rw [if_pos (by decide +kernel)]; kernel_rfl) | (rw [if_neg (by decide +kernel)]; exact ⟨rfl, rfl⟩))
    (fun os started H enc _ => quotaLast_lifted os started H enc)
#print axioms quotaLast_proved
end Go.Proofs.Ytpikhnadihfhpaa
