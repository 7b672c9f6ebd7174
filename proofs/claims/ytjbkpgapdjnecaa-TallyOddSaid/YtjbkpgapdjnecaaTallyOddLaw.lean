/- TallyOdd returns true for all two doubles: parts that are fractions, negative, too large or no numbers make no pair, whichever part it is. No condition. -/
import Derived.Test.YtjbkpgapdjnecaaTallyOdd
import Derived.Test.YtjbkpgapdjnecaaArgsF
namespace Go.Proofs.Ytjbkpgapdjnecaa
open Go.ChangeShapes Go.WideShapes Go.ChangeAt Go.RowKit Go.Deep

theorem tallyOdd_law : LawWalk 4 Try.f4 := by
  intro H enc W base args ds p hval hA hsz
  rw [Try.params4] at hA hval hsz
  obtain ⟨v0, v1, d0, d1, p0, p1, rfl, rfl, rfl, h0, h1⟩ := trodAll_two hA
  obtain ⟨z0, rfl⟩ := arg_float (hval 0 33 v0 rfl rfl) h0
  obtain ⟨z1, rfl⟩ := arg_float (hval 1 33 v1 rfl rfl) h1
  exact odd_walk z0 z1 W

set_option maxRecDepth 100000 in
theorem tallyOdd_lifted (os : Os) (started : os.Started) (H : Type) (enc : TypeId × Value → H) :
    ReturnsInHanded {} Try.checked os 4 .any (Rows.tallyOddSpec.pre6 enc Try.prog Try.f4 Rows.tallyOddRow.domain false) (Rows.tallyOddSpec.post enc Try.prog Try.f4 false true false false) :=
  law_lifted tallyOdd_law (by kernel_rfl) rfl (fun H ds h => by
      rw [Try.params4] at h
      match ds, h with
      | [d0, d1], _ => rfl) (by
      rw [Try.params4]
      intro t ht
      change t ∈ [33, 33] at ht
      simp only [List.mem_cons, List.not_mem_nil, or_false] at ht
      rcases ht with rfl | rfl
      all_goals exact ⟨by kernel_rfl, of_decide_eq_true (by kernel_rfl)⟩) (by kernel_rfl) Try.func4 os started H enc
    (ChangeSpec.witness6 (enc := enc) (C := Try.checked) false ⟨#[], #[.float .f64 0, .float .f64 0], []⟩ 8 (by kernel_rfl) (by kernel_rfl) (by kernel_rfl) (by kernel_rfl))

theorem tallyOdd_proved : Rows.TallyOddSaid :=
  OpenClaim.holds_of_wide 4 Try.f4 rfl rfl rfl rfl rfl rfl rfl ⟨rfl, rfl, rfl, rfl, rfl⟩ rfl rfl rfl rfl rfl (by kernel_rfl) Try.func4 (by kernel_rfl)
    (of_decide_eq_true (by kernel_rfl)) (by unfold Func.isWrapper; first | (rw [if_pos (by decide +kernel)]; kernel_rfl) | (rw [if_neg (by decide +kernel)]; exact ⟨rfl, rfl⟩))
    (fun os started H enc _ => tallyOdd_lifted os started H enc)
#print axioms tallyOdd_proved
end Go.Proofs.Ytjbkpgapdjnecaa
