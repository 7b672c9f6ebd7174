/- PartCuts returns true for every stream and both cuts: bodies that are a byte too short or too long are FrameSize faults, of the stream for Priority and of the connection otherwise. No condition. -/
import Derived.Test.YtdiahjeplaegnaaPartCuts
import Derived.Test.YtdiahjeplaegnaaArgs
namespace Go.Proofs.Ytdiahjeplaegnaa
open Go.ChangeShapes Go.WideShapes Go.ChangeAt Go.RowKit Go.Deep

theorem partCuts_law : LawWalk 5 Try.f5 := by
  intro H enc W base args ds p hval hA hsz
  rw [Try.params5] at hA hval hsz
  obtain ⟨v0, v1, d0, d1, p0, p1, rfl, rfl, rfl, h0, h1⟩ := trodAll_two hA
  obtain ⟨z0, rfl, zl0, zh0⟩ := arg_int (hval 0 3 v0 rfl rfl) h0
  obtain ⟨z1, rfl, zl1, zh1⟩ := arg_int (hval 1 3 v1 rfl rfl) h1
  exact cuts_walk z0 z1 W

set_option maxRecDepth 100000 in
theorem partCuts_lifted (os : Os) (started : os.Started) (H : Type) (enc : TypeId × Value → H) :
    ReturnsInHanded {} Try.checked os 5 .any (Rows.partCutsSpec.pre6 enc Try.prog Try.f5 Rows.partCutsRow.domain false) (Rows.partCutsSpec.post enc Try.prog Try.f5 false true false false) :=
  law_lifted partCuts_law (by kernel_rfl) rfl (fun H ds h => by
      rw [Try.params5] at h
      match ds, h with
      | [d0, d1], _ => rfl) (by
      rw [Try.params5]
      intro t ht
      change t ∈ [3, 3] at ht
      simp only [List.mem_cons, List.not_mem_nil, or_false] at ht
      rcases ht with rfl | rfl
      all_goals exact ⟨by kernel_rfl, of_decide_eq_true (by kernel_rfl)⟩) (by kernel_rfl) Try.func5 os started H enc
    (ChangeSpec.witness6 (enc := enc) (C := Try.checked) false ⟨#[], #[.int .i64 0, .int .i64 0], []⟩ 8 (by kernel_rfl) (by kernel_rfl) (by kernel_rfl) (by kernel_rfl))

theorem partCuts_proved : Rows.PartCutsSaid :=
  OpenClaim.holds_of_wide 5 Try.f5 rfl rfl rfl rfl rfl rfl rfl ⟨rfl, rfl, rfl, rfl, rfl⟩ rfl rfl rfl rfl rfl (by kernel_rfl) Try.func5 (by kernel_rfl)
    (of_decide_eq_true (by kernel_rfl)) (by unfold Func.isWrapper; first | (rw [if_pos (by decide +kernel)]; kernel_rfl) | (rw [if_neg (by decide +kernel)]; exact ⟨rfl, rfl⟩))
    (fun os started H enc _ => partCuts_lifted os started H enc)
#print axioms partCuts_proved
end Go.Proofs.Ytdiahjeplaegnaa
