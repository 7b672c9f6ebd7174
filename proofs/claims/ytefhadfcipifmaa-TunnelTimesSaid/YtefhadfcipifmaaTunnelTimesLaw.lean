/- TunnelTimes returns true for every argument. No condition. -/
import Derived.Test.YtefhadfcipifmaaTunTimes
import Derived.Test.YtefhadfcipifmaaArgs
namespace Go.Proofs.Ytefhadfcipifmaa
open Go.ChangeShapes Go.WideShapes Go.ChangeAt Go.RowKit Go.Deep

theorem tunnelTimes_law : LawWalk 4 Try.f4 := by
  intro H enc W base args ds p hval hA hsz
  rw [Try.params4] at hA hval hsz
  obtain ⟨v0, v1, v2, v3, d0, d1, d2, d3, p0, p1, p2, p3, rfl, rfl, rfl, h0, h1, h2, h3⟩ := trodAll_four hA
  obtain ⟨z0, rfl, zl0, zh0⟩ := arg_int (hval 0 3 v0 rfl rfl) h0
  obtain ⟨z1, rfl, zl1, zh1⟩ := arg_int (hval 1 3 v1 rfl rfl) h1
  obtain ⟨z2, rfl, zl2, zh2⟩ := arg_int (hval 2 3 v2 rfl rfl) h2
  obtain ⟨z3, rfl, zl3, zh3⟩ := arg_int (hval 3 3 v3 rfl rfl) h3
  exact times_walk z0 z1 z2 z3 W

set_option maxRecDepth 100000 in
theorem tunnelTimes_lifted (os : Os) (started : os.Started) (H : Type) (enc : TypeId × Value → H) :
    ReturnsInHanded {} Try.checked os 4 .any (Rows.tunnelTimesSpec.pre6 enc Try.prog Try.f4 Rows.tunnelTimesRow.domain false) (Rows.tunnelTimesSpec.post enc Try.prog Try.f4 false true false false) :=
  law_lifted tunnelTimes_law (by kernel_rfl) rfl (fun H ds h => by
      rw [Try.params4] at h
      match ds, h with
      | [d0, d1, d2, d3], _ => rfl) (by
      rw [Try.params4]
      intro t ht
      change t ∈ [3, 3, 3, 3] at ht
      simp only [List.mem_cons, List.not_mem_nil, or_false] at ht
      rcases ht with rfl | rfl | rfl | rfl
      all_goals exact ⟨by kernel_rfl, of_decide_eq_true (by kernel_rfl)⟩) (by kernel_rfl) Try.func4 os started H enc
    (ChangeSpec.witness6 (enc := enc) (C := Try.checked) false ⟨#[], #[.int .i64 0, .int .i64 0, .int .i64 0, .int .i64 0], []⟩ 8 (by kernel_rfl) (by kernel_rfl) (by kernel_rfl) (by kernel_rfl))

theorem tunnelTimes_proved : Rows.TunnelTimesSaid :=
  OpenClaim.holds_of_wide 4 Try.f4 rfl rfl rfl rfl rfl rfl rfl ⟨rfl, rfl, rfl, rfl, rfl⟩ rfl rfl rfl rfl rfl (by kernel_rfl) Try.func4 (by kernel_rfl)
    (of_decide_eq_true (by kernel_rfl)) (by unfold Func.isWrapper; first | (rw [if_pos (by decide +kernel)]; kernel_rfl) | (rw [if_neg (by decide +kernel)]; exact ⟨rfl, rfl⟩))
    (fun os started H enc _ => tunnelTimes_lifted os started H enc)
#print axioms tunnelTimes_proved
end Go.Proofs.Ytefhadfcipifmaa
