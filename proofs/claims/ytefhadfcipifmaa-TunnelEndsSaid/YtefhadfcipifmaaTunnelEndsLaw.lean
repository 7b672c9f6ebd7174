/- TunnelEnds returns true for all bytes and either order. No condition. -/
import Derived.Test.YtefhadfcipifmaaTunEnds
import Derived.Test.YtefhadfcipifmaaArgsB
namespace Go.Proofs.Ytefhadfcipifmaa
open Go.ChangeShapes Go.WideShapes Go.ChangeAt Go.RowKit Go.Deep

theorem tunnelEnds_law : LawWalk 5 Try.f5 := by
  intro H enc W base args ds p hval hA hsz
  rw [Try.params5] at hA hval hsz
  obtain ⟨v0, v1, v2, d0, d1, d2, p0, p1, p2, rfl, rfl, rfl, h0, h1, h2⟩ := trodAll_three hA
  obtain ⟨A0, n0, c0, l0, rfl, hb0, hc0, hm0, hd0⟩ := arg_bytes (hval 0 22 v0 rfl rfl) h0
  obtain ⟨A1, n1, c1, l1, rfl, hb1, hc1, hm1, hd1⟩ := arg_bytes (hval 1 22 v1 rfl rfl) h1
  obtain ⟨b2, rfl⟩ := arg_bool (hval 2 4 v2 rfl rfl) h2
  exact tends_walk A0 n0 c0 l0 A1 n1 c1 l1 b2 W hb0 hc0 hb1 hc1

set_option maxRecDepth 100000 in
theorem tunnelEnds_lifted (os : Os) (started : os.Started) (H : Type) (enc : TypeId × Value → H) :
    ReturnsInHanded {} Try.checked os 5 .any (Rows.tunnelEndsSpec.pre6 enc Try.prog Try.f5 Rows.tunnelEndsRow.domain false) (Rows.tunnelEndsSpec.post enc Try.prog Try.f5 false true false false) :=
  law_lifted tunnelEnds_law (by kernel_rfl) rfl (fun H ds h => by
      rw [Try.params5] at h
      match ds, h with
      | [d0, d1, d2], _ => rfl) (by
      rw [Try.params5]
      intro t ht
      change t ∈ [22, 22, 4] at ht
      simp only [List.mem_cons, List.not_mem_nil, or_false] at ht
      rcases ht with rfl | rfl | rfl
      all_goals exact ⟨by kernel_rfl, of_decide_eq_true (by kernel_rfl)⟩) (by kernel_rfl) Try.func5 os started H enc
    (ChangeSpec.witness6 (enc := enc) (C := Try.checked) false ⟨#[], #[.slice none 0 0, .slice none 0 0, .bool false], []⟩ 8 (by kernel_rfl) (by kernel_rfl) (by kernel_rfl) (by kernel_rfl))

theorem tunnelEnds_proved : Rows.TunnelEndsSaid :=
  OpenClaim.holds_of_wide 5 Try.f5 rfl rfl rfl rfl rfl rfl rfl ⟨rfl, rfl, rfl, rfl, rfl⟩ rfl rfl rfl rfl rfl (by kernel_rfl) Try.func5 (by kernel_rfl)
    (of_decide_eq_true (by kernel_rfl)) (by unfold Func.isWrapper; first | (rw [if_pos (by decide +kernel)]; kernel_rfl) | (rw [if_neg (by decide +kernel)]; exact ⟨rfl, rfl⟩))
    (fun os started H enc _ => tunnelEnds_lifted os started H enc)
#print axioms tunnelEnds_proved
end Go.Proofs.Ytefhadfcipifmaa
