/- TunnelPieces returns true for all bytes and pieces. No condition. -/
import Derived.Test.YtefhadfcipifmaaTunPieces
import Derived.Test.YtefhadfcipifmaaArgs
namespace Go.Proofs.Ytefhadfcipifmaa
open Go.ChangeShapes Go.WideShapes Go.ChangeAt Go.RowKit Go.Deep

theorem tunnelPieces_law : LawWalk 3 Try.f3 := by
  intro H enc W base args ds p hval hA hsz
  rw [Try.params3] at hA hval hsz
  obtain ⟨v0, v1, v2, d0, d1, d2, p0, p1, p2, rfl, rfl, rfl, h0, h1, h2⟩ := trodAll_three hA
  obtain ⟨A0, n0, c0, l0, rfl, hb0, hc0, hm0, hd0⟩ := arg_bytes (hval 0 22 v0 rfl rfl) h0
  obtain ⟨A1, n1, c1, l1, rfl, hb1, hc1, hm1, hd1, hr1⟩ := arg_ints (hval 1 23 v1 rfl rfl) h1
  obtain ⟨A2, n2, c2, l2, rfl, hb2, hc2, hm2, hd2, hr2⟩ := arg_ints (hval 2 23 v2 rfl rfl) h2
  exact tpieces_walk A0 n0 c0 l0 A1 n1 c1 l1 A2 n2 c2 l2 W hb0 hc0 hb1 hb2

set_option maxRecDepth 100000 in
theorem tunnelPieces_lifted (os : Os) (started : os.Started) (H : Type) (enc : TypeId × Value → H) :
    ReturnsInHanded {} Try.checked os 3 .any (Rows.tunnelPiecesSpec.pre6 enc Try.prog Try.f3 Rows.tunnelPiecesRow.domain false) (Rows.tunnelPiecesSpec.post enc Try.prog Try.f3 false true false false) :=
  law_lifted tunnelPieces_law (by kernel_rfl) rfl (fun H ds h => by
      rw [Try.params3] at h
      match ds, h with
      | [d0, d1, d2], _ => rfl) (by
      rw [Try.params3]
      intro t ht
      change t ∈ [22, 23, 23] at ht
      simp only [List.mem_cons, List.not_mem_nil, or_false] at ht
      rcases ht with rfl | rfl | rfl
      all_goals exact ⟨by kernel_rfl, of_decide_eq_true (by kernel_rfl)⟩) (by kernel_rfl) Try.func3 os started H enc
    (ChangeSpec.witness6 (enc := enc) (C := Try.checked) false ⟨#[], #[.slice none 0 0, .slice none 0 0, .slice none 0 0], []⟩ 8 (by kernel_rfl) (by kernel_rfl) (by kernel_rfl) (by kernel_rfl))

theorem tunnelPieces_proved : Rows.TunnelPiecesSaid :=
  OpenClaim.holds_of_wide 3 Try.f3 rfl rfl rfl rfl rfl rfl rfl ⟨rfl, rfl, rfl, rfl, rfl⟩ rfl rfl rfl rfl rfl (by kernel_rfl) Try.func3 (by kernel_rfl)
    (of_decide_eq_true (by kernel_rfl)) (by unfold Func.isWrapper; first | (rw [if_pos (by decide +kernel)]; kernel_rfl) | (rw [if_neg (by decide +kernel)]; exact ⟨rfl, rfl⟩))
    (fun os started H enc _ => tunnelPieces_lifted os started H enc)
#print axioms tunnelPieces_proved
end Go.Proofs.Ytefhadfcipifmaa
