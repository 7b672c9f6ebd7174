/- PipePieces returns true for every room, bytes and pieces: all that went in comes out, in order, and another pipe is not turned. No condition. -/
import Derived.Test.YtdplkknlpfdljaaPipePieces
import Derived.Test.YtdplkknlpfdljaaArgs
namespace Go.Proofs.Ytdplkknlpfdljaa
open Go.ChangeShapes Go.WideShapes Go.ChangeAt Go.RowKit Go.Deep

theorem pipePieces_law : LawWalk 3 Try.f3 := by
  intro H enc W base args ds p hval hA hsz
  rw [Try.params3] at hA hval hsz
  obtain ⟨v0, v1, v2, v3, d0, d1, d2, d3, p0, p1, p2, p3, rfl, rfl, rfl, h0, h1, h2, h3⟩ := trodAll_four hA
  obtain ⟨z0, rfl, zl0, zh0⟩ := arg_int (hval 0 3 v0 rfl rfl) h0
  obtain ⟨A1, n1, c1, l1, rfl, hb1, hc1, hm1, hd1⟩ := arg_bytes (hval 1 22 v1 rfl rfl) h1
  obtain ⟨A2, n2, c2, l2, rfl, hb2, hc2, hm2, hd2, hr2⟩ := arg_ints (hval 2 23 v2 rfl rfl) h2
  obtain ⟨A3, n3, c3, l3, rfl, hb3, hc3, hm3, hd3, hr3⟩ := arg_ints (hval 3 23 v3 rfl rfl) h3
  exact pieces_walk z0 A1 n1 c1 l1 A2 n2 c2 l2 A3 n3 c3 l3 W hb1 hc1 hb2 hb3

set_option maxRecDepth 100000 in
theorem pipePieces_lifted (os : Os) (started : os.Started) (H : Type) (enc : TypeId × Value → H) :
    ReturnsInHanded {} Try.checked os 3 .any (Rows.pipePiecesSpec.pre6 enc Try.prog Try.f3 Rows.pipePiecesRow.domain false) (Rows.pipePiecesSpec.post enc Try.prog Try.f3 false true false false) :=
  law_lifted pipePieces_law (by kernel_rfl) rfl (fun H ds h => by
      rw [Try.params3] at h
      match ds, h with
      | [d0, d1, d2, d3], _ => rfl) (by
      rw [Try.params3]
      intro t ht
      change t ∈ [3, 22, 23, 23] at ht
      simp only [List.mem_cons, List.not_mem_nil, or_false] at ht
      rcases ht with rfl | rfl | rfl | rfl
      all_goals exact ⟨by kernel_rfl, of_decide_eq_true (by kernel_rfl)⟩) (by kernel_rfl) Try.func3 os started H enc
    (ChangeSpec.witness6 (enc := enc) (C := Try.checked) false ⟨#[], #[.int .i64 0, .slice none 0 0, .slice none 0 0, .slice none 0 0], []⟩ 8 (by kernel_rfl) (by kernel_rfl) (by kernel_rfl) (by kernel_rfl))

theorem pipePieces_proved : Rows.PipePiecesSaid :=
  OpenClaim.holds_of_wide 3 Try.f3 rfl rfl rfl rfl rfl rfl rfl ⟨rfl, rfl, rfl, rfl, rfl⟩ rfl rfl rfl rfl rfl (by kernel_rfl) Try.func3 (by kernel_rfl)
    (of_decide_eq_true (by kernel_rfl)) (by unfold Func.isWrapper; first | (rw [if_pos (by decide +kernel)]; kernel_rfl) | (rw [if_neg (by decide +kernel)]; exact ⟨rfl, rfl⟩))
    (fun os started H enc _ => pipePieces_lifted os started H enc)
#print axioms pipePieces_proved
end Go.Proofs.Ytdplkknlpfdljaa
