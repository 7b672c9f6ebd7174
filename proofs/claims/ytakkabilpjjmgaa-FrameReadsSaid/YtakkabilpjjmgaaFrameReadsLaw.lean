/- FrameReads returns true for every room and pieces: both parsers answer alike behind each piece. No condition. -/
import Derived.Test.YtakkabilpjjmgaaFrameRows
namespace Go.Proofs.Ytakkabilpjjmgaa
open Go.ChangeShapes Go.WideShapes Go.ChangeAt Go.RowKit Go.Deep

theorem frameReads_law : LawWalk 6 Try.f6 := by
  intro H enc W base args ds p hval hA hsz
  rw [Try.params6] at hA hval hsz
  obtain ⟨v0, v1, d0, d1, p0, p1, rfl, rfl, rfl, h0, h1⟩ := trodAll_two hA
  obtain ⟨z0, rfl, zl0, zh0⟩ := arg_int (hval 0 3 v0 rfl rfl) h0
  obtain ⟨A1, n1, c1, l1, rfl, hb1, hc1, hd1⟩ := arg_rows (hval 1 40 v1 rfl rfl) h1
  exact reads_walk z0 A1 n1 c1 l1 W hb1 (rows_len hsz (j := 1) rfl rfl hd1)

set_option maxRecDepth 100000 in
theorem frameReads_lifted (os : Os) (started : os.Started) (H : Type) (enc : TypeId × Value → H) :
    ReturnsInHanded {} Try.checked os 6 .any (Rows.frameReadsSpec.pre6 enc Try.prog Try.f6 Rows.frameReadsRow.domain false) (Rows.frameReadsSpec.post enc Try.prog Try.f6 false true false false) :=
  law_lifted frameReads_law (by kernel_rfl) rfl (fun H ds h => by
      rw [Try.params6] at h
      match ds, h with
      | [d0, d1], _ => rfl) (by
      rw [Try.params6]
      intro t ht
      change t ∈ [3, 40] at ht
      simp only [List.mem_cons, List.not_mem_nil, or_false] at ht
      rcases ht with rfl | rfl
      all_goals exact ⟨by kernel_rfl, of_decide_eq_true (by kernel_rfl)⟩) (by kernel_rfl) Try.func6 os started H enc
    (ChangeSpec.witness6 (enc := enc) (C := Try.checked) false ⟨#[], #[.int .i64 0, .slice none 0 0], []⟩ 8 (by kernel_rfl) (by kernel_rfl) (by kernel_rfl) (by kernel_rfl))

theorem frameReads_proved : Rows.FrameReadsSaid :=
  OpenClaim.holds_of_wide 6 Try.f6 rfl rfl rfl rfl rfl rfl rfl ⟨rfl, rfl, rfl, rfl, rfl⟩ rfl rfl rfl rfl rfl (by kernel_rfl) Try.func6 (by kernel_rfl)
    (of_decide_eq_true (by kernel_rfl)) (by unfold Func.isWrapper; first | (rw [if_pos (by decide +kernel)]; kernel_rfl) | (rw [if_neg (by decide +kernel)]; exact ⟨rfl, rfl⟩))
    (fun os started H enc _ => frameReads_lifted os started H enc)
#print axioms frameReads_proved
end Go.Proofs.Ytakkabilpjjmgaa
