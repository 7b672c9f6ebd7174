/- FrameBack returns true for every slice of frames, every size of pieces and every room: frames come out of the parser as they were put, up to the first one that is longer than the room, which stops it. No condition. -/
import Derived.Test.YtakkabilpjjmgaaFrameBack
import Derived.Test.YtakkabilpjjmgaaFrameOpen
import Derived.Test.YtakkabilpjjmgaaArgs
namespace Go.Proofs.Ytakkabilpjjmgaa
open Go.ChangeShapes Go.WideShapes Go.ChangeAt Go.RowKit Go.Deep

theorem frameBack_law : LawWalk 7 Try.f7 := by
  intro H enc W base args ds p hval hA hsz
  rw [Try.params7] at hA hval hsz
  obtain ⟨v0, v1, v2, d0, d1, d2, p0, p1, p2, rfl, rfl, rfl, h0, h1, h2⟩ := trodAll_three hA
  obtain ⟨A0, n0, c0, l0, rfl, hb0, hc0, hd0⟩ := arg_frames (hval 0 22 v0 rfl rfl) h0
  obtain ⟨z1, rfl, zl1, zh1⟩ := arg_int (hval 1 3 v1 rfl rfl) h1
  obtain ⟨z2, rfl, zl2, zh2⟩ := arg_int (hval 2 3 v2 rfl rfl) h2
  exact back_walk A0 n0 c0 l0 z1 z2 W hb0 (frames_len hsz (j := 0) rfl rfl hd0) zh1 zh2

set_option maxRecDepth 100000 in
theorem frameBack_lifted (os : Os) (started : os.Started) (H : Type) (enc : TypeId × Value → H) :
    ReturnsInHanded {} Try.checked os 7 .any (Rows.frameBackSpec.pre6 enc Try.prog Try.f7 Rows.frameBackRow.domain false) (Rows.frameBackSpec.post enc Try.prog Try.f7 false true false false) :=
  law_lifted frameBack_law (by kernel_rfl) rfl (fun H ds h => by
      rw [Try.params7] at h
      match ds, h with
      | [d0, d1, d2], _ => rfl) (by
      rw [Try.params7]
      intro t ht
      change t ∈ [22, 3, 3] at ht
      simp only [List.mem_cons, List.not_mem_nil, or_false] at ht
      rcases ht with rfl | rfl | rfl
      all_goals exact ⟨by kernel_rfl, of_decide_eq_true (by kernel_rfl)⟩) (by kernel_rfl) Try.func7 os started H enc
    (ChangeSpec.witness6 (enc := enc) (C := Try.checked) false ⟨#[], #[.slice none 0 0, .int .i64 0, .int .i64 0], []⟩ 8 (by kernel_rfl) (by kernel_rfl) (by kernel_rfl) (by kernel_rfl))

theorem frameBack_proved : Rows.FrameBackSaid :=
  OpenClaim.holds_of_wide 7 Try.f7 rfl rfl rfl rfl rfl rfl rfl ⟨rfl, rfl, rfl, rfl, rfl⟩ rfl rfl rfl rfl rfl (by kernel_rfl) Try.func7 (by kernel_rfl)
    (of_decide_eq_true (by kernel_rfl)) (by unfold Func.isWrapper; first | (rw [if_pos (by decide +kernel)]; kernel_rfl) | (rw [if_neg (by decide +kernel)]; exact ⟨rfl, rfl⟩))
    (fun os started H enc _ => frameBack_lifted os started H enc)
#print axioms frameBack_proved
end Go.Proofs.Ytakkabilpjjmgaa
