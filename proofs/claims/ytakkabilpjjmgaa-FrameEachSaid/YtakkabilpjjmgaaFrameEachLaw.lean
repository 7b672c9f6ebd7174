/- FrameEach returns true for every two frames and leaves them as they were: the head of an encoding tells the frame, and encodings are equal exactly if the frames are. No condition. -/
import Derived.Test.YtakkabilpjjmgaaFrameOpen
import Derived.Test.YtakkabilpjjmgaaFrameEach
namespace Go.Proofs.Ytakkabilpjjmgaa
open Go.ChangeShapes Go.WideShapes Go.ChangeAt Go.RowKit Go.Deep

theorem frameEach_law : LawWalk 4 Try.f4 := by
  intro H enc W base args ds p hval hA hsz
  rw [Try.params4] at hA hval hsz
  obtain ⟨v, v', d, d', p0, p1, rfl, rfl, rfl, h0, h1⟩ := trodAll_two hA
  obtain ⟨x, rfl, hx, _⟩ := open_frame (hval 0 30 v rfl rfl) h0
  obtain ⟨y, rfl, hy, _⟩ := open_frame (hval 1 30 v' rfl rfl) h1
  exact each_walk x y W hx hy

set_option maxRecDepth 100000 in
theorem frameEach_lifted (os : Os) (started : os.Started) (H : Type) (enc : TypeId × Value → H) :
    ReturnsInHanded {} Try.checked os 4 .any (Rows.frameEachSpec.pre6 enc Try.prog Try.f4 Rows.frameEachRow.domain false) (Rows.frameEachSpec.post enc Try.prog Try.f4 false true false false) :=
  law_lifted frameEach_law (by kernel_rfl) rfl (fun H ds h => by
      rw [Try.params4] at h
      match ds, h with
      | [d0,d1], _ => rfl) (by
      rw [Try.params4]
      intro t ht
      simp at ht
      subst ht
      exact ⟨by kernel_rfl, of_decide_eq_true (by kernel_rfl)⟩) (by kernel_rfl) Try.func4 os started H enc
    (ChangeSpec.witness6 (enc := enc) (C := Try.checked) false ⟨#[], #[.agg #[.int .i64 0, .int .i64 0, .int .i64 0, .slice none 0 0], .agg #[.int .i64 0, .int .i64 0, .int .i64 0, .slice none 0 0]], []⟩ 8 (by kernel_rfl) (by kernel_rfl) (by kernel_rfl) (by kernel_rfl))

theorem frameEach_proved : Rows.FrameEachSaid :=
  OpenClaim.holds_of_wide 4 Try.f4 rfl rfl rfl rfl rfl rfl rfl ⟨rfl, rfl, rfl, rfl, rfl⟩ rfl rfl rfl rfl rfl (by kernel_rfl) Try.func4 (by kernel_rfl)
    (of_decide_eq_true (by kernel_rfl)) (by unfold Func.isWrapper; first | (rw [if_pos (by decide +kernel)]; kernel_rfl) | (rw [if_neg (by decide +kernel)]; exact ⟨rfl, rfl⟩))
    (fun os started H enc _ => frameEach_lifted os started H enc)
#print axioms frameEach_proved
end Go.Proofs.Ytakkabilpjjmgaa
