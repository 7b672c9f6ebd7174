/- FrameRooms returns true for every room: a body of exactly room bytes is accepted, a longer one is ErrLong as soon as its nine bytes are there. No condition. -/
import Derived.Test.YtakkabilpjjmgaaFrameRooms
import Derived.Test.YtakkabilpjjmgaaArgs
namespace Go.Proofs.Ytakkabilpjjmgaa
open Go.ChangeShapes Go.WideShapes Go.ChangeAt Go.RowKit Go.Deep

theorem frameRooms_law : LawWalk 5 Try.f5 := by
  intro H enc W base args ds p hval hA hsz
  rw [Try.params5] at hA hval hsz
  obtain ⟨v0, d0, rfl, rfl, h0⟩ := trodAll_one hA
  obtain ⟨z0, rfl, zl0, zh0⟩ := arg_int (hval 0 3 v0 rfl rfl) h0
  exact rooms_walk z0 W

set_option maxRecDepth 100000 in
theorem frameRooms_lifted (os : Os) (started : os.Started) (H : Type) (enc : TypeId × Value → H) :
    ReturnsInHanded {} Try.checked os 5 .any (Rows.frameRoomsSpec.pre6 enc Try.prog Try.f5 Rows.frameRoomsRow.domain false) (Rows.frameRoomsSpec.post enc Try.prog Try.f5 false true false false) :=
  law_lifted frameRooms_law (by kernel_rfl) rfl (fun H ds h => by
      rw [Try.params5] at h
      match ds, h with
      | [d0], _ => rfl) (by
      rw [Try.params5]
      intro t ht
      change t ∈ [3] at ht
      simp only [List.mem_cons, List.not_mem_nil, or_false] at ht
      rcases ht with rfl
      all_goals exact ⟨by kernel_rfl, of_decide_eq_true (by kernel_rfl)⟩) (by kernel_rfl) Try.func5 os started H enc
    (ChangeSpec.witness6 (enc := enc) (C := Try.checked) false ⟨#[], #[.int .i64 0], []⟩ 8 (by kernel_rfl) (by kernel_rfl) (by kernel_rfl) (by kernel_rfl))

theorem frameRooms_proved : Rows.FrameRoomsSaid :=
  OpenClaim.holds_of_wide 5 Try.f5 rfl rfl rfl rfl rfl rfl rfl ⟨rfl, rfl, rfl, rfl, rfl⟩ rfl rfl rfl rfl rfl (by kernel_rfl) Try.func5 (by kernel_rfl)
    (of_decide_eq_true (by kernel_rfl)) (by unfold Func.isWrapper; first | (rw [if_pos (by decide +kernel)]; kernel_rfl) | (rw [if_neg (by decide +kernel)]; exact ⟨rfl, rfl⟩))
    (fun os started H enc _ => frameRooms_lifted os started H enc)
#print axioms frameRooms_proved
end Go.Proofs.Ytakkabilpjjmgaa
