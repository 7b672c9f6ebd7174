/- PartReads returns true for all frames. No condition. -/
import Derived.Test.YtdiahjeplaegnaaPartReads
namespace Go.Proofs.Ytdiahjeplaegnaa
open Go.ChangeShapes Go.WideShapes Go.ChangeAt Go.RowKit Go.Deep

theorem partReads_law : LawWalk 3 Try.f3 := by
  intro H enc W base args ds p hval hA hsz
  rw [Try.params3] at hA hval hsz
  obtain ⟨v0, d0, rfl, rfl, h0⟩ := trodAll_one hA
  obtain ⟨A0, n0, c0, l0, rfl, hb0, hc0, hd0⟩ := arg_frames (hval 0 22 v0 rfl rfl) h0
  exact reads_walk A0 n0 c0 l0 W hb0 (frames_len hsz (j := 0) rfl rfl hd0)

set_option maxRecDepth 100000 in
theorem partReads_lifted (os : Os) (started : os.Started) (H : Type) (enc : TypeId × Value → H) :
    ReturnsInHanded {} Try.checked os 3 .any (Rows.partReadsSpec.pre6 enc Try.prog Try.f3 Rows.partReadsRow.domain false) (Rows.partReadsSpec.post enc Try.prog Try.f3 false true false false) :=
  law_lifted partReads_law (by kernel_rfl) rfl (fun H ds h => by
      rw [Try.params3] at h
      match ds, h with
      | [d0], _ => rfl) (by
      rw [Try.params3]
      intro t ht
      change t ∈ [22] at ht
      simp only [List.mem_cons, List.not_mem_nil, or_false] at ht
      rcases ht with rfl
      all_goals exact ⟨by kernel_rfl, of_decide_eq_true (by kernel_rfl)⟩) (by kernel_rfl) Try.func3 os started H enc
    (ChangeSpec.witness6 (enc := enc) (C := Try.checked) false ⟨#[], #[.slice none 0 0], []⟩ 8 (by kernel_rfl) (by kernel_rfl) (by kernel_rfl) (by kernel_rfl))

theorem partReads_proved : Rows.PartReadsSaid :=
  OpenClaim.holds_of_wide 3 Try.f3 rfl rfl rfl rfl rfl rfl rfl ⟨rfl, rfl, rfl, rfl, rfl⟩ rfl rfl rfl rfl rfl (by kernel_rfl) Try.func3 (by kernel_rfl)
    (of_decide_eq_true (by kernel_rfl)) (by unfold Func.isWrapper; first | (rw [if_pos (by decide +kernel)]; kernel_rfl) | (rw [if_neg (by decide +kernel)]; exact ⟨rfl, rfl⟩))
    (fun os started H enc _ => partReads_lifted os started H enc)
#print axioms partReads_proved
end Go.Proofs.Ytdiahjeplaegnaa
