/- PipeFull returns true for every room, bytes and number: the pipe takes the first bytes that fit, Look removes nothing, Take frees room. No condition. -/
import Derived.Test.YtdplkknlpfdljaaPipeFull
import Derived.Test.YtdplkknlpfdljaaArgs
namespace Go.Proofs.Ytdplkknlpfdljaa
open Go.ChangeShapes Go.WideShapes Go.ChangeAt Go.RowKit Go.Deep

theorem pipeFull_law : LawWalk 6 Try.f6 := by
  intro H enc W base args ds p hval hA hsz
  rw [Try.params6] at hA hval hsz
  obtain ⟨v0, v1, v2, d0, d1, d2, p0, p1, p2, rfl, rfl, rfl, h0, h1, h2⟩ := trodAll_three hA
  obtain ⟨z0, rfl, zl0, zh0⟩ := arg_int (hval 0 3 v0 rfl rfl) h0
  obtain ⟨A1, n1, c1, l1, rfl, hb1, hc1, hm1, hd1⟩ := arg_bytes (hval 1 22 v1 rfl rfl) h1
  obtain ⟨z2, rfl, zl2, zh2⟩ := arg_int (hval 2 3 v2 rfl rfl) h2
  exact full_walk z0 A1 n1 c1 l1 z2 W hb1 hc1

set_option maxRecDepth 100000 in
theorem pipeFull_lifted (os : Os) (started : os.Started) (H : Type) (enc : TypeId × Value → H) :
    ReturnsInHanded {} Try.checked os 6 .any (Rows.pipeFullSpec.pre6 enc Try.prog Try.f6 Rows.pipeFullRow.domain false) (Rows.pipeFullSpec.post enc Try.prog Try.f6 false true false false) :=
  law_lifted pipeFull_law (by kernel_rfl) rfl (fun H ds h => by
      rw [Try.params6] at h
      match ds, h with
      | [d0, d1, d2], _ => rfl) (by
      rw [Try.params6]
      intro t ht
      change t ∈ [3, 22, 3] at ht
      simp only [List.mem_cons, List.not_mem_nil, or_false] at ht
      rcases ht with rfl | rfl | rfl
      all_goals exact ⟨by kernel_rfl, of_decide_eq_true (by kernel_rfl)⟩) (by kernel_rfl) Try.func6 os started H enc
    (ChangeSpec.witness6 (enc := enc) (C := Try.checked) false ⟨#[], #[.int .i64 0, .slice none 0 0, .int .i64 0], []⟩ 8 (by kernel_rfl) (by kernel_rfl) (by kernel_rfl) (by kernel_rfl))

theorem pipeFull_proved : Rows.PipeFullSaid :=
  OpenClaim.holds_of_wide 6 Try.f6 rfl rfl rfl rfl rfl rfl rfl ⟨rfl, rfl, rfl, rfl, rfl⟩ rfl rfl rfl rfl rfl (by kernel_rfl) Try.func6 (by kernel_rfl)
    (of_decide_eq_true (by kernel_rfl)) (by unfold Func.isWrapper; first | (rw [if_pos (by decide +kernel)]; kernel_rfl) | (rw [if_neg (by decide +kernel)]; exact ⟨rfl, rfl⟩))
    (fun os started H enc _ => pipeFull_lifted os started H enc)
#print axioms pipeFull_proved
end Go.Proofs.Ytdplkknlpfdljaa
