/- DynFinds returns true for every slice of calls: Find returns the newest matching entries, and Limit(0) empties the table. No condition. -/
import Derived.Test.YtlnhnnejmofpcaaDynFinds
import Derived.Test.YtlnhnnejmofpcaaDynOpen
namespace Go.Proofs.Ytlnhnnejmofpcaa
open Go.ChangeShapes Go.WideShapes Go.ChangeAt Go.RowKit Go.Deep

theorem dynFinds_law : LawWalk 5 Try.f5 := by
  intro H enc W base args ds p hval hA hsz
  rw [Try.params5] at hA hval hsz
  obtain ⟨v0, d0, rfl, rfl, h0⟩ := trodAll_one hA
  obtain ⟨A0, n0, c0, l0, rfl, hb0, hc0, hd0, hr0⟩ := arg_ops7 (hval 0 36 v0 rfl rfl) h0
  exact dynFinds_walk A0 n0 c0 l0 W hb0 (ops7_len (j := 0) hsz rfl rfl hd0)

set_option maxRecDepth 100000 in
theorem dynFinds_lifted (os : Os) (started : os.Started) (H : Type) (enc : TypeId × Value → H) :
    ReturnsInHanded {} Try.checked os 5 .any (Rows.dynFindsSpec.pre6 enc Try.prog Try.f5 Rows.dynFindsRow.domain false) (Rows.dynFindsSpec.post enc Try.prog Try.f5 false true false false) :=
  law_lifted dynFinds_law (by kernel_rfl) rfl (fun H ds h => by
      rw [Try.params5] at h
      match ds, h with
      | [d0], _ => rfl) (by
      rw [Try.params5]
      intro t ht
      change t ∈ [36] at ht
      simp only [List.mem_cons, List.not_mem_nil, or_false] at ht
      rcases ht with rfl
      all_goals exact ⟨by kernel_rfl, of_decide_eq_true (by kernel_rfl)⟩) (by kernel_rfl) Try.func5 os started H enc
    (ChangeSpec.witness6 (enc := enc) (C := Try.checked) false ⟨#[], #[.slice none 0 0], []⟩ 8 (by kernel_rfl) (by kernel_rfl) (by kernel_rfl) (by kernel_rfl))

theorem dynFinds_proved : Rows.DynFindsSaid :=
  OpenClaim.holds_of_wide 5 Try.f5 rfl rfl rfl rfl rfl rfl rfl ⟨rfl, rfl, rfl, rfl, rfl⟩ rfl rfl rfl rfl rfl (by kernel_rfl) Try.func5 (by kernel_rfl)
    (of_decide_eq_true (by kernel_rfl)) (by unfold Func.isWrapper; first | (rw [if_pos (by decide +kernel)]; kernel_rfl) | (rw [if_neg (by decide +kernel)]; exact ⟨rfl, rfl⟩))
    (fun os started H enc _ => dynFinds_lifted os started H enc)
#print axioms dynFinds_proved
end Go.Proofs.Ytlnhnnejmofpcaa
