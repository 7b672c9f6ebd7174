/- TunnelOrder returns true for all bounds and calls. No condition. -/
import Derived.Test.YtefhadfcipifmaaTunOrder
import Derived.Test.YtefhadfcipifmaaArgs
namespace Go.Proofs.Ytefhadfcipifmaa
open Go.ChangeShapes Go.WideShapes Go.ChangeAt Go.RowKit Go.Deep

theorem tunnelOrder_law : LawWalk 6 Try.f6 := by
  intro H enc W base args ds p hval hA hsz
  rw [Try.params6] at hA hval hsz
  obtain ⟨v0, v1, d0, d1, p0, p1, rfl, rfl, rfl, h0, h1⟩ := trodAll_two hA
  obtain ⟨z0, rfl, zl0, zh0⟩ := arg_int (hval 0 3 v0 rfl rfl) h0
  obtain ⟨A1, n1, c1, l1, rfl, hb1, hc1, hd1⟩ := arg_tcs (hval 1 47 v1 rfl rfl) h1
  exact order_walk z0 A1 n1 c1 l1 W hb1 (tcs_len hsz (j := 1) rfl rfl hd1)

set_option maxRecDepth 100000 in
theorem tunnelOrder_lifted (os : Os) (started : os.Started) (H : Type) (enc : TypeId × Value → H) :
    ReturnsInHanded {} Try.checked os 6 .any (Rows.tunnelOrderSpec.pre6 enc Try.prog Try.f6 Rows.tunnelOrderRow.domain false) (Rows.tunnelOrderSpec.post enc Try.prog Try.f6 false true false false) :=
  law_lifted tunnelOrder_law (by kernel_rfl) rfl (fun H ds h => by
      rw [Try.params6] at h
      match ds, h with
      | [d0, d1], _ => rfl) (by
      rw [Try.params6]
      intro t ht
      change t ∈ [3, 47] at ht
      simp only [List.mem_cons, List.not_mem_nil, or_false] at ht
      rcases ht with rfl | rfl
      all_goals exact ⟨by kernel_rfl, of_decide_eq_true (by kernel_rfl)⟩) (by kernel_rfl) Try.func6 os started H enc
    (ChangeSpec.witness6 (enc := enc) (C := Try.checked) false ⟨#[], #[.int .i64 0, .slice none 0 0], []⟩ 8 (by kernel_rfl) (by kernel_rfl) (by kernel_rfl) (by kernel_rfl))

theorem tunnelOrder_proved : Rows.TunnelOrderSaid :=
  OpenClaim.holds_of_wide 6 Try.f6 rfl rfl rfl rfl rfl rfl rfl ⟨rfl, rfl, rfl, rfl, rfl⟩ rfl rfl rfl rfl rfl (by kernel_rfl) Try.func6 (by kernel_rfl)
    (of_decide_eq_true (by kernel_rfl)) (by unfold Func.isWrapper; first | (rw [if_pos (by decide +kernel)]; kernel_rfl) | (rw [if_neg (by decide +kernel)]; exact ⟨rfl, rfl⟩))
    (fun os started H enc _ => tunnelOrder_lifted os started H enc)
#print axioms tunnelOrder_proved
end Go.Proofs.Ytefhadfcipifmaa
