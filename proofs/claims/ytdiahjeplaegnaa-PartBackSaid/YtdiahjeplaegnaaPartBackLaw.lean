/- PartBack returns true for all settings, numbers, bytes and pads: Read returns the arguments of Settings, Update, Rst and Goaway; padding is not data, and padding that is too long is a fault. No condition. -/
import Derived.Test.YtdiahjeplaegnaaPartBack
import Derived.Test.YtdiahjeplaegnaaPartOpen
import Derived.Test.YtdiahjeplaegnaaArgs
namespace Go.Proofs.Ytdiahjeplaegnaa
open Go.ChangeShapes Go.WideShapes Go.ChangeAt Go.RowKit Go.Deep

theorem partBack_law : LawWalk 6 Try.f6 := by
  intro H enc W base args ds p hval hA hsz
  rw [Try.params6] at hA hval hsz
  obtain ⟨v0, v1, v2, v3, v4, d0, d1, d2, d3, d4, p0, p1, p2, p3, p4, rfl, rfl, rfl, h0, h1, h2, h3, h4⟩ := trodAll_five hA
  obtain ⟨A0, n0, c0, l0, rfl, hb0, hc0, hd0⟩ := arg_sets (hval 0 26 v0 rfl rfl) h0
  obtain ⟨z1, rfl, zl1, zh1⟩ := arg_int (hval 1 3 v1 rfl rfl) h1
  obtain ⟨z2, rfl, zl2, zh2⟩ := arg_int (hval 2 3 v2 rfl rfl) h2
  obtain ⟨A3, n3, c3, l3, rfl, hb3, hc3, hm3, hd3⟩ := arg_bytes (hval 3 25 v3 rfl rfl) h3
  obtain ⟨z4, rfl, zl4, zh4⟩ := arg_int (hval 4 3 v4 rfl rfl) h4
  exact back_walk A0 n0 c0 l0 z1 z2 A3 n3 c3 l3 z4 W hb0 hb3 (sets_len hsz (j := 0) rfl rfl hd0) zl2 zh2 hm3 hc3

set_option maxRecDepth 100000 in
theorem partBack_lifted (os : Os) (started : os.Started) (H : Type) (enc : TypeId × Value → H) :
    ReturnsInHanded {} Try.checked os 6 .any (Rows.partBackSpec.pre6 enc Try.prog Try.f6 Rows.partBackRow.domain false) (Rows.partBackSpec.post enc Try.prog Try.f6 false true false false) :=
  law_lifted partBack_law (by kernel_rfl) rfl (fun H ds h => by
      rw [Try.params6] at h
      match ds, h with
      | [d0, d1, d2, d3, d4], _ => rfl) (by
      rw [Try.params6]
      intro t ht
      change t ∈ [26, 3, 3, 25, 3] at ht
      simp only [List.mem_cons, List.not_mem_nil, or_false] at ht
      rcases ht with rfl | rfl | rfl | rfl | rfl
      all_goals exact ⟨by kernel_rfl, of_decide_eq_true (by kernel_rfl)⟩) (by kernel_rfl) Try.func6 os started H enc
    (ChangeSpec.witness6 (enc := enc) (C := Try.checked) false ⟨#[], #[.slice none 0 0, .int .i64 0, .int .i64 0, .slice none 0 0, .int .i64 0], []⟩ 8 (by kernel_rfl) (by kernel_rfl) (by kernel_rfl) (by kernel_rfl))

theorem partBack_proved : Rows.PartBackSaid :=
  OpenClaim.holds_of_wide 6 Try.f6 rfl rfl rfl rfl rfl rfl rfl ⟨rfl, rfl, rfl, rfl, rfl⟩ rfl rfl rfl rfl rfl (by kernel_rfl) Try.func6 (by kernel_rfl)
    (of_decide_eq_true (by kernel_rfl)) (by unfold Func.isWrapper; first | (rw [if_pos (by decide +kernel)]; kernel_rfl) | (rw [if_neg (by decide +kernel)]; exact ⟨rfl, rfl⟩))
    (fun os started H enc _ => partBack_lifted os started H enc)
#print axioms partBack_proved
end Go.Proofs.Ytdiahjeplaegnaa
