/- UnpackAdds returns true for every two strings; the row and its tied card. No condition. -/
import Derived.Test.YtdiejemhhcaicaaDoorUnpAddsJ
import Derived.Test.YtdiejemhhcaicaaDoorGl
import Derived.Test.YtdiejemhhcaicaaDoorCards
import Derived.Test.YtdiejemhhcaicaaDoorTie
namespace Go.Proofs.YtdiejemhhcaicaaDoor
open Go.ChangeShapes Go.WideShapes Go.ChangeAt Go.RowKit Go.Deep

set_option maxRecDepth 100000 in
theorem unpackAdds_law : LawWalk 7 Tryd.f7 := by
  intro H enc W base args ds p hval hA hsz
  rw [Tryd.params7] at hA hval hsz
  obtain ⟨v0, v1, d0, d1, p0, p1, rfl, rfl, rfl, h0, h1⟩ := trodAll_two hA
  obtain ⟨s0, rfl⟩ := arg_text (hval 0 9 v0 rfl rfl) h0
  obtain ⟨s1, rfl⟩ := arg_text (hval 1 9 v1 rfl rfl) h1
  exact adds8_walk s0 s1 W

set_option maxRecDepth 100000 in
theorem unpackAdds_lifted (os : Os) (started : os.Started) (H : Type) (enc : TypeId × Value → H) :
    ReturnsInHanded {} Tryd.checked os 7 .any (fun w args => (Rows.unpackAddsSpec.pre enc Tryd.prog Tryd.f7 Rows.unpackAddsRow.domain false w args ∧ laidMetH Tryd.prog Rows.unpackAddsRow.laid w) ∧ sizedMet enc Tryd.prog Tryd.f7 (OpenSpec.ofChange Rows.unpackAddsSpec) false w args) (Rows.unpackAddsSpec.post enc Tryd.prog Tryd.f7 false true false false) :=
  law_laid unpackAdds_law (by kernel_rfl) rfl (fun H ds h => by
      rw [Tryd.params7] at h
      match ds, h with
      | [d0, d1], _ => rfl) (by
      rw [Tryd.params7]
      intro t ht
      change t ∈ [9, 9] at ht
      simp only [List.mem_cons, List.not_mem_nil, or_false] at ht
      rcases ht with rfl | rfl
      all_goals exact ⟨by kernel_rfl, of_decide_eq_true (by kernel_rfl)⟩) (by kernel_rfl) Tryd.func7 os started H enc
    (ChangeSpec.witness_shaped (enc := enc) (C := Tryd.checked) (os := os) (X := fun w _ => laidMetH Tryd.prog Rows.unpackAddsRow.laid w) false (World.laidAll Tryd.prog os Rows.unpackAddsRow.laid) #[.string ⟨#[]⟩, .string ⟨#[]⟩] 8 (World.laidAll_os _ _ _)
      (World.shaped_of_ZipB (by kernel_rfl) (by kernel_rfl)) (by kernel_rfl) (by kernel_rfl) (by kernel_rfl)
      (by rw [MakeChecks.laidMetH_plain _ _ _ (by kernel_rfl)]; exact laidMet_laidAll _ (by kernel_rfl) (by kernel_rfl)))

theorem unpackAdds_holds : Rows.UnpackAddsSaid :=
  OpenClaim.holds_of_wide 7 Tryd.f7 rfl rfl rfl rfl rfl rfl rfl ⟨rfl, rfl, rfl, rfl, rfl⟩ rfl rfl rfl rfl rfl (by kernel_rfl) Tryd.func7 (by kernel_rfl)
    (of_decide_eq_true (by kernel_rfl)) (by unfold Func.isWrapper; first | (rw [if_pos (by decide +kernel)]; kernel_rfl) | (rw [if_neg (by decide +kernel)]; exact ⟨rfl, rfl⟩))
    (fun os started H enc _ => unpackAdds_lifted os started H enc)

theorem unpackAdds_proved : Rows.UnpackAddsCardSaid :=
  Claim7.holds_tied_plain_at .later [] [.data, .pinned] true (true, "9cee61a9c653054f0a33193c81203fc0857f2a889570a2fbea19585a3c7ccd1c") false
    unpackAdds_holds (fun _ h => by cases h) (by kernel_rfl) (fun _ h => by cases h) unpackAdds_row_tie rfl ⟨rfl, rfl⟩ (by kernel_rfl) rfl
    (fun f fn hf hfn => by
      obtain rfl : f = 7 := Option.some.inj ((show Tryd.prog.funcNamed "wayleave/wlvlaw8.UnpackAdds" = some 7 by kernel_rfl).symm.trans hf) |>.symm
      obtain rfl : fn = Tryd.f7 := (Option.some.inj (Tryd.func7.symm.trans hfn)).symm
      exact ⟨by kernel_rfl, fun j t ht => by
        rw [Tryd.params7] at ht
        have hm : t ∈ [9, 9] := by simpa using Array.mem_of_getElem? ht
        have hall : ([9, 9].all fun u => !Tryd.prog.wantsStandIn u) = true := by kernel_rfl
        exact (show Tryd.prog.wantsStandIn t = false by simpa using List.all_eq_true.1 hall t hm)⟩)
    (by kernel_rfl)
#print axioms unpackAdds_proved
end Go.Proofs.YtdiejemhhcaicaaDoor
