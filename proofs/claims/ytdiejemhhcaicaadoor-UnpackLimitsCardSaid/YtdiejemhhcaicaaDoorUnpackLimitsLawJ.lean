/- UnpackLimits returns true for every number; the row and its tied card. No condition. -/
import Derived.Test.YtdiejemhhcaicaaDoorUnpLimitsJ
import Derived.Test.YtdiejemhhcaicaaDoorGl
import Derived.Test.YtdiejemhhcaicaaDoorCards
import Derived.Test.YtdiejemhhcaicaaDoorTie
namespace Go.Proofs.YtdiejemhhcaicaaDoor
open Go.ChangeShapes Go.WideShapes Go.ChangeAt Go.RowKit Go.Deep

set_option maxRecDepth 100000 in
theorem unpackLimits_law : LawWalk 4 Tryd.f4 := by
  intro H enc W base args ds p hval hA hsz
  rw [Tryd.params4] at hA hval hsz
  obtain ⟨v0, d0, rfl, rfl, h0⟩ := trodAll_one hA
  obtain ⟨z0, rfl⟩ := arg_num (hval 0 3 v0 rfl rfl) h0
  exact limits8_walk z0 W

set_option maxRecDepth 100000 in
theorem unpackLimits_lifted (os : Os) (started : os.Started) (H : Type) (enc : TypeId × Value → H) :
    ReturnsInHanded {} Tryd.checked os 4 .any (fun w args => (Rows.unpackLimitsSpec.pre enc Tryd.prog Tryd.f4 Rows.unpackLimitsRow.domain false w args ∧ laidMetH Tryd.prog Rows.unpackLimitsRow.laid w) ∧ sizedMet enc Tryd.prog Tryd.f4 (OpenSpec.ofChange Rows.unpackLimitsSpec) false w args) (Rows.unpackLimitsSpec.post enc Tryd.prog Tryd.f4 false true false false) :=
  law_laid unpackLimits_law (by kernel_rfl) rfl (fun H ds h => by
      rw [Tryd.params4] at h
      match ds, h with
      | [d0], _ => rfl) (by
      rw [Tryd.params4]
      intro t ht
      change t ∈ [3] at ht
      simp only [List.mem_cons, List.not_mem_nil, or_false] at ht
      rcases ht with rfl
      all_goals exact ⟨by kernel_rfl, of_decide_eq_true (by kernel_rfl)⟩) (by kernel_rfl) Tryd.func4 os started H enc
    (ChangeSpec.witness_shaped (enc := enc) (C := Tryd.checked) (os := os) (X := fun w _ => laidMetH Tryd.prog Rows.unpackLimitsRow.laid w) false (World.laidAll Tryd.prog os Rows.unpackLimitsRow.laid) #[.int .i64 0] 8 (World.laidAll_os _ _ _)
      (World.shaped_of_ZipB (by kernel_rfl) (by kernel_rfl)) (by kernel_rfl) (by kernel_rfl) (by kernel_rfl)
      (by rw [MakeChecks.laidMetH_plain _ _ _ (by kernel_rfl)]; exact laidMet_laidAll _ (by kernel_rfl) (by kernel_rfl)))

theorem unpackLimits_holds : Rows.UnpackLimitsSaid :=
  OpenClaim.holds_of_wide 4 Tryd.f4 rfl rfl rfl rfl rfl rfl rfl ⟨rfl, rfl, rfl, rfl, rfl⟩ rfl rfl rfl rfl rfl (by kernel_rfl) Tryd.func4 (by kernel_rfl)
    (of_decide_eq_true (by kernel_rfl)) (by unfold Func.isWrapper; first | (rw [if_pos (by decide +kernel)]; kernel_rfl) | (rw [if_neg (by decide +kernel)]; exact ⟨rfl, rfl⟩))
    (fun os started H enc _ => unpackLimits_lifted os started H enc)

theorem unpackLimits_proved : Rows.UnpackLimitsCardSaid :=
  Claim7.holds_tied_plain_at .later [] [.data, .pinned] true (true, "9cee61a9c653054f0a33193c81203fc0857f2a889570a2fbea19585a3c7ccd1c") false
    unpackLimits_holds (fun _ h => by cases h) (by kernel_rfl) (fun _ h => by cases h) unpackLimits_row_tie rfl ⟨rfl, rfl⟩ (by kernel_rfl) rfl
    (fun f fn hf hfn => by
      obtain rfl : f = 4 := Option.some.inj ((show Tryd.prog.funcNamed "wayleave/wlvlaw8.UnpackLimits" = some 4 by kernel_rfl).symm.trans hf) |>.symm
      obtain rfl : fn = Tryd.f4 := (Option.some.inj (Tryd.func4.symm.trans hfn)).symm
      exact ⟨by kernel_rfl, fun j t ht => by
        rw [Tryd.params4] at ht
        have hm : t ∈ [3] := by simpa using Array.mem_of_getElem? ht
        have hall : ([3].all fun u => !Tryd.prog.wantsStandIn u) = true := by kernel_rfl
        exact (show Tryd.prog.wantsStandIn t = false by simpa using List.all_eq_true.1 hall t hm)⟩)
    (by kernel_rfl)
#print axioms unpackLimits_proved
end Go.Proofs.YtdiejemhhcaicaaDoor
