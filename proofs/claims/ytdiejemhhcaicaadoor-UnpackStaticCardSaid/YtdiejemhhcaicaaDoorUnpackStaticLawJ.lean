/- UnpackStatic returns true for every number; the row and its tied card. No condition. -/
import Derived.Test.YtdiejemhhcaicaaDoorUnpStaticJ
import Derived.Test.YtdiejemhhcaicaaDoorGl
import Derived.Test.YtdiejemhhcaicaaDoorCards
import Derived.Test.YtdiejemhhcaicaaDoorTie
namespace Go.Proofs.YtdiejemhhcaicaaDoor
open Go.ChangeShapes Go.WideShapes Go.ChangeAt Go.RowKit Go.Deep

set_option maxRecDepth 100000 in
theorem unpackStatic_law : LawWalk 3 Tryd.f3 := by
  intro H enc W base args ds p hval hA hsz
  rw [Tryd.params3] at hA hval hsz
  obtain ⟨v0, d0, rfl, rfl, h0⟩ := trodAll_one hA
  obtain ⟨z0, rfl⟩ := arg_num (hval 0 3 v0 rfl rfl) h0
  exact static8_walk z0 W

set_option maxRecDepth 100000 in
theorem unpackStatic_lifted (os : Os) (started : os.Started) (H : Type) (enc : TypeId × Value → H) :
    ReturnsInHanded {} Tryd.checked os 3 .any (fun w args => (Rows.unpackStaticSpec.pre enc Tryd.prog Tryd.f3 Rows.unpackStaticRow.domain false w args ∧ laidMetH Tryd.prog Rows.unpackStaticRow.laid w) ∧ sizedMet enc Tryd.prog Tryd.f3 (OpenSpec.ofChange Rows.unpackStaticSpec) false w args) (Rows.unpackStaticSpec.post enc Tryd.prog Tryd.f3 false true false false) :=
  law_laid unpackStatic_law (by kernel_rfl) rfl (fun H ds h => by
      rw [Tryd.params3] at h
      match ds, h with
      | [d0], _ => rfl) (by
      rw [Tryd.params3]
      intro t ht
      change t ∈ [3] at ht
      simp only [List.mem_cons, List.not_mem_nil, or_false] at ht
      rcases ht with rfl
      all_goals exact ⟨by kernel_rfl, of_decide_eq_true (by kernel_rfl)⟩) (by kernel_rfl) Tryd.func3 os started H enc
    (ChangeSpec.witness_shaped (enc := enc) (C := Tryd.checked) (os := os) (X := fun w _ => laidMetH Tryd.prog Rows.unpackStaticRow.laid w) false (World.laidAll Tryd.prog os Rows.unpackStaticRow.laid) #[.int .i64 0] 8 (World.laidAll_os _ _ _)
      (World.shaped_of_ZipB (by kernel_rfl) (by kernel_rfl)) (by kernel_rfl) (by kernel_rfl) (by kernel_rfl)
      (by rw [MakeChecks.laidMetH_plain _ _ _ (by kernel_rfl)]; exact laidMet_laidAll _ (by kernel_rfl) (by kernel_rfl)))

theorem unpackStatic_holds : Rows.UnpackStaticSaid :=
  OpenClaim.holds_of_wide 3 Tryd.f3 rfl rfl rfl rfl rfl rfl rfl ⟨rfl, rfl, rfl, rfl, rfl⟩ rfl rfl rfl rfl rfl (by kernel_rfl) Tryd.func3 (by kernel_rfl)
    (of_decide_eq_true (by kernel_rfl)) (by unfold Func.isWrapper; first | (rw [if_pos (by decide +kernel)]; kernel_rfl) | (rw [if_neg (by decide +kernel)]; exact ⟨rfl, rfl⟩))
    (fun os started H enc _ => unpackStatic_lifted os started H enc)

theorem unpackStatic_proved : Rows.UnpackStaticCardSaid :=
  Claim7.holds_tied_plain_at .later [] [.data, .pinned] true (true, "9cee61a9c653054f0a33193c81203fc0857f2a889570a2fbea19585a3c7ccd1c") false
    unpackStatic_holds (fun _ h => by cases h) (by kernel_rfl) (fun _ h => by cases h) unpackStatic_row_tie rfl ⟨rfl, rfl⟩ (by kernel_rfl) rfl
    (fun f fn hf hfn => by
      obtain rfl : f = 3 := Option.some.inj ((show Tryd.prog.funcNamed "wayleave/wlvlaw8.UnpackStatic" = some 3 by kernel_rfl).symm.trans hf) |>.symm
      obtain rfl : fn = Tryd.f3 := (Option.some.inj (Tryd.func3.symm.trans hfn)).symm
      exact ⟨by kernel_rfl, fun j t ht => by
        rw [Tryd.params3] at ht
        have hm : t ∈ [3] := by simpa using Array.mem_of_getElem? ht
        have hall : ([3].all fun u => !Tryd.prog.wantsStandIn u) = true := by kernel_rfl
        exact (show Tryd.prog.wantsStandIn t = false by simpa using List.all_eq_true.1 hall t hm)⟩)
    (by kernel_rfl)
#print axioms unpackStatic_proved
end Go.Proofs.YtdiejemhhcaicaaDoor
