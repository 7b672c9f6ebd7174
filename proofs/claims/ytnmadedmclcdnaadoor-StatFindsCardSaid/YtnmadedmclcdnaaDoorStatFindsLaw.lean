/- StatFinds returns true for all texts; the row and its tied card. No condition. -/
import Derived.Test.YtnmadedmclcdnaaDoorStatFinds
import Derived.Test.YtnmadedmclcdnaaDoorArgsS
import Derived.Test.YtnmadedmclcdnaaDoorLawT
import Derived.Test.YtnmadedmclcdnaaDoorCards
import Derived.Test.YtnmadedmclcdnaaDoorTie
namespace Go.Proofs.YtnmadedmclcdnaaDoor
open Go.ChangeShapes Go.WideShapes Go.ChangeAt Go.RowKit Go.Deep

theorem statFinds_law : LawWalk 3 Tryd.f3 := by
  intro H enc W base args ds p hval hA hsz
  rw [Tryd.params3] at hA hval hsz
  obtain ⟨v0, v1, d0, d1, p0, p1, rfl, rfl, rfl, h0, h1⟩ := trodAll_two hA
  obtain ⟨s0, rfl⟩ := arg_text (hval 0 9 v0 rfl rfl) h0
  obtain ⟨s1, rfl⟩ := arg_text (hval 1 9 v1 rfl rfl) h1
  exact finds_walk s0 s1 W

set_option maxRecDepth 100000 in
theorem statFinds_lifted (os : Os) (started : os.Started) (H : Type) (enc : TypeId × Value → H) :
    ReturnsInHanded {} Tryd.checked os 3 .any (fun w args => (Rows.statFindsSpec.pre enc Tryd.prog Tryd.f3 Rows.statFindsRow.domain false w args ∧ laidMetH Tryd.prog Rows.statFindsRow.laid w) ∧ sizedMet enc Tryd.prog Tryd.f3 (OpenSpec.ofChange Rows.statFindsSpec) false w args) (Rows.statFindsSpec.post enc Tryd.prog Tryd.f3 false true false false) :=
  law_laid statFinds_law (by kernel_rfl) rfl (fun H ds h => by
      rw [Tryd.params3] at h
      match ds, h with
      | [d0, d1], _ => rfl) (by
      rw [Tryd.params3]
      intro t ht
      change t ∈ [9, 9] at ht
      simp only [List.mem_cons, List.not_mem_nil, or_false] at ht
      rcases ht with rfl | rfl
      all_goals exact ⟨by kernel_rfl, of_decide_eq_true (by kernel_rfl)⟩) (by kernel_rfl) Tryd.func3 os started H enc
    (ChangeSpec.witness_shaped (enc := enc) (C := Tryd.checked) (os := os) (X := fun w _ => laidMetH Tryd.prog Rows.statFindsRow.laid w) false (World.laidAll Tryd.prog os Rows.statFindsRow.laid) #[.string ⟨#[]⟩, .string ⟨#[]⟩] 8 (World.laidAll_os _ _ _)
      (World.shaped_of_ZipB (by kernel_rfl) (by kernel_rfl)) (by kernel_rfl) (by kernel_rfl) (by kernel_rfl)
      (by rw [MakeChecks.laidMetH_plain _ _ _ (by kernel_rfl)]; exact laidMet_laidAll _ (by kernel_rfl) (by kernel_rfl)))

theorem statFinds_holds : Rows.StatFindsSaid :=
  OpenClaim.holds_of_wide 3 Tryd.f3 rfl rfl rfl rfl rfl rfl rfl ⟨rfl, rfl, rfl, rfl, rfl⟩ rfl rfl rfl rfl rfl (by kernel_rfl) Tryd.func3 (by kernel_rfl)
    (of_decide_eq_true (by kernel_rfl)) (by unfold Func.isWrapper; first | (rw [if_pos (by decide +kernel)]; kernel_rfl) | (rw [if_neg (by decide +kernel)]; exact ⟨rfl, rfl⟩))
    (fun os started H enc _ => statFinds_lifted os started H enc)

theorem statFinds_proved : Rows.StatFindsCardSaid :=
  Claim7.holds_tied_plain_at .later [] [.data, .pinned] true (true, "243799da70ba4bddfe5ee508fde938adb219252b16b6c55ab059105fb2e2c1c5") false
    statFinds_holds (fun _ h => by cases h) (by kernel_rfl) (fun _ h => by cases h) statFinds_row_tie rfl ⟨rfl, rfl⟩ (by kernel_rfl) rfl
    (fun f fn hf hfn => by
      obtain rfl : f = 3 := Option.some.inj ((show Tryd.prog.funcNamed "wayleave/wlvlaw6.StatFinds" = some 3 by kernel_rfl).symm.trans hf) |>.symm
      obtain rfl : fn = Tryd.f3 := (Option.some.inj (Tryd.func3.symm.trans hfn)).symm
      exact ⟨by kernel_rfl, fun j t ht => by
        rw [Tryd.params3] at ht
        have hm : t ∈ [9, 9] := by simpa using Array.mem_of_getElem? ht
        have hall : ([9, 9].all fun u => !Tryd.prog.wantsStandIn u) = true := by kernel_rfl
        exact (show Tryd.prog.wantsStandIn t = false by simpa using List.all_eq_true.1 hall t hm)⟩)
    (by kernel_rfl)
#print axioms statFinds_proved
end Go.Proofs.YtnmadedmclcdnaaDoor
