/- PackLimits returns true for every field and number; the row and its tied card. No condition. -/
import Derived.Test.YtjeocmglcgnclaaDoorPackLimitsJ
import Derived.Test.YtjeocmglcgnclaaDoorGl
import Derived.Test.YtjeocmglcgnclaaDoorCards
import Derived.Test.YtjeocmglcgnclaaDoorTie
namespace Go.Proofs.YtjeocmglcgnclaaDoor
open Go.ChangeShapes Go.WideShapes Go.ChangeAt Go.RowKit Go.Deep

set_option maxRecDepth 100000 in
theorem packLimits_law : LawWalk 4 Tryd.f4 := by
  intro H enc W base args ds p hval hA hsz
  rw [Tryd.params4] at hA hval hsz
  obtain ⟨v0, v1, d0, d1, p0, p1, rfl, rfl, rfl, h0, h1⟩ := trodAll_two hA
  obtain ⟨⟨fn0, fv0, fx0⟩, rfl⟩ := arg_field (hval 0 23 v0 rfl rfl) h0
  obtain ⟨z1, rfl⟩ := arg_num (hval 1 3 v1 rfl rfl) h1
  exact plimits_walk fn0 fv0 fx0 z1 W

set_option maxRecDepth 100000 in
theorem packLimits_lifted (os : Os) (started : os.Started) (H : Type) (enc : TypeId × Value → H) :
    ReturnsInHanded {} Tryd.checked os 4 .any (fun w args => (Rows.packLimitsSpec.pre enc Tryd.prog Tryd.f4 Rows.packLimitsRow.domain false w args ∧ laidMetH Tryd.prog Rows.packLimitsRow.laid w) ∧ sizedMet enc Tryd.prog Tryd.f4 (OpenSpec.ofChange Rows.packLimitsSpec) false w args) (Rows.packLimitsSpec.post enc Tryd.prog Tryd.f4 false true false false) :=
  law_laid packLimits_law (by kernel_rfl) rfl (fun H ds h => by
      rw [Tryd.params4] at h
      match ds, h with
      | [d0, d1], _ => rfl) (by
      rw [Tryd.params4]
      intro t ht
      change t ∈ [23, 3] at ht
      simp only [List.mem_cons, List.not_mem_nil, or_false] at ht
      rcases ht with rfl | rfl
      all_goals exact ⟨by kernel_rfl, of_decide_eq_true (by kernel_rfl)⟩) (by kernel_rfl) Tryd.func4 os started H enc
    (ChangeSpec.witness_shaped (enc := enc) (C := Tryd.checked) (os := os) (X := fun w _ => laidMetH Tryd.prog Rows.packLimitsRow.laid w) false (World.laidAll Tryd.prog os Rows.packLimitsRow.laid) #[.agg #[.string ⟨#[]⟩, .string ⟨#[]⟩, .bool false], .int .i64 0] 8 (World.laidAll_os _ _ _)
      (World.shaped_of_ZipB (by kernel_rfl) (by kernel_rfl)) (by kernel_rfl) (by kernel_rfl) (by kernel_rfl)
      (by rw [MakeChecks.laidMetH_plain _ _ _ (by kernel_rfl)]; exact laidMet_laidAll _ (by kernel_rfl) (by kernel_rfl)))

theorem packLimits_holds : Rows.PackLimitsSaid :=
  OpenClaim.holds_of_wide 4 Tryd.f4 rfl rfl rfl rfl rfl rfl rfl ⟨rfl, rfl, rfl, rfl, rfl⟩ rfl rfl rfl rfl rfl (by kernel_rfl) Tryd.func4 (by kernel_rfl)
    (of_decide_eq_true (by kernel_rfl)) (by unfold Func.isWrapper; first | (rw [if_pos (by decide +kernel)]; kernel_rfl) | (rw [if_neg (by decide +kernel)]; exact ⟨rfl, rfl⟩))
    (fun os started H enc _ => packLimits_lifted os started H enc)

theorem packLimits_proved : Rows.PackLimitsCardSaid :=
  Claim7.holds_tied_plain_at .later [] [.data, .pinned] true (true, "db3dfb45958c4f673d78ae63a8a2302ce8d713e27abd19f35f9d1912d1648aaf") false
    packLimits_holds (fun _ h => by cases h) (by kernel_rfl) (fun _ h => by cases h) packLimits_row_tie rfl ⟨rfl, rfl⟩ (by kernel_rfl) rfl
    (fun f fn hf hfn => by
      obtain rfl : f = 4 := Option.some.inj ((show Tryd.prog.funcNamed "wayleave/wlvlaw9.PackLimits" = some 4 by kernel_rfl).symm.trans hf) |>.symm
      obtain rfl : fn = Tryd.f4 := (Option.some.inj (Tryd.func4.symm.trans hfn)).symm
      exact ⟨by kernel_rfl, fun j t ht => by
        rw [Tryd.params4] at ht
        have hm : t ∈ [23, 3] := by simpa using Array.mem_of_getElem? ht
        have hall : ([23, 3].all fun u => !Tryd.prog.wantsStandIn u) = true := by kernel_rfl
        exact (show Tryd.prog.wantsStandIn t = false by simpa using List.all_eq_true.1 hall t hm)⟩)
    (by kernel_rfl)
#print axioms packLimits_proved
end Go.Proofs.YtjeocmglcgnclaaDoor
