/- StatTells returns true for all ints and fields; the row and its tied card. No condition. -/
import Derived.Test.YtnmadedmclcdnaaDoorStatTells
import Derived.Test.YtnmadedmclcdnaaDoorFdOpen
import Derived.Test.YtnmadedmclcdnaaDoorArgsS
import Derived.Test.YtnmadedmclcdnaaDoorLawT
import Derived.Test.YtnmadedmclcdnaaDoorCards
import Derived.Test.YtnmadedmclcdnaaDoorTie
namespace Go.Proofs.YtnmadedmclcdnaaDoor
open Go.ChangeShapes Go.WideShapes Go.ChangeAt Go.RowKit Go.Deep

theorem statTells_law : LawWalk 6 Tryd.f6 := by
  intro H enc W base args ds p hval hA hsz
  rw [Tryd.params6] at hA hval hsz
  obtain ⟨v0, v1, v2, d0, d1, d2, p0, p1, p2, rfl, rfl, rfl, h0, h1, h2⟩ := trodAll_three hA
  obtain ⟨z0, rfl⟩ := arg_num (hval 0 3 v0 rfl rfl) h0
  obtain ⟨A1, n1, c1, l1, rfl, hb1, hc1, hd1⟩ := arg_fields (hval 1 31 v1 rfl rfl) h1
  obtain ⟨A2, n2, c2, l2, rfl, hb2, hc2, hd2⟩ := arg_fields (hval 2 31 v2 rfl rfl) h2
  exact tells_walk z0 A1 n1 c1 l1 A2 n2 c2 l2 W hb1 hb2 (fields_len (j := 1) hsz rfl rfl hd1) (fields_len (j := 2) hsz rfl rfl hd2)

set_option maxRecDepth 100000 in
theorem statTells_lifted (os : Os) (started : os.Started) (H : Type) (enc : TypeId × Value → H) :
    ReturnsInHanded {} Tryd.checked os 6 .any (fun w args => (Rows.statTellsSpec.pre enc Tryd.prog Tryd.f6 Rows.statTellsRow.domain false w args ∧ laidMetH Tryd.prog Rows.statTellsRow.laid w) ∧ sizedMet enc Tryd.prog Tryd.f6 (OpenSpec.ofChange Rows.statTellsSpec) false w args) (Rows.statTellsSpec.post enc Tryd.prog Tryd.f6 false true false false) :=
  law_laid statTells_law (by kernel_rfl) rfl (fun H ds h => by
      rw [Tryd.params6] at h
      match ds, h with
      | [d0, d1, d2], _ => rfl) (by
      rw [Tryd.params6]
      intro t ht
      change t ∈ [3, 31, 31] at ht
      simp only [List.mem_cons, List.not_mem_nil, or_false] at ht
      rcases ht with rfl | rfl | rfl
      all_goals exact ⟨by kernel_rfl, of_decide_eq_true (by kernel_rfl)⟩) (by kernel_rfl) Tryd.func6 os started H enc
    (ChangeSpec.witness_shaped (enc := enc) (C := Tryd.checked) (os := os) (X := fun w _ => laidMetH Tryd.prog Rows.statTellsRow.laid w) false (World.laidAll Tryd.prog os Rows.statTellsRow.laid) #[.int .i64 0, .slice none 0 0, .slice none 0 0] 8 (World.laidAll_os _ _ _)
      (World.shaped_of_ZipB (by kernel_rfl) (by kernel_rfl)) (by kernel_rfl) (by kernel_rfl) (by kernel_rfl)
      (by rw [MakeChecks.laidMetH_plain _ _ _ (by kernel_rfl)]; exact laidMet_laidAll _ (by kernel_rfl) (by kernel_rfl)))

theorem statTells_holds : Rows.StatTellsSaid :=
  OpenClaim.holds_of_wide 6 Tryd.f6 rfl rfl rfl rfl rfl rfl rfl ⟨rfl, rfl, rfl, rfl, rfl⟩ rfl rfl rfl rfl rfl (by kernel_rfl) Tryd.func6 (by kernel_rfl)
    (of_decide_eq_true (by kernel_rfl)) (by unfold Func.isWrapper; first | (rw [if_pos (by decide +kernel)]; kernel_rfl) | (rw [if_neg (by decide +kernel)]; exact ⟨rfl, rfl⟩))
    (fun os started H enc _ => statTells_lifted os started H enc)

theorem statTells_proved : Rows.StatTellsCardSaid :=
  Claim7.holds_tied_plain_at .later [] [.data, .pinned] true (true, "243799da70ba4bddfe5ee508fde938adb219252b16b6c55ab059105fb2e2c1c5") false
    statTells_holds (fun _ h => by cases h) (by kernel_rfl) (fun _ h => by cases h) statTells_row_tie rfl ⟨rfl, rfl⟩ (by kernel_rfl) rfl
    (fun f fn hf hfn => by
      obtain rfl : f = 6 := Option.some.inj ((show Tryd.prog.funcNamed "wayleave/wlvlaw6.StatTells" = some 6 by kernel_rfl).symm.trans hf) |>.symm
      obtain rfl : fn = Tryd.f6 := (Option.some.inj (Tryd.func6.symm.trans hfn)).symm
      exact ⟨by kernel_rfl, fun j t ht => by
        rw [Tryd.params6] at ht
        have hm : t ∈ [3, 31, 31] := by simpa using Array.mem_of_getElem? ht
        have hall : ([3, 31, 31].all fun u => !Tryd.prog.wantsStandIn u) = true := by kernel_rfl
        exact (show Tryd.prog.wantsStandIn t = false by simpa using List.all_eq_true.1 hall t hm)⟩)
    (by kernel_rfl)
#print axioms statTells_proved
end Go.Proofs.YtnmadedmclcdnaaDoor
