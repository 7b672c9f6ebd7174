/- UnpackPlays returns true for every slice of blocks and every room; the row and its tied card. No condition. -/
import Derived.Test.YtdiejemhhcaicaaDoorUnpPlaysJ
import Derived.Test.YtdiejemhhcaicaaDoorRwsJ
import Derived.Test.YtdiejemhhcaicaaDoorGl
import Derived.Test.YtdiejemhhcaicaaDoorCards
import Derived.Test.YtdiejemhhcaicaaDoorTie
namespace Go.Proofs.YtdiejemhhcaicaaDoor
open Go.ChangeShapes Go.WideShapes Go.ChangeAt Go.RowKit Go.Deep

set_option maxRecDepth 100000 in
theorem unpackPlays_law : LawWalk 5 Tryd.f5 := by
  intro H enc W base args ds p hval hA hsz
  rw [Tryd.params5] at hA hval hsz
  obtain ⟨v0, v1, d0, d1, p0, p1, rfl, rfl, rfl, h0, h1⟩ := trodAll_two hA
  obtain ⟨A0, n0, c0, l0, rfl, hb0, hc0, hd0⟩ := arg_rows (hval 0 35 v0 rfl rfl) h0
  obtain ⟨z1, rfl⟩ := arg_num (hval 1 3 v1 rfl rfl) h1
  exact uplays_walk A0 n0 c0 l0 z1 W hb0 (rows_len hsz (j := 0) rfl rfl hd0)

set_option maxRecDepth 100000 in
theorem unpackPlays_lifted (os : Os) (started : os.Started) (H : Type) (enc : TypeId × Value → H) :
    ReturnsInHanded {} Tryd.checked os 5 .any (fun w args => (Rows.unpackPlaysSpec.pre enc Tryd.prog Tryd.f5 Rows.unpackPlaysRow.domain false w args ∧ laidMetH Tryd.prog Rows.unpackPlaysRow.laid w) ∧ sizedMet enc Tryd.prog Tryd.f5 (OpenSpec.ofChange Rows.unpackPlaysSpec) false w args) (Rows.unpackPlaysSpec.post enc Tryd.prog Tryd.f5 false true false false) :=
  law_laid unpackPlays_law (by kernel_rfl) rfl (fun H ds h => by
      rw [Tryd.params5] at h
      match ds, h with
      | [d0, d1], _ => rfl) (by
      rw [Tryd.params5]
      intro t ht
      change t ∈ [35, 3] at ht
      simp only [List.mem_cons, List.not_mem_nil, or_false] at ht
      rcases ht with rfl | rfl
      all_goals exact ⟨by kernel_rfl, of_decide_eq_true (by kernel_rfl)⟩) (by kernel_rfl) Tryd.func5 os started H enc
    (ChangeSpec.witness_shaped (enc := enc) (C := Tryd.checked) (os := os) (X := fun w _ => laidMetH Tryd.prog Rows.unpackPlaysRow.laid w) false (World.laidAll Tryd.prog os Rows.unpackPlaysRow.laid) #[.slice none 0 0, .int .i64 0] 8 (World.laidAll_os _ _ _)
      (World.shaped_of_ZipB (by kernel_rfl) (by kernel_rfl)) (by kernel_rfl) (by kernel_rfl) (by kernel_rfl)
      (by rw [MakeChecks.laidMetH_plain _ _ _ (by kernel_rfl)]; exact laidMet_laidAll _ (by kernel_rfl) (by kernel_rfl)))

theorem unpackPlays_holds : Rows.UnpackPlaysSaid :=
  OpenClaim.holds_of_wide 5 Tryd.f5 rfl rfl rfl rfl rfl rfl rfl ⟨rfl, rfl, rfl, rfl, rfl⟩ rfl rfl rfl rfl rfl (by kernel_rfl) Tryd.func5 (by kernel_rfl)
    (of_decide_eq_true (by kernel_rfl)) (by unfold Func.isWrapper; first | (rw [if_pos (by decide +kernel)]; kernel_rfl) | (rw [if_neg (by decide +kernel)]; exact ⟨rfl, rfl⟩))
    (fun os started H enc _ => unpackPlays_lifted os started H enc)

theorem unpackPlays_proved : Rows.UnpackPlaysCardSaid :=
  Claim7.holds_tied_plain_at .later [] [.data, .pinned] true (true, "9cee61a9c653054f0a33193c81203fc0857f2a889570a2fbea19585a3c7ccd1c") false
    unpackPlays_holds (fun _ h => by cases h) (by kernel_rfl) (fun _ h => by cases h) unpackPlays_row_tie rfl ⟨rfl, rfl⟩ (by kernel_rfl) rfl
    (fun f fn hf hfn => by
      obtain rfl : f = 5 := Option.some.inj ((show Tryd.prog.funcNamed "wayleave/wlvlaw8.UnpackPlays" = some 5 by kernel_rfl).symm.trans hf) |>.symm
      obtain rfl : fn = Tryd.f5 := (Option.some.inj (Tryd.func5.symm.trans hfn)).symm
      exact ⟨by kernel_rfl, fun j t ht => by
        rw [Tryd.params5] at ht
        have hm : t ∈ [35, 3] := by simpa using Array.mem_of_getElem? ht
        have hall : ([35, 3].all fun u => !Tryd.prog.wantsStandIn u) = true := by kernel_rfl
        exact (show Tryd.prog.wantsStandIn t = false by simpa using List.all_eq_true.1 hall t hm)⟩)
    (by kernel_rfl)
#print axioms unpackPlays_proved
end Go.Proofs.YtdiejemhhcaicaaDoor
