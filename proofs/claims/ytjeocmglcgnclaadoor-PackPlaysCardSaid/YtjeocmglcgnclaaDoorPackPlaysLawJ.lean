/- PackPlays returns true for every slice of operations; the row and its tied card. No condition. -/
import Derived.Test.YtjeocmglcgnclaaDoorPackPlaysJ
import Derived.Test.YtjeocmglcgnclaaDoorOps9J
import Derived.Test.YtjeocmglcgnclaaDoorGl
import Derived.Test.YtjeocmglcgnclaaDoorCards
import Derived.Test.YtjeocmglcgnclaaDoorTie
namespace Go.Proofs.YtjeocmglcgnclaaDoor
open Go.ChangeShapes Go.WideShapes Go.ChangeAt Go.RowKit Go.Deep

set_option maxRecDepth 100000 in
theorem packPlays_law : LawWalk 5 Tryd.f5 := by
  intro H enc W base args ds p hval hA hsz
  rw [Tryd.params5] at hA hval hsz
  obtain ⟨v0, d0, rfl, rfl, h0⟩ := trodAll_one hA
  obtain ⟨A0, n0, c0, l0, rfl, hb0, hc0, hd0⟩ := arg_ops9 (hval 0 39 v0 rfl rfl) h0
  exact pplays_walk A0 n0 c0 l0 W hb0 (ops9_len hsz (j := 0) rfl rfl hd0)

set_option maxRecDepth 100000 in
theorem packPlays_lifted (os : Os) (started : os.Started) (H : Type) (enc : TypeId × Value → H) :
    ReturnsInHanded {} Tryd.checked os 5 .any (fun w args => (Rows.packPlaysSpec.pre enc Tryd.prog Tryd.f5 Rows.packPlaysRow.domain false w args ∧ laidMetH Tryd.prog Rows.packPlaysRow.laid w) ∧ sizedMet enc Tryd.prog Tryd.f5 (OpenSpec.ofChange Rows.packPlaysSpec) false w args) (Rows.packPlaysSpec.post enc Tryd.prog Tryd.f5 false true false false) :=
  law_laid packPlays_law (by kernel_rfl) rfl (fun H ds h => by
      rw [Tryd.params5] at h
      match ds, h with
      | [d0], _ => rfl) (by
      rw [Tryd.params5]
      intro t ht
      change t ∈ [39] at ht
      simp only [List.mem_cons, List.not_mem_nil, or_false] at ht
      rcases ht with rfl
      all_goals exact ⟨by kernel_rfl, of_decide_eq_true (by kernel_rfl)⟩) (by kernel_rfl) Tryd.func5 os started H enc
    (ChangeSpec.witness_shaped (enc := enc) (C := Tryd.checked) (os := os) (X := fun w _ => laidMetH Tryd.prog Rows.packPlaysRow.laid w) false (World.laidAll Tryd.prog os Rows.packPlaysRow.laid) #[.slice none 0 0] 8 (World.laidAll_os _ _ _)
      (World.shaped_of_ZipB (by kernel_rfl) (by kernel_rfl)) (by kernel_rfl) (by kernel_rfl) (by kernel_rfl)
      (by rw [MakeChecks.laidMetH_plain _ _ _ (by kernel_rfl)]; exact laidMet_laidAll _ (by kernel_rfl) (by kernel_rfl)))

theorem packPlays_holds : Rows.PackPlaysSaid :=
  OpenClaim.holds_of_wide 5 Tryd.f5 rfl rfl rfl rfl rfl rfl rfl ⟨rfl, rfl, rfl, rfl, rfl⟩ rfl rfl rfl rfl rfl (by kernel_rfl) Tryd.func5 (by kernel_rfl)
    (of_decide_eq_true (by kernel_rfl)) (by unfold Func.isWrapper; first | (rw [if_pos (by decide +kernel)]; kernel_rfl) | (rw [if_neg (by decide +kernel)]; exact ⟨rfl, rfl⟩))
    (fun os started H enc _ => packPlays_lifted os started H enc)

theorem packPlays_proved : Rows.PackPlaysCardSaid :=
  Claim7.holds_tied_plain_at .later [] [.data, .pinned] true (true, "db3dfb45958c4f673d78ae63a8a2302ce8d713e27abd19f35f9d1912d1648aaf") false
    packPlays_holds (fun _ h => by cases h) (by kernel_rfl) (fun _ h => by cases h) packPlays_row_tie rfl ⟨rfl, rfl⟩ (by kernel_rfl) rfl
    (fun f fn hf hfn => by
      obtain rfl : f = 5 := Option.some.inj ((show Tryd.prog.funcNamed "wayleave/wlvlaw9.PackPlays" = some 5 by kernel_rfl).symm.trans hf) |>.symm
      obtain rfl : fn = Tryd.f5 := (Option.some.inj (Tryd.func5.symm.trans hfn)).symm
      exact ⟨by kernel_rfl, fun j t ht => by
        rw [Tryd.params5] at ht
        have hm : t ∈ [39] := by simpa using Array.mem_of_getElem? ht
        have hall : ([39].all fun u => !Tryd.prog.wantsStandIn u) = true := by kernel_rfl
        exact (show Tryd.prog.wantsStandIn t = false by simpa using List.all_eq_true.1 hall t hm)⟩)
    (by kernel_rfl)
#print axioms packPlays_proved
end Go.Proofs.YtjeocmglcgnclaaDoor
