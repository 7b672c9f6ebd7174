/- FramePuts returns true for every slice of frames and leaves it as it was: Put and Same of the package answer as the reference's. No condition. -/
import Derived.Test.YtakkabilpjjmgaaFrameOpen
import Derived.Test.YtakkabilpjjmgaaFramePuts
namespace Go.Proofs.Ytakkabilpjjmgaa
open Go.ChangeShapes Go.WideShapes Go.ChangeAt Go.RowKit Go.Deep

theorem Try.bytes_frame : Try.prog.bytesOf 30 = 48 := by kernel_rfl

theorem frames_len {H : Type} {ds : List (DataW H)} {ts : List TypeId} {j : Nat} {d : DataW H} {n : Nat} (hsz : (DataW.weightsEach Try.prog ts ds).all (· ≤ reachBytes) = true)
    (ht : ts[j]? = some 22) (hd : ds[j]? = some d) (h : d = .nil ∧ n = 0 ∨ ∃ elems sp, d = .slice elems sp ∧ elems.length = n) : n ≤ 140737488355328 := by
  rcases h with ⟨_, rfl⟩ | ⟨elems, sp, rfl, rfl⟩
  · omega
  · have := sized_slice hsz ht hd Try.underlying22
    rw [Try.bytes_frame] at this
    simp only [reachBytes] at this
    omega

theorem framePuts_law : LawWalk 3 Try.f3 := by
  intro H enc W base args ds p hval hA hsz
  rw [Try.params3] at hA hval hsz
  obtain ⟨v, d, rfl, rfl, h0⟩ := trodAll_one hA
  obtain ⟨a0, len, cap, rfl⟩ := okWide_slice Try.underlying22 (hval 0 22 v rfl rfl)
  obtain ⟨fuel, hf⟩ := h0
  obtain ⟨A, n, c, fs, hcs, hfr, _, hd⟩ := trod_frames hf
  simp [Value.cells] at hcs
  obtain ⟨rfl, rfl, rfl⟩ := hcs
  exact puts_walk _ _ _ fs W hfr (frames_len hsz (j := 0) rfl rfl hd)

set_option maxRecDepth 100000 in
theorem framePuts_lifted (os : Os) (started : os.Started) (H : Type) (enc : TypeId × Value → H) :
    ReturnsInHanded {} Try.checked os 3 .any (Rows.framePutsSpec.pre6 enc Try.prog Try.f3 Rows.framePutsRow.domain false) (Rows.framePutsSpec.post enc Try.prog Try.f3 false true false false) :=
  law_lifted framePuts_law (by kernel_rfl) rfl (fun H ds h => by
      rw [Try.params3] at h
      match ds, h with
      | [d], _ => rfl) (by
      rw [Try.params3]
      intro t ht
      simp at ht
      subst ht
      exact ⟨by kernel_rfl, of_decide_eq_true (by kernel_rfl)⟩) (by kernel_rfl) Try.func3 os started H enc
    (ChangeSpec.witness6 (enc := enc) (C := Try.checked) false ⟨#[], #[.slice none 0 0], []⟩ 8 (by kernel_rfl) (by kernel_rfl) (by kernel_rfl) (by kernel_rfl))

theorem framePuts_proved : Rows.FramePutsSaid :=
  OpenClaim.holds_of_wide 3 Try.f3 rfl rfl rfl rfl rfl rfl rfl ⟨rfl, rfl, rfl, rfl, rfl⟩ rfl rfl rfl rfl rfl (by kernel_rfl) Try.func3 (by kernel_rfl)
    (of_decide_eq_true (by kernel_rfl)) (by unfold Func.isWrapper; first | (rw [if_pos (by decide +kernel)]; kernel_rfl) | (rw [if_neg (by decide +kernel)]; exact ⟨rfl, rfl⟩))
    (fun os started H enc _ => framePuts_lifted os started H enc)
#print axioms framePuts_proved
end Go.Proofs.Ytakkabilpjjmgaa
