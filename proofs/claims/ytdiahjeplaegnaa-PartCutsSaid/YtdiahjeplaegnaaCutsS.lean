/- What Read answers to the bodies of PartCuts. Condition: the stream is no less than 1. -/
import Derived.Test.YtdiahjeplaegnaaCutsJ
namespace Go.Proofs.Ytdiahjeplaegnaa
open Go.RowKit
theorem cut_spec_0_0 (stream : Int) (hst : 1 ≤ stream) : ∀ w e w', PartPost (readP 2 0 stream (zl 4)) w e w' → FaultIs true false 6 w e w' := by
  intro w e w' h
  have hs : ¬ stream = 0 := by omega
  rw [show readP 2 0 stream (zl 4) = streamP 6 by unfold readP; simp [zl, hs]] at h
  exact FaultIs.of h
theorem cut_spec_0_1 (stream : Int) (hst : 1 ≤ stream) : ∀ w e w', PartPost (readP 2 0 stream (zl 6)) w e w' → FaultIs true false 6 w e w' := by
  intro w e w' h
  have hs : ¬ stream = 0 := by omega
  rw [show readP 2 0 stream (zl 6) = streamP 6 by unfold readP; simp [zl, hs]] at h
  exact FaultIs.of h
theorem cut_ok_0 (stream : Int) (hst : 1 ≤ stream) : ∀ w e w', PartPost (readP 2 0 stream (zl 4 ++ [1])) w e w' → FaultIs false false 0 w e w' := by
  intro w e w' h
  have hs : ¬ stream = 0 := by omega
  rw [show readP 2 0 stream (zl 4 ++ [1]) = {} by unfold readP; simp [zl, hs]] at h
  exact FaultIs.of h
theorem cut_spec_1_0 (stream : Int) (hst : 1 ≤ stream) : ∀ w e w', PartPost (readP 3 0 stream (zl 3)) w e w' → FaultIs true true 6 w e w' := by
  intro w e w' h
  have hs : ¬ stream = 0 := by omega
  rw [show readP 3 0 stream (zl 3) = connP 6 by unfold readP; simp [zl, hs]] at h
  exact FaultIs.of h
theorem cut_spec_1_1 (stream : Int) (hst : 1 ≤ stream) : ∀ w e w', PartPost (readP 3 0 stream (zl 5)) w e w' → FaultIs true true 6 w e w' := by
  intro w e w' h
  have hs : ¬ stream = 0 := by omega
  rw [show readP 3 0 stream (zl 5) = connP 6 by unfold readP; simp [zl, hs]] at h
  exact FaultIs.of h
theorem cut_ok_1 (stream : Int) (hst : 1 ≤ stream) : ∀ w e w', PartPost (readP 3 0 stream (zl 3 ++ [1])) w e w' → FaultIs false false 0 w e w' := by
  intro w e w' h
  have hs : ¬ stream = 0 := by omega
  rw [show readP 3 0 stream (zl 3 ++ [1]) = { code := n4 (zl 3 ++ [1]) } by unfold readP; simp [zl, hs]] at h
  exact FaultIs.of h
theorem cut_spec_2_0 (stream : Int) (hst : 1 ≤ stream) : ∀ w e w', PartPost (readP 4 0 0 (zl 5)) w e w' → FaultIs true true 6 w e w' := by
  intro w e w' h
  have hs : ¬ stream = 0 := by omega
  rw [show readP 4 0 0 (zl 5) = connP 6 by unfold readP settingsP; simp [zl, hs]] at h
  exact FaultIs.of h
theorem cut_spec_2_1 (stream : Int) (hst : 1 ≤ stream) : ∀ w e w', PartPost (readP 4 0 0 (zl 7)) w e w' → FaultIs true true 6 w e w' := by
  intro w e w' h
  have hs : ¬ stream = 0 := by omega
  rw [show readP 4 0 0 (zl 7) = connP 6 by unfold readP settingsP; simp [zl, hs]] at h
  exact FaultIs.of h
theorem cut_ok_2 (stream : Int) (hst : 1 ≤ stream) : ∀ w e w', PartPost (readP 4 0 0 (zl 5 ++ [1])) w e w' → FaultIs false false 0 w e w' := by
  intro w e w' h
  have hs : ¬ stream = 0 := by omega
  rw [show readP 4 0 0 (zl 5 ++ [1]) = { a := fl 0 1, sets := setsOf (zl 5 ++ [1]) 1 } by unfold readP; rw [if_neg (by decide), if_pos rfl]; unfold settingsP; rw [if_neg (by simp), if_neg (by decide)]; rfl] at h
  exact FaultIs.of h
theorem cut_spec_3_0 (stream : Int) (hst : 1 ≤ stream) : ∀ w e w', PartPost (readP 6 0 0 (zl 7)) w e w' → FaultIs true true 6 w e w' := by
  intro w e w' h
  have hs : ¬ stream = 0 := by omega
  rw [show readP 6 0 0 (zl 7) = connP 6 by unfold readP wholeP; simp [zl, hs]] at h
  exact FaultIs.of h
theorem cut_spec_3_1 (stream : Int) (hst : 1 ≤ stream) : ∀ w e w', PartPost (readP 6 0 0 (zl 9)) w e w' → FaultIs true true 6 w e w' := by
  intro w e w' h
  have hs : ¬ stream = 0 := by omega
  rw [show readP 6 0 0 (zl 9) = connP 6 by unfold readP wholeP; simp [zl, hs]] at h
  exact FaultIs.of h
theorem cut_ok_3 (stream : Int) (hst : 1 ≤ stream) : ∀ w e w', PartPost (readP 6 0 0 (zl 7 ++ [1])) w e w' → FaultIs false false 0 w e w' := by
  intro w e w' h
  have hs : ¬ stream = 0 := by omega
  rw [show readP 6 0 0 (zl 7 ++ [1]) = { d := (zl 7 ++ [1]), a := fl 0 1 } by unfold readP; rw [if_neg (by decide), if_neg (by decide), if_neg (by decide), if_pos (by decide)]; unfold wholeP; simp [zl]] at h
  exact FaultIs.of h
theorem cut_spec_4_0 (stream : Int) (hst : 1 ≤ stream) : ∀ w e w', PartPost (readP 7 0 0 (zl 7)) w e w' → FaultIs true true 6 w e w' := by
  intro w e w' h
  have hs : ¬ stream = 0 := by omega
  rw [show readP 7 0 0 (zl 7) = connP 6 by unfold readP wholeP; simp [zl, hs]] at h
  exact FaultIs.of h
theorem cut_spec_4_1 (stream : Int) (hst : 1 ≤ stream) : ∀ w e w', PartPost (readP 7 0 0 (zl 9)) w e w' → FaultIs false false 0 w e w' := by
  intro w e w' h
  have hs : ¬ stream = 0 := by omega
  rw [show readP 7 0 0 (zl 9) = { last := m31 (n4 (zl 9)), code := n4 ((zl 9).drop 4) } by unfold readP wholeP; simp [zl, hs]] at h
  exact FaultIs.of h
theorem cut_ok_4 (stream : Int) (hst : 1 ≤ stream) : ∀ w e w', PartPost (readP 7 0 0 (zl 7 ++ [1])) w e w' → FaultIs false false 0 w e w' := by
  intro w e w' h
  have hs : ¬ stream = 0 := by omega
  rw [show readP 7 0 0 (zl 7 ++ [1]) = { last := m31 (n4 (zl 7 ++ [1])), code := n4 ((zl 7 ++ [1]).drop 4) } by unfold readP; rw [if_neg (by decide), if_neg (by decide), if_neg (by decide), if_pos (by decide)]; unfold wholeP; simp [zl]] at h
  exact FaultIs.of h
theorem cut_spec_5_0 (stream : Int) (hst : 1 ≤ stream) : ∀ w e w', PartPost (readP 8 0 stream (zl 3)) w e w' → FaultIs true true 6 w e w' := by
  intro w e w' h
  have hs : ¬ stream = 0 := by omega
  rw [show readP 8 0 stream (zl 3) = connP 6 by unfold readP updateP; simp [zl, hs]] at h
  exact FaultIs.of h
theorem cut_spec_5_1 (stream : Int) (hst : 1 ≤ stream) : ∀ w e w', PartPost (readP 8 0 stream (zl 5)) w e w' → FaultIs true true 6 w e w' := by
  intro w e w' h
  have hs : ¬ stream = 0 := by omega
  rw [show readP 8 0 stream (zl 5) = connP 6 by unfold readP updateP; simp [zl, hs]] at h
  exact FaultIs.of h
theorem cut_ok_5 (stream : Int) (hst : 1 ≤ stream) : ∀ w e w', PartPost (readP 8 0 stream (zl 3 ++ [1])) w e w' → FaultIs false false 0 w e w' := by
  intro w e w' h
  have hs : ¬ stream = 0 := by omega
  rw [show readP 8 0 stream (zl 3 ++ [1]) = { step := m31 (n4 (zl 3 ++ [1])) } by unfold readP; rw [if_neg (by decide), if_neg (by decide), if_neg (by decide), if_neg (by decide), if_pos rfl]; unfold updateP; rw [if_neg (by decide), if_neg (by decide)]] at h
  exact FaultIs.of h
end Go.Proofs.Ytdiahjeplaegnaa
