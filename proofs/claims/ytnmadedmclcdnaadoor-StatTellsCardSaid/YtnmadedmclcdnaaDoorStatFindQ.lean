/- The two searches of the table answer alike. Plain. -/
import Derived.Test.YtnmadedmclcdnaaDoorStatRefF
namespace Go.Proofs.YtnmadedmclcdnaaDoor
open Go.RowKit

/-- The least place of a span with M; 0: none. -/
def Least (M : Nat → Prop) (a b r : Nat) : Prop := (r = 0 ∧ ∀ i, a ≤ i → i ≤ b → ¬ M i) ∨ (a ≤ r ∧ r ≤ b ∧ M r ∧ ∀ i, a ≤ i → i < r → ¬ M i)
theorem Least.one {M : Nat → Prop} {a b r s : Nat} (h1 : Least M a b r) (h2 : Least M a b s) : r = s := by
  rcases h1 with ⟨rfl, h1⟩ | ⟨h1, h2', h3, h4⟩
  · rcases h2 with ⟨rfl, _⟩ | ⟨g1, g2, g3, _⟩
    · rfl
    · exact absurd g3 (h1 _ g1 g2)
  · rcases h2 with ⟨rfl, h2⟩ | ⟨g1, g2, g3, g4⟩
    · exact absurd h3 (h2 _ h1 h2')
    · rcases Nat.lt_trichotomy r s with h | h | h
      · exact absurd h3 (g4 _ h1 h)
      · exact h
      · exact absurd g3 (h4 _ g1 h)
/-- One more at the top. -/
theorem Least.up {M : Nat → Prop} [DecidablePred M] {b r : Nat} (h : Least M 1 b r) : Least M 1 (b + 1) (if r = 0 ∧ M (b + 1) then b + 1 else r) := by
  rcases h with ⟨rfl, h⟩ | ⟨h1, h2, h3, h4⟩
  · by_cases hm : M (b + 1)
    · rw [if_pos ⟨rfl, hm⟩]
      exact .inr ⟨by omega, by omega, hm, fun i hi hl => h i hi (by omega)⟩
    · rw [if_neg (fun h => hm h.2)]
      refine .inl ⟨rfl, fun i hi hl => ?_⟩
      by_cases e : i = b + 1
      · exact e ▸ hm
      · exact h i hi (by omega)
  · rw [if_neg (by omega)]
    exact .inr ⟨h1, by omega, h3, h4⟩
/-- One more at the bottom. -/
theorem Least.down {M : Nat → Prop} [DecidablePred M] {a b r : Nat} (ha : a + 1 ≤ b + 1) (ha1 : 1 ≤ a) (h : Least M (a + 1) b r) : Least M a b (if M a then a else r) := by
  by_cases hm : M a
  · rw [if_pos hm]
    exact .inr ⟨by omega, by omega, hm, fun i hi hl => by omega⟩
  · rw [if_neg hm]
    rcases h with ⟨rfl, h⟩ | ⟨h1, h2, h3, h4⟩
    · refine .inl ⟨rfl, fun i hi hl => ?_⟩
      by_cases e : i = a
      · exact e ▸ hm
      · exact h i (by omega) hl
    · refine .inr ⟨by omega, h2, h3, fun i hi hl => ?_⟩
      by_cases e : i = a
      · exact e ▸ hm
      · exact h4 i (by omega) hl

theorem findP_least (nm vl : List UInt8) (k : Nat) : Least (fun i => (tabF i).1 = nm ∧ (tabF i).2 = vl) 1 k (findP nm vl k).1 ∧ Least (fun i => (tabF i).1 = nm) 1 k (findP nm vl k).2 := by
  induction k with
  | zero => exact ⟨.inl ⟨rfl, fun i h1 h2 => by omega⟩, .inl ⟨rfl, fun i h1 h2 => by omega⟩⟩
  | succ k ih =>
    have h1 := ih.1.up
    have h2 := ih.2.up
    rw [findP_succ]
    by_cases e : (tabF (k + 1)).1 = nm
    · rw [if_pos e]
      simp only [e, true_and, and_true] at h1 h2
      exact ⟨h1, h2⟩
    · rw [if_neg e]
      simp only [e, false_and, and_false, if_false] at h1 h2
      exact ⟨h1, h2⟩
theorem rfindP_least (nm vl : List UInt8) (d : Nat) (hd : d ≤ 61) : Least (fun i => (tabF i).1 = nm ∧ (tabF i).2 = vl) (62 - d) 61 (rfindP nm vl d).1 ∧ Least (fun i => (tabF i).1 = nm) (62 - d) 61 (rfindP nm vl d).2 := by
  induction d with
  | zero => exact ⟨.inl ⟨rfl, fun i h1 h2 => by omega⟩, .inl ⟨rfl, fun i h1 h2 => by omega⟩⟩
  | succ d ih =>
    have ih := ih (by omega)
    rw [show 62 - d = 61 - d + 1 by omega] at ih
    have h1 := ih.1.down (by omega) (by omega)
    have h2 := ih.2.down (by omega) (by omega)
    rw [show 62 - (d + 1) = 61 - d by omega]
    unfold rfindP
    dsimp only at h1 h2 ⊢
    by_cases e : (tabF (61 - d)).1 = nm
    · rw [if_pos e]
      simp only [e, true_and, if_true] at h1 h2
      exact ⟨h1, h2⟩
    · rw [if_neg e]
      simp only [e, false_and, if_false] at h1 h2
      exact ⟨h1, h2⟩
theorem rfind_is (nm vl : List UInt8) : rfindP nm vl 61 = findP nm vl 61 := by
  obtain ⟨a1, a2⟩ := findP_least nm vl 61
  obtain ⟨b1, b2⟩ := rfindP_least nm vl 61 (Nat.le_refl _)
  exact Prod.ext (Least.one b1 a1) (Least.one b2 a2)
end Go.Proofs.YtnmadedmclcdnaaDoor
