/- What the static table holds, told by the kernel's own run. Plain. -/
import Derived.Test.YtnmadedmclcdnaaDoorStat
namespace Go.Proofs.YtnmadedmclcdnaaDoor
open Go.RowKit

/-- Each entry is found where it is, or lower, alike. -/
def okF (i : Nat) : Bool :=
  let q := tabF (i + 1)
  let r := findP q.1 q.2 61
  decide (1 ≤ r.1) && decide (r.1 ≤ i + 1) && decide (1 ≤ r.2) && decide (r.2 ≤ r.1) && (tabF r.1 == q)
set_option maxRecDepth 100000 in
theorem okF_all : ((List.range 61).all okF) = true := by decide +kernel
theorem okF_at {i : Nat} (h1 : 1 ≤ i) (h2 : i ≤ 61) : 1 ≤ (findP (tabF i).1 (tabF i).2 61).1 ∧ (findP (tabF i).1 (tabF i).2 61).1 ≤ i ∧ 1 ≤ (findP (tabF i).1 (tabF i).2 61).2 ∧ (findP (tabF i).1 (tabF i).2 61).2 ≤ (findP (tabF i).1 (tabF i).2 61).1 ∧ tabF (findP (tabF i).1 (tabF i).2 61).1 = tabF i := by
  have h := List.all_eq_true.1 okF_all (i - 1) (List.mem_range.2 (by omega))
  unfold okF at h
  rw [show i - 1 + 1 = i by omega] at h
  simp only [Bool.and_eq_true, decide_eq_true_eq, beq_iff_eq] at h
  obtain ⟨⟨⟨⟨a, b⟩, c⟩, d⟩, e⟩ := h
  exact ⟨a, b, c, d, e⟩
/-- What is found has that name and value. -/
theorem findP_says (nm vl : List UInt8) (k : Nat) : ((findP nm vl k).1 = 0 ∨ (1 ≤ (findP nm vl k).1 ∧ (tabF (findP nm vl k).1).1 = nm ∧ (tabF (findP nm vl k).1).2 = vl ∧ 1 ≤ (findP nm vl k).2)) ∧ ((findP nm vl k).2 = 0 ∨ (1 ≤ (findP nm vl k).2 ∧ (tabF (findP nm vl k).2).1 = nm)) := by
  induction k with
  | zero => exact ⟨.inl rfl, .inl rfl⟩
  | succ k ih =>
    rw [findP_succ]
    by_cases h1 : (tabF (k + 1)).1 = nm
    · rw [if_pos h1]
      dsimp only
      by_cases h2 : (findP nm vl k).2 = 0
      · rw [if_pos h2]
        refine ⟨?_, .inr ⟨by omega, h1⟩⟩
        by_cases h3 : (findP nm vl k).1 = 0 ∧ (tabF (k + 1)).2 = vl
        · rw [if_pos h3]
          exact .inr ⟨by omega, h1, h3.2, by omega⟩
        · rw [if_neg h3]
          rcases ih.1 with h | h
          · exact .inl h
          · omega
      · rw [if_neg h2]
        refine ⟨?_, ih.2⟩
        by_cases h3 : (findP nm vl k).1 = 0 ∧ (tabF (k + 1)).2 = vl
        · rw [if_pos h3]
          exact .inr ⟨by omega, h1, h3.2, by omega⟩
        · rw [if_neg h3]
          exact ih.1
    · rw [if_neg h1]
      exact ih
end Go.Proofs.YtnmadedmclcdnaaDoor
