/- wlvlaw6.Few, called once: what it answers for a slice of fields. -/
import Derived.Test.YtdiejemhhcaicaaDoorGa
namespace Go.Proofs.YtdiejemhhcaicaaDoor
open Go.RowKit
attribute [local go_sem] kd kdS if_min if_max if_minN if_maxN

def fdMin (f : Fd) : Nat := min f.n.size 40001 + min f.v.size 40001
def fdSum (l : List Fd) (k : Nat) : Nat := ((l.take k).map fdMin).sum
def fewF (l : List Fd) : Bool := decide (l.length ≤ 200) && decide (fdSum l 200 ≤ 40000)
theorem fdSum_succ {l : List Fd} {k : Nat} {x : Fd} (h : l[k]? = some x) : fdSum l (k + 1) = fdSum l k + fdMin x := by
  unfold fdSum
  rw [List.take_add_one, h]
  simp
theorem fdSum_le (l : List Fd) (k : Nat) : fdSum l k ≤ k * 80002 := by
  induction k with
  | zero => simp [fdSum]
  | succ k ih =>
    rcases h : l[k]? with _ | x
    · have : fdSum l (k + 1) = fdSum l k := by unfold fdSum; rw [List.take_add_one, h]; simp
      omega
    · rw [fdSum_succ h]; unfold fdMin; omega
theorem fdSum_all {l : List Fd} {k : Nat} (h : l.length ≤ k) : fdSum l k = fdSum l l.length := by
  unfold fdSum
  rw [List.take_of_length_le h, List.take_of_length_le (Nat.le_refl _)]
theorem fewF_mid {l : List Fd} {n k : Nat} (hn : l.length = n) (hk1 : k ≤ 200) (h : ¬ (k < n ∧ k < 200)) :
    fewF l = (decide ((n : Int) ≤ 200) && decide ((fdSum l k : Int) ≤ 40000)) := by
  unfold fewF
  rw [hn]
  by_cases h1 : 200 < n
  · rw [show decide (n ≤ 200) = false by simp; omega, show decide ((n : Int) ≤ 200) = false by simp; omega]
    rfl
  · rw [show fdSum l 200 = fdSum l k by rw [fdSum_all (k := 200) (by omega), fdSum_all (k := k) (by omega)]]
    congr 1
    · exact decide_eq_decide.2 (by omega)
    · exact decide_eq_decide.2 (by omega)
/-- What Few tells. -/
theorem fewF_sum {l : List Fd} (h : fewF l = true) : l.length ≤ 200 ∧ (l.map fun f => f.n.size + f.v.size).sum ≤ 40000 := by
  unfold fewF at h
  simp at h
  obtain ⟨h1, h2⟩ := h
  refine ⟨h1, ?_⟩
  unfold fdSum at h2
  rw [List.take_of_length_le h1] at h2
  clear h1
  have key : ∀ l : List Fd, (l.map fdMin).sum ≤ 40000 → (l.map fun f => f.n.size + f.v.size).sum = (l.map fdMin).sum := by
    intro l
    induction l with
    | nil => intro _; rfl
    | cons f l ih =>
      intro h
      simp only [List.map_cons, List.sum_cons] at h ⊢
      rw [ih (by omega)]
      unfold fdMin at h ⊢
      omega
  rw [key l h2]
  exact h2
theorem fewF_len {l : List Fd} (h : fewF l = true) : l.length ≤ 200 := (fewF_sum h).1
theorem fewF_each {l : List Fd} (h : fewF l = true) {f : Fd} (hf : f ∈ l) : f.n.size + f.v.size ≤ 40000 := by
  have h2 := (fewF_sum h).2
  have : ∀ l : List Fd, f ∈ l → f.n.size + f.v.size ≤ (l.map fun f => f.n.size + f.v.size).sum := by
    intro l
    induction l with
    | nil => intro h; cases h
    | cons g l ih =>
      intro h
      simp only [List.map_cons, List.sum_cons]
      rcases List.mem_cons.1 h with rfl | h
      · omega
      · have := ih h; omega
  have := this l hf
  omega
theorem fewF_total {l : List Fd} (h : fewF l = true) : total l ≤ 46400 := by
  obtain ⟨h1, h2⟩ := fewF_sum h
  have : ∀ l : List Fd, total l = (l.map fun f => f.n.size + f.v.size).sum + 32 * l.length := by
    intro l
    induction l with
    | nil => rfl
    | cons f l ih => rw [total_cons, ih]; simp [Fd.size]; omega
  rw [this]
  omega

end Go.Proofs.YtdiejemhhcaicaaDoor
