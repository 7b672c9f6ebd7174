/- wlvlaw6.Few, called once: what it answers for a slice of fields. -/
import Derived.Test.YtjeocmglcgnclaaDoorGa
namespace Go.Proofs.YtjeocmglcgnclaaDoor
open Go.RowKit
attribute [local go_sem] kd kdS if_min if_max if_minN if_maxN

def fdMin (f : Fd) : Nat := min f.n.size 40001 + min f.v.size 40001
def fdSum (l : List Fd) (k : Nat) : Nat := ((l.take k).map fdMin).sum
def fewF (l : List Fd) : Bool := decide (l.length ≤ 200) && decide (fdSum l 200 ≤ 40000)
theorem fdSum_succ {l : List Fd} {k : Nat} {x : Fd} (h : l[k]? = some x) : fdSum l (k + 1) = fdSum l k + fdMin x := by
  unfold fdSum
  rw [List.take_add_one, h]
  simp
theorem fdSum_le (l : List Fd) (k : Nat) : fdSum l k ≤ k * 80002 := by
  induction k with
  | zero => simp [fdSum]
  | succ k ih =>
    rcases h : l[k]? with _ | x
    · have : fdSum l (k + 1) = fdSum l k := by unfold fdSum; rw [List.take_add_one, h]; simp
      omega
    · rw [fdSum_succ h]; unfold fdMin; omega
theorem fdSum_all {l : List Fd} {k : Nat} (h : l.length ≤ k) : fdSum l k = fdSum l l.length := by
  unfold fdSum
  rw [List.take_of_length_le h, List.take_of_length_le (Nat.le_refl _)]
theorem fewF_mid {l : List Fd} {n k : Nat} (hn : l.length = n) (hk1 : k ≤ 200) (h : ¬ (k < n ∧ k < 200)) :
    fewF l = (decide ((n : Int) ≤ 200) && decide ((fdSum l k : Int) ≤ 40000)) := by
  unfold fewF
  rw [hn]
  by_cases h1 : 200 < n
  · rw [show decide (n ≤ 200) = false by simp; omega, show decide ((n : Int) ≤ 200) = false by simp; omega]
    rfl
  · rw [show fdSum l 200 = fdSum l k by rw [fdSum_all (k := 200) (by omega), fdSum_all (k := k) (by omega)]]
    congr 1
    · exact decide_eq_decide.2 (by omega)
    · exact decide_eq_decide.2 (by omega)
/-- What Few tells. -/
theorem fewF_sum {l : List Fd} (h : fewF l = true) : l.length ≤ 200 ∧ (l.map fun f => f.n.size + f.v.size).sum ≤ 40000 := by
  unfold fewF at h
  simp at h
  obtain ⟨h1, h2⟩ := h
  refine ⟨h1, ?_⟩
  unfold fdSum at h2
  rw [List.take_of_length_le h1] at h2
  clear h1
  have key : ∀ l : List Fd, (l.map fdMin).sum ≤ 40000 → (l.map fun f => f.n.size + f.v.size).sum = (l.map fdMin).sum := by
    intro l
    induction l with
    | nil => intro _; rfl
    | cons f l ih =>
      intro h
      simp only [List.map_cons, List.sum_cons] at h ⊢
      rw [ih (by omega)]
      unfold fdMin at h ⊢
      omega
  rw [key l h2]
  exact h2
theorem fewF_len {l : List Fd} (h : fewF l = true) : l.length ≤ 200 := (fewF_sum h).1
theorem fewF_each {l : List Fd} (h : fewF l = true) {f : Fd} (hf : f ∈ l) : f.n.size + f.v.size ≤ 40000 := by
  have h2 := (fewF_sum h).2
  have : ∀ l : List Fd, f ∈ l → f.n.size + f.v.size ≤ (l.map fun f => f.n.size + f.v.size).sum := by
    intro l
    induction l with
    | nil => intro h; cases h
    | cons g l ih =>
      intro h
      simp only [List.map_cons, List.sum_cons]
      rcases List.mem_cons.1 h with rfl | h
      · omega
      · have := ih h; omega
  have := this l hf
  omega
theorem fewF_total {l : List Fd} (h : fewF l = true) : total l ≤ 46400 := by
  obtain ⟨h1, h2⟩ := fewF_sum h
  have : ∀ l : List Fd, total l = (l.map fun f => f.n.size + f.v.size).sum + 32 * l.length := by
    intro l
    induction l with
    | nil => rfl
    | cons f l ih => rw [total_cons, ih]; simp [Fd.size]; omega
  rw [this]
  omega

set_option maxHeartbeats 400000 in
set_option maxRecDepth 100000 in
theorem fewF_any (A : Option Addr) (n c : Nat) (l : List Fd) (w : World) (h : Fs w A n l) (hn : n ≤ 140737488355328) :
    Calls Tryd.prog 33 #[.slice A n c] w fun e w' => e = .returned (.bool (fewF l)) ∧ Turned [] w w' := by
  go_enter Tryd.func33, Tryd.ntmps33
  go_wp2_with fail
  go_loopw [3, 4] (fun o i w' => ∃ k : Nat, k ≤ n ∧ k ≤ 200 ∧ i = .int .i64 k ∧ o = .int .i64 (fdSum l k) ∧ Turned [] w w') (fun _ i _ => n - (intOf i).toNat)
  case atStart => exact ⟨0, Nat.zero_le _, by omega, rfl, rfl, Turned.refl _ _⟩
  case round =>
    obtain ⟨k, hk, hk1, rfl, rfl, htw⟩ := hrel
    have hq := fdSum_le l k
    have HTW := hid htw
    by_cases hlt : k < n ∧ k < 200
    · obtain ⟨hl1, hl2⟩ := hlt
      obtain ⟨b, o, x, rfl, hx, h0, h1, h2⟩ := Fs.at_ (Rd.turned h htw (by intro ad _ hb; cases hb)) hl1
      have HS := hid (fdSum_succ hx)
      clear htw h
      go_wp2_with fail
      (refine wp_mix ?_ ?_ ?_; (focus kernel_rfl); (focus kernel_rfl); intro KK hKK; go_wp2_with (first
            | (fail)
            | (with_reducible refine mix_nil ?_)
            | ((with_reducible refine mix_on ?_ ?_); (focus rfl); intro K hK; go_simp; (first | ((with_reducible refine hK _ _ ?_); clear hK K) | skip))
            | ((with_reducible refine mix_off ?_ ?_); (focus rfl); intro K hK; go_simp; (first | ((with_reducible refine hK _ _ ?_); clear hK K) | skip))
            | ((with_reducible refine mix_step ?_); intro K hK; go_simp; (first | ((with_reducible refine hK _ _ ?_); clear hK K) | skip))))
      all_goals
        go_roundw
        case rel => exact ⟨k + 1, by omega, by omega, by go_num, by rw [HS.out]; unfold fdMin; rw [IntWalk.i64_in (_ + min 40001 (x.n.size : Int)) (by omega), IntWalk.i64_in _ (by omega)]; congr 1; omega, HTW.out.drew⟩
        case measure => simp [intOf]; omega
    · have hlen := h.len
      have HB := hid (fewF_mid hlen hk1 hlt)
      clear h hlen
      by_cases hk2 : k < n
      · have hk3 : k = 200 := by omega
        have HB2 : Hid (fewF l = false) := by
          show _ = _
          rw [HB.out, show decide ((n : Int) ≤ 200) = false by simp; omega]
          rfl
        subst hk3
        go_wp2_with fail
        all_goals
          go_ret
          exact ⟨by rw [HB2.out]; rfl, HTW.out⟩
      · have HB2 : Hid (fewF l = decide ((fdSum l k : Int) ≤ 40000)) := by
          show _ = _
          rw [HB.out, show decide ((n : Int) ≤ 200) = true by simp; omega]
          rfl
        go_wp2_with fail
        all_goals
          go_ret
          exact ⟨by rw [HB2.out]; rfl, HTW.out⟩
end Go.Proofs.YtjeocmglcgnclaaDoor
