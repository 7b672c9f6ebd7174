/- The law package's slice of frames, and Few. Few asks that there are at most 2^47 frames. -/
import Derived.Test.YtdiahjeplaegnaaTurn
namespace Go.Proofs.Ytdiahjeplaegnaa
open Go.RowKit

/-- A frame, with where its body lies. -/
structure Fr where
  k : Int
  f : Int
  s : Int
  A : Option Addr
  n : Nat
  c : Nat
  l : List UInt8
def Fr.cells (x : Fr) : List Value := [.int .i64 x.k, .int .i64 x.f, .int .i64 x.s, .slice x.A x.n x.c]

/-- A slice of frames that reads as fs. -/
structure Frs (w : World) (A : Option Addr) (n : Nat) (fs : List Fr) : Prop where
  len : fs.length = n
  at_ : 0 < n → ∃ b o, A = some ⟨b, o, none⟩ ∧ ∀ i x, fs[i]? = some x → w.cell? ⟨b, o + i * 4, none⟩ = some (.int .i64 x.k) ∧ w.cell? ⟨b, o + i * 4 + 1, none⟩ = some (.int .i64 x.f) ∧ w.cell? ⟨b, o + i * 4 + 2, none⟩ = some (.int .i64 x.s) ∧ w.cell? ⟨b, o + i * 4 + 3, none⟩ = some (.slice x.A x.n x.c)
  body : ∀ x ∈ fs, Bs w x.A x.n x.l ∧ x.n ≤ x.c
theorem Frs.below {w w' : World} {A : Option Addr} {n : Nat} {fs : List Fr} (h : Frs w A n fs) (hb : Below w.heap.size w w') : Frs w' A n fs :=
  ⟨h.len, fun hn => by
    obtain ⟨b, o, e, hc⟩ := h.at_ hn
    refine ⟨b, o, e, fun i x hx => ?_⟩
    obtain ⟨h0, h1, h2, h3⟩ := hc i x hx
    exact ⟨below_keep hb _ _ h0, below_keep hb _ _ h1, below_keep hb _ _ h2, below_keep hb _ _ h3⟩, fun x hx => ⟨(h.body x hx).1.below hb, (h.body x hx).2⟩⟩

def fewSum (fs : List Fr) (k : Nat) : Nat := ((fs.take k).map fun x => min x.n 40001).sum
def fewB (fs : List Fr) : Bool := decide (fs.length ≤ 100) && decide (fewSum fs 100 ≤ 40000)
theorem fewSum_succ {fs : List Fr} {k : Nat} {x : Fr} (h : fs[k]? = some x) : fewSum fs (k + 1) = fewSum fs k + min x.n 40001 := by
  unfold fewSum
  rw [List.take_add_one, h]
  simp
theorem fewSum_le (fs : List Fr) (k : Nat) : fewSum fs k ≤ k * 40001 := by
  induction k with
  | zero => simp [fewSum]
  | succ k ih =>
    rcases h : fs[k]? with _ | x
    · have : fewSum fs (k + 1) = fewSum fs k := by unfold fewSum; rw [List.take_add_one, h]; simp
      omega
    · rw [fewSum_succ h]; omega
theorem fewSum_all {fs : List Fr} {k : Nat} (h : fs.length ≤ k) : fewSum fs k = fewSum fs fs.length := by
  unfold fewSum
  rw [List.take_of_length_le h, List.take_of_length_le (Nat.le_refl _)]

theorem fewB_mid {fs : List Fr} {n k : Nat} (hn : fs.length = n) (hk1 : k ≤ 100) (h : ¬ (k < n ∧ k < 100)) :
    fewB fs = (decide ((n : Int) ≤ 100) && decide ((fewSum fs k : Int) ≤ 40000)) := by
  unfold fewB
  rw [hn]
  by_cases h1 : 100 < n
  · rw [show decide (n ≤ 100) = false by simp; omega, show decide ((n : Int) ≤ 100) = false by simp; omega]
    rfl
  · rw [show fewSum fs 100 = fewSum fs k by rw [fewSum_all (k := 100) (by omega), fewSum_all (k := k) (by omega)]]
    congr 1
    · exact decide_eq_decide.2 (by omega)
    · exact decide_eq_decide.2 (by omega)

set_option maxHeartbeats 400000 in
set_option maxRecDepth 100000 in
theorem few_any (A : Option Addr) (n c : Nat) (fs : List Fr) (w : World) (h : Frs w A n fs) (hn : n ≤ 140737488355328) :
    Calls Try.prog 8 #[.slice A n c] w fun e w' => e = .returned (.bool (fewB fs)) ∧ w = w' := by
  go_enter Try.func8, Try.ntmps8
  go_wp2_with fail
  go_loop [3, 4] (fun o i => ∃ k : Nat, k ≤ n ∧ k ≤ 100 ∧ i = .int .i64 k ∧ o = .int .i64 (fewSum fs k)) (fun _ i => n - (intOf i).toNat)
  case atStart => exact ⟨0, Nat.zero_le _, by omega, rfl, rfl⟩
  case round =>
    obtain ⟨k, hk, hk1, rfl, rfl⟩ := hrel
    have hq := fewSum_le fs k
    by_cases hlt : k < n ∧ k < 100
    · obtain ⟨hl1, hl2⟩ := hlt
      obtain ⟨b, o, rfl, hc⟩ := h.at_ (by omega)
      obtain ⟨x, hx⟩ : ∃ x, fs[k]? = some x := ⟨fs[k]'(by have := h.len; omega), List.getElem?_eq_getElem _⟩
      obtain ⟨h0, h1, h2, h3⟩ := hc k x hx
      have HS := hid (fewSum_succ hx)
      clear hc hx h
      go_wp2_with fail
      all_goals
        go_round
        case rel => exact ⟨k + 1, by omega, by omega, by go_num, by rw [HS.out]; go_num⟩
        case measure => simp [intOf]; omega
    · have hlen := h.len
      have HB := hid (fewB_mid hlen hk1 hlt)
      clear h hlen
      by_cases hk2 : k < n
      · have hk3 : k = 100 := by omega
        have HB2 : Hid (fewB fs = false) := by
          show _ = _
          rw [HB.out, show decide ((n : Int) ≤ 100) = false by simp; omega]
          rfl
        subst hk3
        go_wp2_with fail
        all_goals
          go_ret
          exact ⟨by rw [HB2.out]; rfl, rfl⟩
      · have HB2 : Hid (fewB fs = decide ((fewSum fs k : Int) ≤ 40000)) := by
          show _ = _
          rw [HB.out, show decide ((n : Int) ≤ 100) = true by simp; omega]
          rfl
        go_wp2_with fail
        all_goals
          go_ret
          exact ⟨by rw [HB2.out]; rfl, rfl⟩

theorem fewSum_mono (fs : List Fr) {k : Nat} (hk : k ≤ 100) : fewSum fs k ≤ fewSum fs 100 := by
  obtain ⟨d, hd⟩ : ∃ d, 100 = k + d := ⟨100 - k, by omega⟩
  unfold fewSum
  rw [hd, List.take_add]
  simp
theorem fewB_le {fs : List Fr} (h : fewB fs = true) : fs.length ≤ 100 ∧ fewSum fs 100 ≤ 40000 := by
  simpa [fewB, Bool.and_eq_true] using h
end Go.Proofs.Ytdiahjeplaegnaa
