/- The law package's calls of a pipe: a slice of them, Few, and how they come in. Few asks that there are at most 2^47. -/
import Derived.Test.YtdplkknlpfdljaaPipeTwo
import Derived.Test.YtdplkknlpfdljaaArgs
namespace Go.Proofs.Ytdplkknlpfdljaa
open Go.RowKit

/-- A call: what kind, a number, bytes, and where they lie. -/
structure Pc where
  k : Int
  f : Int
  A : Option Addr
  n : Nat
  c : Nat
  l : List UInt8
def Pc.cells (x : Pc) : List Value := [.int .i64 x.k, .int .i64 x.f, .slice x.A x.n x.c]

/-- A slice of calls that reads as fs. -/
structure Pcs (w : World) (A : Option Addr) (n : Nat) (fs : List Pc) : Prop where
  len : fs.length = n
  at_ : 0 < n → ∃ b o, A = some ⟨b, o, none⟩ ∧ ∀ i x, fs[i]? = some x → w.cell? ⟨b, o + i * 3, none⟩ = some (.int .i64 x.k) ∧ w.cell? ⟨b, o + i * 3 + 1, none⟩ = some (.int .i64 x.f) ∧ w.cell? ⟨b, o + i * 3 + 2, none⟩ = some (.slice x.A x.n x.c)
  body : ∀ x ∈ fs, Bs w x.A x.n x.l ∧ x.n ≤ x.c

def fewSum (fs : List Pc) (k : Nat) : Nat := ((fs.take k).map fun x => min x.n 20001).sum
def fewB (fs : List Pc) : Bool := decide (fs.length ≤ 300) && decide (fewSum fs 300 ≤ 20000)
theorem fewSum_succ {fs : List Pc} {k : Nat} {x : Pc} (h : fs[k]? = some x) : fewSum fs (k + 1) = fewSum fs k + min x.n 20001 := by
  unfold fewSum
  rw [List.take_add_one, h]
  simp
theorem fewSum_le (fs : List Pc) (k : Nat) : fewSum fs k ≤ k * 20001 := by
  induction k with
  | zero => simp [fewSum]
  | succ k ih =>
    rcases h : fs[k]? with _ | x
    · have : fewSum fs (k + 1) = fewSum fs k := by unfold fewSum; rw [List.take_add_one, h]; simp
      omega
    · rw [fewSum_succ h]; omega
theorem fewSum_all {fs : List Pc} {k : Nat} (h : fs.length ≤ k) : fewSum fs k = fewSum fs fs.length := by
  unfold fewSum
  rw [List.take_of_length_le h, List.take_of_length_le (Nat.le_refl _)]

theorem fewB_mid {fs : List Pc} {n k : Nat} (hn : fs.length = n) (hk1 : k ≤ 300) (h : ¬ (k < n ∧ k < 300)) :
    fewB fs = (decide ((n : Int) ≤ 300) && decide ((fewSum fs k : Int) ≤ 20000)) := by
  unfold fewB
  rw [hn]
  by_cases h1 : 300 < n
  · rw [show decide (n ≤ 300) = false by simp; omega, show decide ((n : Int) ≤ 300) = false by simp; omega]
    rfl
  · rw [show fewSum fs 300 = fewSum fs k by rw [fewSum_all (k := 300) (by omega), fewSum_all (k := k) (by omega)]]
    congr 1
    · exact decide_eq_decide.2 (by omega)
    · exact decide_eq_decide.2 (by omega)

set_option maxHeartbeats 400000 in
set_option maxRecDepth 100000 in
theorem few_any (A : Option Addr) (n c : Nat) (fs : List Pc) (w : World) (h : Pcs w A n fs) (hn : n ≤ 140737488355328) :
    Calls Try.prog 16 #[.slice A n c] w fun e w' => e = .returned (.bool (fewB fs)) ∧ w = w' := by
  go_enter Try.func16, Try.ntmps16
  go_wp2_with fail
  go_loop [3, 4] (fun o i => ∃ k : Nat, k ≤ n ∧ k ≤ 300 ∧ i = .int .i64 k ∧ o = .int .i64 (fewSum fs k)) (fun _ i => n - (intOf i).toNat)
  case atStart => exact ⟨0, Nat.zero_le _, by omega, rfl, rfl⟩
  case round =>
    obtain ⟨k, hk, hk1, rfl, rfl⟩ := hrel
    have hq := fewSum_le fs k
    by_cases hlt : k < n ∧ k < 300
    · obtain ⟨hl1, hl2⟩ := hlt
      obtain ⟨b, o, rfl, hc⟩ := h.at_ (by omega)
      obtain ⟨x, hx⟩ : ∃ x, fs[k]? = some x := ⟨fs[k]'(by have := h.len; omega), List.getElem?_eq_getElem _⟩
      obtain ⟨h0, h1, h3⟩ := hc k x hx
      have HS := hid (fewSum_succ hx)
      clear hc hx h
      go_wp2_with fail
      all_goals
        go_round
        case rel => exact ⟨k + 1, by omega, by omega, by go_num, by rw [HS.out]; go_num⟩
        case measure => simp [intOf]; omega
    · have hlen := h.len
      have HB := hid (fewB_mid hlen hk1 hlt)
      clear h hlen
      by_cases hk2 : k < n
      · have hk3 : k = 300 := by omega
        have HB2 : Hid (fewB fs = false) := by
          show _ = _
          rw [HB.out, show decide ((n : Int) ≤ 300) = false by simp; omega]
          rfl
        subst hk3
        go_wp2_with fail
        all_goals
          go_ret
          exact ⟨by rw [HB2.out]; rfl, rfl⟩
      · have HB2 : Hid (fewB fs = decide ((fewSum fs k : Int) ≤ 20000)) := by
          show _ = _
          rw [HB.out, show decide ((n : Int) ≤ 300) = true by simp; omega]
          rfl
        go_wp2_with fail
        all_goals
          go_ret
          exact ⟨by rw [HB2.out]; rfl, rfl⟩

theorem fewSum_mono (fs : List Pc) {k : Nat} (hk : k ≤ 300) : fewSum fs k ≤ fewSum fs 300 := by
  obtain ⟨d, hd⟩ : ∃ d, 300 = k + d := ⟨300 - k, by omega⟩
  unfold fewSum
  rw [hd]
  rw [List.take_add]
  simp
theorem fewB_le {fs : List Pc} (h : fewB fs = true) : fs.length ≤ 300 ∧ fewSum fs 300 ≤ 20000 := by
  simpa [fewB, Bool.and_eq_true] using h

open Go.ChangeShapes Go.WideShapes Go.ChangeAt Go.Deep
section
variable {H : Type} {enc : TypeId × Value → H} {w : World} {base : Nat} {spare : Nat → Bool} {held : Bool}
theorem TryA.cells_pc : Try.prog.cellsOf 37 = 3 := by kernel_rfl
theorem TryA.bytes_pc : Try.prog.bytesOf 37 = 40 := by kernel_rfl
theorem TryA.cells_bytes : Try.prog.cellsOf 22 = 1 := by kernel_rfl

theorem trod_pc {fuel : Nat} {cs : List Value} {y : DataW H × List MemPlace} (h : DataW.trod enc Try.prog w base spare held fuel 37 cs = some y) :
    ∃ x : Pc, cs = x.cells ∧ Bs w x.A x.n x.l ∧ x.n ≤ x.c := by
  obtain ⟨ys, n, _, _, hlen, hyl, hf⟩ := DataW.trod_struct Try.underlying37 h
  rw [TryA.cells_pc] at hlen
  match cs, hlen with
  | [c0, c1, c3], _ =>
    have hys : ∀ i, i < 3 → ∃ z, ys[i]? = some z := fun i hi => ⟨ys[i]'(by simp at hyl; omega), List.getElem?_eq_getElem _⟩
    obtain ⟨z0, hz0⟩ := hys 0 (by omega)
    obtain ⟨z1, hz1⟩ := hys 1 (by omega)
    obtain ⟨z3, hz3⟩ := hys 2 (by omega)
    have f0 := (hf 0 _ rfl).trans hz0
    have f1 := (hf 1 _ rfl).trans hz1
    have f3 := (hf 2 _ rfl).trans hz3
    have f0 : DataW.trod enc Try.prog w base spare held n 3 [c0] = some z0 := by simpa [TryA.cells_int] using f0
    have f1 : DataW.trod enc Try.prog w base spare held n 3 [c1] = some z1 := by simpa [TryA.cells_int] using f1
    have f3 : DataW.trod enc Try.prog w base spare held n 22 [c3] = some z3 := by simpa [TryA.cells_bytes] using f3
    obtain ⟨k, e0, _, _⟩ := DataW.trod_int Try.underlying3 f0
    obtain ⟨f, e1, _, _⟩ := DataW.trod_int Try.underlying3 f1
    obtain ⟨A, m, c, l, e3, hb, hle, _⟩ := trod_bytes Try.underlying22 Try.underlying5 TryA.cells_u8 f3
    simp at e0 e1 e3
    subst e0 e1 e3
    exact ⟨⟨k, f, A, m, c, l⟩, rfl, hb, hle⟩

theorem trod_pcs {fuel : Nat} {cs : List Value} {y : DataW H × List MemPlace} (h : DataW.trod enc Try.prog w base spare held fuel 32 cs = some y) :
    ∃ A n c fs, cs = [.slice A n c] ∧ Pcs w A n fs ∧ n ≤ c ∧ (y.1 = .nil ∧ n = 0 ∨ ∃ elems sp, y.1 = .slice elems sp ∧ elems.length = n) := by
  rcases open_slice Try.underlying32 h with ⟨hcs, hx⟩ | ⟨a, len, cap, m, n, D, Pl, hcs, _, hl, _, hmm, hx, hi⟩
  · exact ⟨none, 0, 0, [], hcs, ⟨rfl, fun h => absurd h (by omega), fun x hx => by cases hx⟩, Nat.le_refl _, .inl ⟨by rw [hx], rfl⟩⟩
  · have hlm : len ≤ m := by rw [hmm]; split <;> omega
    have hex : ∀ i, ∃ x : Pc, i < len → (∀ j u, x.cells[j]? = some u → w.cell? (a.add (i * 3 + j)) = some u) ∧ Bs w x.A x.n x.l ∧ x.n ≤ x.c := by
      intro i
      by_cases hil : i < len
      · obtain ⟨cs', hc, ht⟩ := hi i (by omega)
        rw [TryA.cells_pc] at hc
        obtain ⟨x, hxc, hb, hle⟩ := trod_pc ht
        obtain ⟨_, hcl, hat⟩ := World.cells?_some hc
        refine ⟨x, fun _ => ⟨fun j u hu => ?_, hb, hle⟩⟩
        have hj : j < 3 := by
          have := (List.getElem?_eq_some_iff.1 hu).1
          simpa [Pc.cells] using this
        rw [← Go.Deep.add_add, hat j hj, hxc, hu]
      · exact ⟨⟨0, 0, none, 0, 0, []⟩, fun h => absurd h hil⟩
    obtain ⟨X, hX⟩ := Classical.axiomOfChoice hex
    refine ⟨some a, len, cap, (List.range len).map X, hcs, ⟨by simp, fun hn => ?_, fun x hx => ?_⟩, hl, .inr ⟨_, _, by rw [hx], by simp⟩⟩
    · obtain ⟨b, o, s⟩ := a
      have hs : s = none := by
        have h0 := (hX 0 hn).1 0 _ rfl
        have := spot_none h0
        simpa [Addr.add] using this
      subst hs
      refine ⟨b, o, rfl, fun i x hx => ?_⟩
      have hil : i < len := by
        have := (List.getElem?_eq_some_iff.1 hx).1
        simpa using this
      have hxx : x = X i := by
        simp [List.getElem?_map, List.getElem?_range hil] at hx
        exact hx.symm
      subst hxx
      have hc := (hX i hil).1
      have h0 := hc 0 _ rfl
      have h1 := hc 1 _ rfl
      have h3 := hc 2 _ rfl
      rw [add_plain] at h0 h1 h3
      exact ⟨h0, h1, h3⟩
    · obtain ⟨i, hi', rfl⟩ := List.mem_map.1 hx
      exact (hX i (by simpa using hi')).2
end

theorem arg_pcs {H : Type} {enc : TypeId × Value → H} {W : World} {b0 base : Nat} {spare : Nat → Bool} {held : Bool} {v : Value} {d : DataW H} {p : List MemPlace} (hv : Value.okWide Try.prog W .any b0 32 v) (h : DataW.Trod enc Try.prog W base spare held 32 v d p) :
    ∃ A n c fs, v = .slice A n c ∧ Pcs W A n fs ∧ n ≤ c ∧ (d = .nil ∧ n = 0 ∨ ∃ elems sp, d = .slice elems sp ∧ elems.length = n) := by
  obtain ⟨a0, len0, cap0, rfl⟩ := okWide_slice Try.underlying32 hv
  obtain ⟨fuel, hf⟩ := h
  obtain ⟨A, n, c, fs, hcs, hb, hle, hd⟩ := trod_pcs hf
  simp [Value.cells] at hcs
  obtain ⟨rfl, rfl, rfl⟩ := hcs
  exact ⟨_, _, _, fs, rfl, hb, hle, hd⟩

theorem pcs_len {H : Type} {ds : List (DataW H)} {ts : List TypeId} {j : Nat} {d : DataW H} {n : Nat} (hsz : (DataW.weightsEach Try.prog ts ds).all (· ≤ reachBytes) = true)
    (ht : ts[j]? = some 32) (hd : ds[j]? = some d) (h : d = .nil ∧ n = 0 ∨ ∃ elems sp, d = .slice elems sp ∧ elems.length = n) : n ≤ 140737488355328 := by
  rcases h with ⟨_, rfl⟩ | ⟨elems, sp, rfl, rfl⟩
  · omega
  · have := sized_slice hsz ht hd Try.underlying32
    rw [TryA.bytes_pc] at this
    simp only [reachBytes] at this
    omega
end Go.Proofs.Ytdplkknlpfdljaa
