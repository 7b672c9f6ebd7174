/- A slice of settings that came in, opened to the words of these texts. -/
import Derived.Test.YtdiahjeplaegnaaOpen
import Derived.Test.YtdiahjeplaegnaaPartEnd
namespace Go.Proofs.Ytdiahjeplaegnaa
open Go.ChangeShapes Go.WideShapes Go.ChangeAt Go.RowKit Go.Deep

theorem PoA.cells_set : Try.prog.cellsOf 40 = 2 := by kernel_rfl
theorem PoA.cells_int : Try.prog.cellsOf 3 = 1 := by kernel_rfl
theorem PoA.bytes_set : Try.prog.bytesOf 40 = 16 := by kernel_rfl
theorem setCells_get {l : List (Int × Int)} {j : Nat} {u : Value} (h : (setCells l)[j]? = some u) : ∃ x, l[j / 2]? = some x ∧ u = if j % 2 = 0 then .int .i64 x.1 else .int .i64 x.2 := by
  induction l generalizing j with
  | nil => simp [setCells] at h
  | cons x l ih =>
    have e : setCells (x :: l) = [.int .i64 x.1, .int .i64 x.2] ++ setCells l := rfl
    rw [e] at h
    match j, h with
    | 0, h => exact ⟨x, rfl, by simp at h; simp [h]⟩
    | 1, h => exact ⟨x, rfl, by simp at h; simp [h]⟩
    | j + 2, h =>
      rw [List.getElem?_append_right (by simp)] at h
      obtain ⟨y, hy, hu⟩ := ih (j := j) (by simpa using h)
      refine ⟨y, ?_, ?_⟩
      · rw [show (j + 2) / 2 = j / 2 + 1 by omega]
        simpa using hy
      · rw [hu, show (j + 2) % 2 = j % 2 by omega]

section
variable {H : Type} {enc : TypeId × Value → H} {w : World} {base : Nat} {spare : Nat → Bool} {held : Bool}
theorem trod_set {fuel : Nat} {cs : List Value} {y : DataW H × List MemPlace} (h : DataW.trod enc Try.prog w base spare held fuel 40 cs = some y) :
    ∃ x : Int × Int, cs = [.int .i64 x.1, .int .i64 x.2] := by
  obtain ⟨ys, n, _, _, hlen, hyl, hf⟩ := DataW.trod_struct Try.underlying40 h
  rw [PoA.cells_set] at hlen
  match cs, hlen with
  | [c0, c1], _ =>
    have hys : ∀ i, i < 2 → ∃ z, ys[i]? = some z := fun i hi => ⟨ys[i]'(by simp at hyl; omega), List.getElem?_eq_getElem _⟩
    obtain ⟨z0, hz0⟩ := hys 0 (by omega)
    obtain ⟨z1, hz1⟩ := hys 1 (by omega)
    have f0 := (hf 0 _ rfl).trans hz0
    have f1 := (hf 1 _ rfl).trans hz1
    have f0 : DataW.trod enc Try.prog w base spare held n 3 [c0] = some z0 := by simpa [PoA.cells_int] using f0
    have f1 : DataW.trod enc Try.prog w base spare held n 3 [c1] = some z1 := by simpa [PoA.cells_int] using f1
    obtain ⟨k, e0, _, _⟩ := DataW.trod_int Try.underlying3 f0
    obtain ⟨f, e1, _, _⟩ := DataW.trod_int Try.underlying3 f1
    simp at e0 e1
    subst e0 e1
    exact ⟨(k, f), rfl⟩
theorem trod_sets {fuel : Nat} {cs : List Value} {y : DataW H × List MemPlace} (h : DataW.trod enc Try.prog w base spare held fuel 26 cs = some y) :
    ∃ A n c l, cs = [.slice A n c] ∧ Sts w A n l ∧ n ≤ c ∧ (y.1 = .nil ∧ n = 0 ∨ ∃ elems sp, y.1 = .slice elems sp ∧ elems.length = n) := by
  rcases open_slice Try.underlying26 h with ⟨hcs, hx⟩ | ⟨a, len, cap, m, n, D, Pl, hcs, _, hl, _, hmm, hx, hi⟩
  · exact ⟨none, 0, 0, [], hcs, Sts.nil _ _, Nat.le_refl _, .inl ⟨by rw [hx], rfl⟩⟩
  · have hlm : len ≤ m := by rw [hmm]; split <;> omega
    have hex : ∀ i, ∃ x : Int × Int, i < len → (∀ j u, ([.int .i64 x.1, .int .i64 x.2] : List Value)[j]? = some u → w.cell? (a.add (i * 2 + j)) = some u) := by
      intro i
      by_cases hil : i < len
      · obtain ⟨cs', hc, ht⟩ := hi i (by omega)
        rw [PoA.cells_set] at hc
        obtain ⟨x, hxc⟩ := trod_set ht
        obtain ⟨_, hcl, hat⟩ := World.cells?_some hc
        refine ⟨x, fun _ j u hu => ?_⟩
        have hj : j < 2 := by
          have := (List.getElem?_eq_some_iff.1 hu).1
          simpa using this
        rw [← Go.Deep.add_add, hat j hj, hxc, hu]
      · exact ⟨(0, 0), fun h => absurd h hil⟩
    obtain ⟨X, hX⟩ := Classical.axiomOfChoice hex
    refine ⟨some a, len, cap, (List.range len).map X, hcs, ⟨by rw [setCells_len]; simp, fun hn => ?_⟩, hl, .inr ⟨_, _, by rw [hx], by simp⟩⟩
    obtain ⟨b, o, s⟩ := a
    have hs : s = none := by
      have h0 := (hX 0 hn) 0 _ rfl
      have := spot_none h0
      simpa [Addr.add] using this
    subst hs
    refine ⟨b, o, rfl, fun j u hu => ?_⟩
    obtain ⟨x, hx, rfl⟩ := setCells_get hu
    have hil : j / 2 < len := by
      have := (List.getElem?_eq_some_iff.1 hx).1
      simpa using this
    have hxx : x = X (j / 2) := by
      simp [List.getElem?_map, List.getElem?_range hil] at hx
      exact hx.symm
    subst hxx
    have hc := hX (j / 2) hil (j % 2)
    rw [add_plain, show j / 2 * 2 + j % 2 = j by omega] at hc
    apply hc
    rcases Nat.mod_two_eq_zero_or_one j with h0 | h0
    · rw [h0]; rfl
    · rw [h0]; rfl
end
theorem arg_sets {H : Type} {enc : TypeId × Value → H} {W : World} {b0 base : Nat} {spare : Nat → Bool} {held : Bool} {v : Value} {d : DataW H} {p : List MemPlace}
    (hv : Value.okWide Try.prog W .any b0 26 v) (h : DataW.Trod enc Try.prog W base spare held 26 v d p) :
    ∃ A n c l, v = .slice A n c ∧ Sts W A n l ∧ n ≤ c ∧ (d = .nil ∧ n = 0 ∨ ∃ elems sp, d = .slice elems sp ∧ elems.length = n) := by
  obtain ⟨a0, len, cap, rfl⟩ := okWide_slice Try.underlying26 hv
  obtain ⟨fuel, hf⟩ := h
  obtain ⟨A, n, c, l, hcs, hfr, hle, hd⟩ := trod_sets hf
  simp [Value.cells] at hcs
  obtain ⟨rfl, rfl, rfl⟩ := hcs
  exact ⟨_, _, _, l, rfl, hfr, hle, hd⟩
theorem sets_len {H : Type} {ds : List (DataW H)} {ts : List TypeId} {j : Nat} {d : DataW H} {n : Nat} (hsz : (DataW.weightsEach Try.prog ts ds).all (· ≤ reachBytes) = true)
    (ht : ts[j]? = some 26) (hd : ds[j]? = some d) (h : d = .nil ∧ n = 0 ∨ ∃ elems sp, d = .slice elems sp ∧ elems.length = n) : n ≤ 140737488355328 := by
  rcases h with ⟨_, rfl⟩ | ⟨elems, sp, rfl, rfl⟩
  · omega
  · have := sized_slice hsz ht hd Try.underlying26
    rw [PoA.bytes_set] at this
    simp only [reachBytes] at this
    omega
end Go.Proofs.Ytdiahjeplaegnaa
