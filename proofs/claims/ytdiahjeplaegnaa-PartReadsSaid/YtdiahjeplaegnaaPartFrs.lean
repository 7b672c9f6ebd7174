/- A frame, and a slice of frames, that came in, opened to the words of these texts. -/
import Derived.Test.YtdiahjeplaegnaaOpen
import Derived.Test.YtdiahjeplaegnaaPartFew
namespace Go.Proofs.Ytdiahjeplaegnaa
open Go.ChangeShapes Go.WideShapes Go.ChangeAt Go.RowKit Go.Deep

theorem TryF.cells_u8 : Try.prog.cellsOf 5 = 1 := by kernel_rfl
theorem TryF.cells_frame : Try.prog.cellsOf 34 = 4 := by kernel_rfl
theorem TryF.cells_bytes : Try.prog.cellsOf 25 = 1 := by kernel_rfl
theorem TryF.cells_int : Try.prog.cellsOf 3 = 1 := by kernel_rfl

section
variable {H : Type} {enc : TypeId × Value → H} {w : World} {base : Nat} {spare : Nat → Bool} {held : Bool}

theorem trod_frame {fuel : Nat} {cs : List Value} {y : DataW H × List MemPlace} (h : DataW.trod enc Try.prog w base spare held fuel 34 cs = some y) :
    ∃ x : Fr, cs = x.cells ∧ Bs w x.A x.n x.l ∧ x.n ≤ x.c := by
  obtain ⟨ys, n, _, _, hlen, hyl, hf⟩ := DataW.trod_struct Try.underlying34 h
  rw [TryF.cells_frame] at hlen
  match cs, hlen with
  | [c0, c1, c2, c3], _ =>
    have hys : ∀ i, i < 4 → ∃ z, ys[i]? = some z := fun i hi => ⟨ys[i]'(by simp at hyl; omega), List.getElem?_eq_getElem _⟩
    obtain ⟨z0, hz0⟩ := hys 0 (by omega)
    obtain ⟨z1, hz1⟩ := hys 1 (by omega)
    obtain ⟨z2, hz2⟩ := hys 2 (by omega)
    obtain ⟨z3, hz3⟩ := hys 3 (by omega)
    have f0 := (hf 0 _ rfl).trans hz0
    have f1 := (hf 1 _ rfl).trans hz1
    have f2 := (hf 2 _ rfl).trans hz2
    have f3 := (hf 3 _ rfl).trans hz3
    have f0 : DataW.trod enc Try.prog w base spare held n 3 [c0] = some z0 := by simpa [TryF.cells_int] using f0
    have f1 : DataW.trod enc Try.prog w base spare held n 3 [c1] = some z1 := by simpa [TryF.cells_int] using f1
    have f2 : DataW.trod enc Try.prog w base spare held n 3 [c2] = some z2 := by simpa [TryF.cells_int] using f2
    have f3 : DataW.trod enc Try.prog w base spare held n 25 [c3] = some z3 := by simpa [TryF.cells_bytes] using f3
    obtain ⟨k, e0, _, _⟩ := DataW.trod_int Try.underlying3 f0
    obtain ⟨f, e1, _, _⟩ := DataW.trod_int Try.underlying3 f1
    obtain ⟨s, e2, _, _⟩ := DataW.trod_int Try.underlying3 f2
    obtain ⟨A, m, c, l, e3, hb, hle, _⟩ := trod_bytes Try.underlying25 Try.underlying5 TryF.cells_u8 f3
    simp at e0 e1 e2 e3
    subst e0 e1 e2 e3
    exact ⟨⟨k, f, s, A, m, c, l⟩, rfl, hb, hle⟩

theorem trod_frames {fuel : Nat} {cs : List Value} {y : DataW H × List MemPlace} (h : DataW.trod enc Try.prog w base spare held fuel 22 cs = some y) :
    ∃ A n c fs, cs = [.slice A n c] ∧ Frs w A n fs ∧ n ≤ c ∧ (y.1 = .nil ∧ n = 0 ∨ ∃ elems sp, y.1 = .slice elems sp ∧ elems.length = n) := by
  rcases open_slice Try.underlying22 h with ⟨hcs, hx⟩ | ⟨a, len, cap, m, n, D, Pl, hcs, _, hl, _, hmm, hx, hi⟩
  · exact ⟨none, 0, 0, [], hcs, ⟨rfl, fun h => absurd h (by omega), fun x hx => by cases hx⟩, Nat.le_refl _, .inl ⟨by rw [hx], rfl⟩⟩
  · have hlm : len ≤ m := by rw [hmm]; split <;> omega
    have hex : ∀ i, ∃ x : Fr, i < len → (∀ j u, x.cells[j]? = some u → w.cell? (a.add (i * 4 + j)) = some u) ∧ Bs w x.A x.n x.l ∧ x.n ≤ x.c := by
      intro i
      by_cases hil : i < len
      · obtain ⟨cs', hc, ht⟩ := hi i (by omega)
        rw [TryF.cells_frame] at hc
        obtain ⟨x, hxc, hb, hle⟩ := trod_frame ht
        obtain ⟨_, hcl, hat⟩ := World.cells?_some hc
        refine ⟨x, fun _ => ⟨fun j u hu => ?_, hb, hle⟩⟩
        have hj : j < 4 := by
          have := (List.getElem?_eq_some_iff.1 hu).1
          simpa [Fr.cells] using this
        rw [← Go.Deep.add_add, hat j hj, hxc, hu]
      · exact ⟨⟨0, 0, 0, none, 0, 0, []⟩, fun h => absurd h hil⟩
    obtain ⟨X, hX⟩ := Classical.axiomOfChoice hex
    refine ⟨some a, len, cap, (List.range len).map X, hcs, ⟨by simp, fun hn => ?_, fun x hx => ?_⟩, hl, .inr ⟨_, _, by rw [hx], by simp⟩⟩
    · obtain ⟨b, o, s⟩ := a
      have hs : s = none := by
        have h0 := (hX 0 hn).1 0 _ rfl
        have := spot_none h0
        simpa [Addr.add] using this
      subst hs
      refine ⟨b, o, rfl, fun i x hx => ?_⟩
      have hil : i < len := by
        have := (List.getElem?_eq_some_iff.1 hx).1
        simpa using this
      have hxx : x = X i := by
        simp [List.getElem?_map, List.getElem?_range hil] at hx
        exact hx.symm
      subst hxx
      have hc := (hX i hil).1
      have h0 := hc 0 _ rfl
      have h1 := hc 1 _ rfl
      have h2 := hc 2 _ rfl
      have h3 := hc 3 _ rfl
      rw [add_plain] at h0 h1 h2 h3
      exact ⟨h0, h1, h2, h3⟩
    · obtain ⟨i, hi', rfl⟩ := List.mem_map.1 hx
      exact (hX i (by simpa using hi')).2
end
theorem TryF.bytes_frame : Try.prog.bytesOf 34 = 48 := by kernel_rfl

theorem frames_len {H : Type} {ds : List (DataW H)} {ts : List TypeId} {j : Nat} {d : DataW H} {n : Nat} (hsz : (DataW.weightsEach Try.prog ts ds).all (· ≤ reachBytes) = true)
    (ht : ts[j]? = some 22) (hd : ds[j]? = some d) (h : d = .nil ∧ n = 0 ∨ ∃ elems sp, d = .slice elems sp ∧ elems.length = n) : n ≤ 140737488355328 := by
  rcases h with ⟨_, rfl⟩ | ⟨elems, sp, rfl, rfl⟩
  · omega
  · have := sized_slice hsz ht hd Try.underlying22
    rw [TryF.bytes_frame] at this
    simp only [reachBytes] at this
    omega

theorem arg_frames {H : Type} {enc : TypeId × Value → H} {W : World} {b0 base : Nat} {spare : Nat → Bool} {held : Bool} {v : Value} {d : DataW H} {p : List MemPlace}
    (hv : Value.okWide Try.prog W .any b0 22 v) (h : DataW.Trod enc Try.prog W base spare held 22 v d p) :
    ∃ A n c fs, v = .slice A n c ∧ Frs W A n fs ∧ n ≤ c ∧ (d = .nil ∧ n = 0 ∨ ∃ elems sp, d = .slice elems sp ∧ elems.length = n) := by
  obtain ⟨a0, len, cap, rfl⟩ := okWide_slice Try.underlying22 hv
  obtain ⟨fuel, hf⟩ := h
  obtain ⟨A, n, c, fs, hcs, hfr, hle, hd⟩ := trod_frames hf
  simp [Value.cells] at hcs
  obtain ⟨rfl, rfl, rfl⟩ := hcs
  exact ⟨_, _, _, fs, rfl, hfr, hle, hd⟩
end Go.Proofs.Ytdiahjeplaegnaa
