/- A slice of the table's calls that came in, opened. -/
import Derived.Test.YtlnhnnejmofpcaaDynFew
import Derived.Test.YtlnhnnejmofpcaaArgs
namespace Go.Proofs.Ytlnhnnejmofpcaa
open Go.RowKit
open Go.ChangeShapes Go.WideShapes Go.ChangeAt Go.Deep
section
variable {H : Type} {enc : TypeId × Value → H} {w : World} {base : Nat} {spare : Nat → Bool} {held : Bool}
theorem TryD.cells_int : Try.prog.cellsOf 3 = 1 := by kernel_rfl
theorem TryD.cells_string : Try.prog.cellsOf 9 = 1 := by kernel_rfl
theorem TryD.cells_bool : Try.prog.cellsOf 4 = 1 := by kernel_rfl
theorem TryD.cells_field : Try.prog.cellsOf 30 = 3 := by kernel_rfl
theorem TryD.cells_op : Try.prog.cellsOf 40 = 5 := by kernel_rfl
theorem TryD.bytes_op : Try.prog.bytesOf 40 = 56 := by kernel_rfl

theorem trod_field {fuel : Nat} {cs : List Value} {y : DataW H × List MemPlace} (h : DataW.trod enc Try.prog w base spare held fuel 30 cs = some y) :
    ∃ x : Fd, cs = x.cells := by
  obtain ⟨ys, n, _, _, hlen, hyl, hf⟩ := DataW.trod_struct Try.underlying30 h
  rw [TryD.cells_field] at hlen
  match cs, hlen with
  | [c0, c1, c2], _ =>
    have hys : ∀ i, i < 3 → ∃ z, ys[i]? = some z := fun i hi => ⟨ys[i]'(by simp at hyl; omega), List.getElem?_eq_getElem _⟩
    obtain ⟨z0, hz0⟩ := hys 0 (by omega)
    obtain ⟨z1, hz1⟩ := hys 1 (by omega)
    obtain ⟨z2, hz2⟩ := hys 2 (by omega)
    have f0 := (hf 0 _ rfl).trans hz0
    have f1 := (hf 1 _ rfl).trans hz1
    have f2 := (hf 2 _ rfl).trans hz2
    have f0 : DataW.trod enc Try.prog w base spare held n 9 [c0] = some z0 := by simpa [TryD.cells_string] using f0
    have f1 : DataW.trod enc Try.prog w base spare held n 9 [c1] = some z1 := by simpa [TryD.cells_string] using f1
    have f2 : DataW.trod enc Try.prog w base spare held n 4 [c2] = some z2 := by simpa [TryD.cells_bool] using f2
    obtain ⟨a, e0, _, _⟩ := DataW.trod_string Try.underlying9 f0
    obtain ⟨b, e1, _, _⟩ := DataW.trod_string Try.underlying9 f1
    obtain ⟨c, e2, _⟩ := DataW.trod_bool Try.underlying4 f2
    simp at e0 e1 e2
    subst e0 e1 e2
    exact ⟨⟨a, b, c⟩, rfl⟩

theorem trod_op7 {fuel : Nat} {cs : List Value} {y : DataW H × List MemPlace} (h : DataW.trod enc Try.prog w base spare held fuel 40 cs = some y) :
    ∃ x : Op7, cs = [.int .i64 x.k, .int .i64 x.n] ++ x.f.cells ∧ -9223372036854775808 ≤ x.n ∧ x.n ≤ 9223372036854775807 := by
  obtain ⟨ys, n, _, _, hlen, hyl, hf⟩ := DataW.trod_struct Try.underlying40 h
  rw [TryD.cells_op] at hlen
  match cs, hlen with
  | [c0, c1, c2, c3, c4], _ =>
    have hys : ∀ i, i < 3 → ∃ z, ys[i]? = some z := fun i hi => ⟨ys[i]'(by simp at hyl; omega), List.getElem?_eq_getElem _⟩
    obtain ⟨z0, hz0⟩ := hys 0 (by omega)
    obtain ⟨z1, hz1⟩ := hys 1 (by omega)
    obtain ⟨z2, hz2⟩ := hys 2 (by omega)
    have f0 := (hf 0 _ rfl).trans hz0
    have f1 := (hf 1 _ rfl).trans hz1
    have f2 := (hf 2 _ rfl).trans hz2
    have f0 : DataW.trod enc Try.prog w base spare held n 3 [c0] = some z0 := by simpa [TryD.cells_int] using f0
    have f1 : DataW.trod enc Try.prog w base spare held n 3 [c1] = some z1 := by simpa [TryD.cells_int] using f1
    have f2 : DataW.trod enc Try.prog w base spare held n 30 [c2, c3, c4] = some z2 := by simpa [TryD.cells_field] using f2
    obtain ⟨k, e0, _, _⟩ := DataW.trod_int Try.underlying3 f0
    obtain ⟨m, e1, _, hwf⟩ := DataW.trod_int Try.underlying3 f1
    obtain ⟨x, e2⟩ := trod_field f2
    have hb := bounds_i64 hwf
    simp at e0 e1
    subst e0 e1
    exact ⟨⟨k, m, x⟩, by rw [← e2]; rfl, hb.1, hb.2⟩

theorem trod_ops7 {fuel : Nat} {cs : List Value} {y : DataW H × List MemPlace} (h : DataW.trod enc Try.prog w base spare held fuel 36 cs = some y) :
    ∃ A n c os, cs = [.slice A n c] ∧ Os7 w A n os ∧ n ≤ c ∧ (y.1 = .nil ∧ n = 0 ∨ ∃ elems sp, y.1 = .slice elems sp ∧ elems.length = n) ∧ ∀ x ∈ os, -9223372036854775808 ≤ x.n ∧ x.n ≤ 9223372036854775807 := by
  rcases open_slice Try.underlying36 h with ⟨hcs, hx⟩ | ⟨a, len, cap, m, n, D, Pl, hcs, _, hl, _, hmm, hx, hi⟩
  · exact ⟨none, 0, 0, [], hcs, ⟨rfl, fun h => absurd h (by omega)⟩, Nat.le_refl _, .inl ⟨by rw [hx], rfl⟩, fun x hx => by cases hx⟩
  · have hlm : len ≤ m := by rw [hmm]; split <;> omega
    have hex : ∀ i, ∃ x : Op7, i < len → (∀ j u, ([.int .i64 x.k, .int .i64 x.n] ++ x.f.cells)[j]? = some u → w.cell? (a.add (i * 5 + j)) = some u) ∧ -9223372036854775808 ≤ x.n ∧ x.n ≤ 9223372036854775807 := by
      intro i
      by_cases hil : i < len
      · obtain ⟨cs', hc, ht⟩ := hi i (by omega)
        rw [TryD.cells_op] at hc
        obtain ⟨x, hxc, hb⟩ := trod_op7 ht
        obtain ⟨_, hcl, hat⟩ := World.cells?_some hc
        refine ⟨x, fun _ => ⟨fun j u hu => ?_, hb⟩⟩
        have hj : j < 5 := by
          have := (List.getElem?_eq_some_iff.1 hu).1
          simpa [Fd.cells] using this
        rw [← Go.Deep.add_add, hat j hj, hxc, hu]
      · exact ⟨⟨0, 0, ⟨⟨#[]⟩, ⟨#[]⟩, false⟩⟩, fun h => absurd h hil⟩
    obtain ⟨X, hX⟩ := Classical.axiomOfChoice hex
    refine ⟨some a, len, cap, (List.range len).map X, hcs, ⟨by simp, fun hn => ?_⟩, hl, .inr ⟨_, _, by rw [hx], by simp⟩, fun x hx => ?_⟩
    · obtain ⟨b, o, s⟩ := a
      have hs : s = none := by
        have h0 := (hX 0 hn).1 0 _ rfl
        have := spot_none h0
        simpa [Addr.add] using this
      subst hs
      refine ⟨b, o, rfl, fun i x hx => ?_⟩
      have hil : i < len := by
        have := (List.getElem?_eq_some_iff.1 hx).1
        simpa using this
      have hxx : x = X i := by
        simp [List.getElem?_map, List.getElem?_range hil] at hx
        exact hx.symm
      subst hxx
      have hc := (hX i hil).1
      have h0 := hc 0 _ rfl
      have h1 := hc 1 _ rfl
      have h2 := hc 2 _ rfl
      have h3 := hc 3 _ rfl
      have h4 := hc 4 _ rfl
      rw [add_plain] at h0 h1 h2 h3 h4
      exact ⟨h0, h1, h2, h3, h4⟩
    · obtain ⟨i, hi', rfl⟩ := List.mem_map.1 hx
      exact (hX i (by simpa using hi')).2
end

theorem arg_ops7 {H : Type} {enc : TypeId × Value → H} {W : World} {b0 base : Nat} {spare : Nat → Bool} {held : Bool} {v : Value} {d : DataW H} {p : List MemPlace} (hv : Value.okWide Try.prog W .any b0 36 v) (h : DataW.Trod enc Try.prog W base spare held 36 v d p) :
    ∃ A n c os, v = .slice A n c ∧ Os7 W A n os ∧ n ≤ c ∧ (d = .nil ∧ n = 0 ∨ ∃ elems sp, d = .slice elems sp ∧ elems.length = n) ∧ ∀ x ∈ os, -9223372036854775808 ≤ x.n ∧ x.n ≤ 9223372036854775807 := by
  obtain ⟨a0, len0, cap0, rfl⟩ := okWide_slice Try.underlying36 hv
  obtain ⟨fuel, hf⟩ := h
  obtain ⟨A, n, c, fs, hcs, hb, hle, hd, hr⟩ := trod_ops7 hf
  simp [Value.cells] at hcs
  obtain ⟨rfl, rfl, rfl⟩ := hcs
  exact ⟨_, _, _, fs, rfl, hb, hle, hd, hr⟩

theorem ops7_len {H : Type} {ds : List (DataW H)} {ts : List TypeId} {j : Nat} {d : DataW H} {n : Nat} (hsz : (DataW.weightsEach Try.prog ts ds).all (· ≤ reachBytes) = true)
    (ht : ts[j]? = some 36) (hd : ds[j]? = some d) (h : d = .nil ∧ n = 0 ∨ ∃ elems sp, d = .slice elems sp ∧ elems.length = n) : n ≤ 140737488355328 := by
  rcases h with ⟨_, rfl⟩ | ⟨elems, sp, rfl, rfl⟩
  · omega
  · have := sized_slice hsz ht hd Try.underlying36
    rw [TryD.bytes_op] at this
    simp only [reachBytes] at this
    omega
end Go.Proofs.Ytlnhnnejmofpcaa
