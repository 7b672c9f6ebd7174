/- A slice of fields that came in, opened. -/
import Derived.Test.YtnmadedmclcdnaaDoorFdFew
import Derived.Test.YtnmadedmclcdnaaDoorOpen
namespace Go.Proofs.YtnmadedmclcdnaaDoor
open Go.RowKit
open Go.ChangeShapes Go.WideShapes Go.ChangeAt Go.Deep
section
variable {H : Type} {enc : TypeId × Value → H} {w : World} {base : Nat} {spare : Nat → Bool} {held : Bool}
theorem TryD.cells_string : Tryd.prog.cellsOf 9 = 1 := by kernel_rfl
theorem TryD.cells_bool : Tryd.prog.cellsOf 4 = 1 := by kernel_rfl
theorem TryD.cells_field : Tryd.prog.cellsOf 24 = 3 := by kernel_rfl
theorem TryD.bytes_field : Tryd.prog.bytesOf 24 = 40 := by kernel_rfl

theorem trod_field {fuel : Nat} {cs : List Value} {y : DataW H × List MemPlace} (h : DataW.trod enc Tryd.prog w base spare held fuel 24 cs = some y) :
    ∃ x : Fd, cs = x.cells := by
  obtain ⟨ys, n, _, _, hlen, hyl, hf⟩ := DataW.trod_struct Tryd.underlying24 h
  rw [TryD.cells_field] at hlen
  match cs, hlen with
  | [c0, c1, c2], _ =>
    have hys : ∀ i, i < 3 → ∃ z, ys[i]? = some z := fun i hi => ⟨ys[i]'(by simp at hyl; omega), List.getElem?_eq_getElem _⟩
    obtain ⟨z0, hz0⟩ := hys 0 (by omega)
    obtain ⟨z1, hz1⟩ := hys 1 (by omega)
    obtain ⟨z2, hz2⟩ := hys 2 (by omega)
    have f0 := (hf 0 _ rfl).trans hz0
    have f1 := (hf 1 _ rfl).trans hz1
    have f2 := (hf 2 _ rfl).trans hz2
    have f0 : DataW.trod enc Tryd.prog w base spare held n 9 [c0] = some z0 := by simpa [TryD.cells_string] using f0
    have f1 : DataW.trod enc Tryd.prog w base spare held n 9 [c1] = some z1 := by simpa [TryD.cells_string] using f1
    have f2 : DataW.trod enc Tryd.prog w base spare held n 4 [c2] = some z2 := by simpa [TryD.cells_bool] using f2
    obtain ⟨a, e0, _, _⟩ := DataW.trod_string Tryd.underlying9 f0
    obtain ⟨b, e1, _, _⟩ := DataW.trod_string Tryd.underlying9 f1
    obtain ⟨c, e2, _⟩ := DataW.trod_bool Tryd.underlying4 f2
    simp at e0 e1 e2
    subst e0 e1 e2
    exact ⟨⟨a, b, c⟩, rfl⟩

theorem trod_fds {fuel : Nat} {cs : List Value} {y : DataW H × List MemPlace} (h : DataW.trod enc Tryd.prog w base spare held fuel 31 cs = some y) :
    ∃ A n c os, cs = [.slice A n c] ∧ Fs w A n os ∧ n ≤ c ∧ (y.1 = .nil ∧ n = 0 ∨ ∃ elems sp, y.1 = .slice elems sp ∧ elems.length = n) := by
  rcases open_slice Tryd.underlying31 h with ⟨hcs, hx⟩ | ⟨a, len, cap, m, n, D, Pl, hcs, _, hl, _, hmm, hx, hi⟩
  · exact ⟨none, 0, 0, [], hcs, Rd.nil w 3 none, Nat.le_refl _, .inl ⟨by rw [hx], rfl⟩⟩
  · have hlm : len ≤ m := by rw [hmm]; split <;> omega
    have hex : ∀ i, ∃ x : Fd, i < len → (∀ j u, (x.cells)[j]? = some u → w.cell? (a.add (i * 3 + j)) = some u) := by
      intro i
      by_cases hil : i < len
      · obtain ⟨cs', hc, ht⟩ := hi i (by omega)
        rw [TryD.cells_field] at hc
        obtain ⟨x, hxc⟩ := trod_field ht
        obtain ⟨_, hcl, hat⟩ := World.cells?_some hc
        refine ⟨x, fun _ j u hu => ?_⟩
        have hj : j < 3 := by
          have := (List.getElem?_eq_some_iff.1 hu).1
          simpa [Fd.cells] using this
        rw [← Go.Deep.add_add, hat j hj, hxc, hu]
      · exact ⟨⟨⟨#[]⟩, ⟨#[]⟩, false⟩, fun h => absurd h hil⟩
    obtain ⟨X, hX⟩ := Classical.axiomOfChoice hex
    refine ⟨some a, len, cap, (List.range len).map X, hcs, ⟨by rw [flat_len]; simp, fun hn => ?_⟩, hl, .inr ⟨_, _, by rw [hx], by simp⟩⟩
    obtain ⟨b, o, s⟩ := a
    have hs : s = none := by
      have h0 := hX 0 hn 0 _ rfl
      have := spot_none h0
      simpa [Addr.add] using this
    subst hs
    refine ⟨b, o, rfl, fun j u hu => ?_⟩
    have hjl : j < len * 3 := by
      have := (List.getElem?_eq_some_iff.1 hu).1
      rw [flat_len] at this
      simpa using this
    have hil : j / 3 < len := by omega
    have hxi : ((List.range len).map X)[j / 3]? = some (X (j / 3)) := by simp [List.getElem?_map, List.getElem?_range hil]
    obtain ⟨f0, f1, f2⟩ := flat_at hxi
    have hc := hX (j / 3) hil
    have key : ∀ r, j = j / 3 * 3 + r → (X (j / 3)).cells[r]? = (flat ((List.range len).map X))[j]? → w.cell? ⟨b, o + j, none⟩ = some u := by
      intro r hr he
      have := hc r u (he.trans hu)
      rw [add_plain, ← hr] at this
      exact this
    have h3 : j % 3 = 0 ∨ j % 3 = 1 ∨ j % 3 = 2 := by omega
    rcases h3 with h3 | h3 | h3
    · exact key 0 (by omega) (by rw [show j = j / 3 * 3 by omega] ; rw [show j / 3 * 3 / 3 = j / 3 by omega]; exact f0.symm)
    · exact key 1 (by omega) (by rw [show j = j / 3 * 3 + 1 by omega] ; rw [show (j / 3 * 3 + 1) / 3 = j / 3 by omega]; exact f1.symm)
    · exact key 2 (by omega) (by rw [show j = j / 3 * 3 + 2 by omega] ; rw [show (j / 3 * 3 + 2) / 3 = j / 3 by omega]; exact f2.symm)
end

theorem arg_fields {H : Type} {enc : TypeId × Value → H} {W : World} {b0 base : Nat} {spare : Nat → Bool} {held : Bool} {v : Value} {d : DataW H} {p : List MemPlace} (hv : Value.okWide Tryd.prog W .any b0 31 v) (h : DataW.Trod enc Tryd.prog W base spare held 31 v d p) :
    ∃ A n c os, v = .slice A n c ∧ Fs W A n os ∧ n ≤ c ∧ (d = .nil ∧ n = 0 ∨ ∃ elems sp, d = .slice elems sp ∧ elems.length = n) := by
  obtain ⟨a0, len0, cap0, rfl⟩ := okWide_slice Tryd.underlying31 hv
  obtain ⟨fuel, hf⟩ := h
  obtain ⟨A, n, c, fs, hcs, hb, hle, hd⟩ := trod_fds hf
  simp [Value.cells] at hcs
  obtain ⟨rfl, rfl, rfl⟩ := hcs
  exact ⟨_, _, _, fs, rfl, hb, hle, hd⟩

theorem fields_len {H : Type} {ds : List (DataW H)} {ts : List TypeId} {j : Nat} {d : DataW H} {n : Nat} (hsz : (DataW.weightsEach Tryd.prog ts ds).all (· ≤ reachBytes) = true)
    (ht : ts[j]? = some 31) (hd : ds[j]? = some d) (h : d = .nil ∧ n = 0 ∨ ∃ elems sp, d = .slice elems sp ∧ elems.length = n) : n ≤ 140737488355328 := by
  rcases h with ⟨_, rfl⟩ | ⟨elems, sp, rfl, rfl⟩
  · omega
  · have := sized_slice hsz ht hd Tryd.underlying31
    rw [TryD.bytes_field] at this
    simp only [reachBytes] at this
    omega
end Go.Proofs.YtnmadedmclcdnaaDoor
