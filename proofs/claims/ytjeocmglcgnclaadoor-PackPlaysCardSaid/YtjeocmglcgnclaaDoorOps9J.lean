/- A slice of wlvlaw9.Op that came in: limits and fields, opened. No condition. -/
import Derived.Test.YtjeocmglcgnclaaDoorGl
import Derived.Test.YtjeocmglcgnclaaDoorGa
namespace Go.Proofs.YtjeocmglcgnclaaDoor
open Go.RowKit
open Go.ChangeShapes Go.WideShapes Go.ChangeAt Go.Deep

/-- One of the operations, with where its slices lie. -/
structure Op9 where
  lA : Option Addr
  ln : Nat
  lc : Nat
  ls : List Int
  fA : Option Addr
  fn : Nat
  fc : Nat
  fs : List Fd
structure Os9 (w : World) (A : Option Addr) (n : Nat) (os : List Op9) : Prop where
  len : os.length = n
  at_ : 0 < n → ∃ b o, A = some ⟨b, o, none⟩ ∧ ∀ i x, os[i]? = some x → w.cell? ⟨b, o + i * 2, none⟩ = some (.slice x.lA x.ln x.lc) ∧ w.cell? ⟨b, o + i * 2 + 1, none⟩ = some (.slice x.fA x.fn x.fc)
  body : ∀ x ∈ os, Is w x.lA x.ln x.ls ∧ Fs w x.fA x.fn x.fs
theorem Os9.below {w w' : World} {A : Option Addr} {n : Nat} {os : List Op9} (h : Os9 w A n os) (hb : Below w.heap.size w w') : Os9 w' A n os :=
  ⟨h.len, fun hn => by
    obtain ⟨b, o, e, hc⟩ := h.at_ hn
    exact ⟨b, o, e, fun i x hx => ⟨below_keep hb _ _ (hc i x hx).1, below_keep hb _ _ (hc i x hx).2⟩⟩, fun x hx => ⟨Rd.below (h.body x hx).1 hb, Rd.below (h.body x hx).2 hb⟩⟩
section
variable {H : Type} {enc : TypeId × Value → H} {w : World} {base : Nat} {spare : Nat → Bool} {held : Bool}
set_option maxRecDepth 100000 in
theorem TryO.cells_int : Tryd.prog.cellsOf 3 = 1 := by kernel_rfl
set_option maxRecDepth 100000 in
theorem TryO.cells_ints : Tryd.prog.cellsOf 43 = 1 := by kernel_rfl
set_option maxRecDepth 100000 in
theorem TryO.cells_fds : Tryd.prog.cellsOf 33 = 1 := by kernel_rfl
set_option maxRecDepth 100000 in
theorem TryO.cells_op : Tryd.prog.cellsOf 45 = 2 := by kernel_rfl
set_option maxRecDepth 100000 in
theorem TryO.bytes_op : Tryd.prog.bytesOf 45 = 48 := by kernel_rfl

set_option maxRecDepth 100000 in
theorem trod_ints9 {fuel : Nat} {cs : List Value} {y : DataW H × List MemPlace} (h : DataW.trod enc Tryd.prog w base spare held fuel 43 cs = some y) : ∃ A n c l, cs = [.slice A n c] ∧ Is w A n l := by
  rcases open_ints Tryd.underlying43 Tryd.underlying3 TryO.cells_int h with ⟨hcs, hx⟩ | ⟨a, len, cap, zs, hcs, _, hl, hm, hz, hx, hcell, hwf⟩
  · exact ⟨none, 0, 0, [], hcs, Rd.nil w 1 none⟩
  · have hle : len ≤ zs.length := by rw [hz]; split <;> omega
    refine ⟨some a, len, cap, zs.take len, hcs, ⟨by simp; omega, fun hn => ?_⟩⟩
    obtain ⟨b, o, s⟩ := a
    have hs : s = none := by
      have := spot_none (hcell 0 (by omega))
      simpa [Addr.add] using this
    subst hs
    refine ⟨b, o, rfl, fun j u hu => ?_⟩
    have hj : j < len := by
      have := (List.getElem?_eq_some_iff.1 hu).1
      simp at this
      omega
    have h1 := hcell j (by omega)
    rw [add_plain] at h1
    rw [h1]
    have hjz : j < zs.length := by omega
    simp only [List.getElem?_map, List.getElem?_take, if_pos hj, List.getElem?_eq_getElem hjz, Option.map_some, Option.some.injEq] at hu
    rw [← hu]
    simp [List.getElem?_eq_getElem hjz]

set_option maxRecDepth 100000 in
theorem trod_op9 {fuel : Nat} {cs : List Value} {y : DataW H × List MemPlace} (h : DataW.trod enc Tryd.prog w base spare held fuel 45 cs = some y) :
    ∃ x : Op9, cs = [.slice x.lA x.ln x.lc, .slice x.fA x.fn x.fc] ∧ Is w x.lA x.ln x.ls ∧ Fs w x.fA x.fn x.fs := by
  obtain ⟨ys, n, _, _, hlen, hyl, hf⟩ := DataW.trod_struct Tryd.underlying45 h
  rw [TryO.cells_op] at hlen
  match cs, hlen with
  | [c0, c1], _ =>
    have hys : ∀ i, i < 2 → ∃ z, ys[i]? = some z := fun i hi => ⟨ys[i]'(by simp at hyl; omega), List.getElem?_eq_getElem _⟩
    obtain ⟨z0, hz0⟩ := hys 0 (by omega)
    obtain ⟨z1, hz1⟩ := hys 1 (by omega)
    have f0 := (hf 0 _ rfl).trans hz0
    have f1 := (hf 1 _ rfl).trans hz1
    have f0 : DataW.trod enc Tryd.prog w base spare held n 43 [c0] = some z0 := by simpa [TryO.cells_ints] using f0
    have f1 : DataW.trod enc Tryd.prog w base spare held n 33 [c1] = some z1 := by simpa [TryO.cells_fds] using f1
    obtain ⟨A, k, c, l, e0, hi⟩ := trod_ints9 f0
    obtain ⟨A', k', c', l', e1, hi', _, _⟩ := trod_fds f1
    simp at e0 e1
    subst e0 e1
    exact ⟨⟨A, k, c, l, A', k', c', l'⟩, rfl, hi, hi'⟩

set_option maxRecDepth 100000 in
theorem trod_ops9 {fuel : Nat} {cs : List Value} {y : DataW H × List MemPlace} (h : DataW.trod enc Tryd.prog w base spare held fuel 39 cs = some y) :
    ∃ A n c os, cs = [.slice A n c] ∧ Os9 w A n os ∧ n ≤ c ∧ (y.1 = .nil ∧ n = 0 ∨ ∃ elems sp, y.1 = .slice elems sp ∧ elems.length = n) := by
  rcases open_slice Tryd.underlying39 h with ⟨hcs, hx⟩ | ⟨a, len, cap, m, n, D, Pl, hcs, _, hl, _, hmm, hx, hi⟩
  · exact ⟨none, 0, 0, [], hcs, ⟨rfl, fun h => absurd h (by omega), fun x hx => by cases hx⟩, Nat.le_refl _, .inl ⟨by rw [hx], rfl⟩⟩
  · have hlm : len ≤ m := by rw [hmm]; split <;> omega
    have hex : ∀ i, ∃ x : Op9, i < len → (w.cell? (a.add (i * 2 + 0)) = some (.slice x.lA x.ln x.lc) ∧ w.cell? (a.add (i * 2 + 1)) = some (.slice x.fA x.fn x.fc)) ∧ Is w x.lA x.ln x.ls ∧ Fs w x.fA x.fn x.fs := by
      intro i
      by_cases hil : i < len
      · obtain ⟨cs', hc, ht⟩ := hi i (by omega)
        rw [TryO.cells_op] at hc
        obtain ⟨x, e3, hb⟩ := trod_op9 ht
        obtain ⟨_, hcl, hat⟩ := World.cells?_some hc
        refine ⟨x, fun _ => ⟨⟨?_, ?_⟩, hb⟩⟩
        · have h0 := hat 0 (by omega)
          rw [Go.Deep.add_add, e3] at h0
          exact h0
        · have h0 := hat 1 (by omega)
          rw [Go.Deep.add_add, e3] at h0
          exact h0
      · exact ⟨⟨none, 0, 0, [], none, 0, 0, []⟩, fun h => absurd h hil⟩
    obtain ⟨X, hX⟩ := Classical.axiomOfChoice hex
    refine ⟨some a, len, cap, (List.range len).map X, hcs, ⟨by simp, fun hn => ?_, fun x hx => ?_⟩, hl, .inr ⟨_, _, by rw [hx], by simp⟩⟩
    · obtain ⟨b, o, s⟩ := a
      have hs : s = none := by
        have h0 := (hX 0 hn).1.1
        have := spot_none h0
        simpa [Addr.add] using this
      subst hs
      refine ⟨b, o, rfl, fun i x hx => ?_⟩
      have hil : i < len := by
        have := (List.getElem?_eq_some_iff.1 hx).1
        simpa using this
      have hxx : x = X i := by
        simp [List.getElem?_map, List.getElem?_range hil] at hx
        exact hx.symm
      subst hxx
      have h0 := (hX i hil).1
      rw [add_plain, add_plain] at h0
      exact h0
    · obtain ⟨i, hi', rfl⟩ := List.mem_map.1 hx
      exact (hX i (by simpa using hi')).2
end

set_option maxRecDepth 100000 in
theorem arg_ops9 {H : Type} {enc : TypeId × Value → H} {W : World} {b0 base : Nat} {spare : Nat → Bool} {held : Bool} {v : Value} {d : DataW H} {p : List MemPlace} (hv : Value.okWide Tryd.prog W .any b0 39 v) (h : DataW.Trod enc Tryd.prog W base spare held 39 v d p) :
    ∃ A n c os, v = .slice A n c ∧ Os9 W A n os ∧ n ≤ c ∧ (d = .nil ∧ n = 0 ∨ ∃ elems sp, d = .slice elems sp ∧ elems.length = n) := by
  obtain ⟨a0, len0, cap0, rfl⟩ := okWide_slice Tryd.underlying39 hv
  obtain ⟨fuel, hf⟩ := h
  obtain ⟨A, n, c, fs, hcs, hb, hle, hd⟩ := trod_ops9 hf
  simp [Value.cells] at hcs
  obtain ⟨rfl, rfl, rfl⟩ := hcs
  exact ⟨_, _, _, fs, rfl, hb, hle, hd⟩

set_option maxRecDepth 100000 in
theorem ops9_len {H : Type} {ds : List (DataW H)} {ts : List TypeId} {j : Nat} {d : DataW H} {n : Nat} (hsz : (DataW.weightsEach Tryd.prog ts ds).all (· ≤ reachBytes) = true)
    (ht : ts[j]? = some 39) (hd : ds[j]? = some d) (h : d = .nil ∧ n = 0 ∨ ∃ elems sp, d = .slice elems sp ∧ elems.length = n) : n ≤ 140737488355328 := by
  rcases h with ⟨_, rfl⟩ | ⟨elems, sp, rfl, rfl⟩
  · omega
  · have := sized_slice hsz ht hd Tryd.underlying39
    rw [TryO.bytes_op] at this
    simp only [reachBytes] at this
    omega
end Go.Proofs.YtjeocmglcgnclaaDoor
