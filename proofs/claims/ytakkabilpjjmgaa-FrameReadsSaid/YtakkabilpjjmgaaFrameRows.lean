/- Slices of bytes that came in, opened. -/
import Derived.Test.YtakkabilpjjmgaaFrameReads
import Derived.Test.YtakkabilpjjmgaaArgs
namespace Go.Proofs.Ytakkabilpjjmgaa
open Go.RowKit
open Go.ChangeShapes Go.WideShapes Go.ChangeAt Go.Deep
section
variable {H : Type} {enc : TypeId × Value → H} {w : World} {base : Nat} {spare : Nat → Bool} {held : Bool}
theorem TryR.cells_bytes : Try.prog.cellsOf 25 = 1 := by kernel_rfl
theorem TryR.bytes_bytes : Try.prog.bytesOf 25 = 24 := by kernel_rfl

theorem trod_rows {fuel : Nat} {cs : List Value} {y : DataW H × List MemPlace} (h : DataW.trod enc Try.prog w base spare held fuel 40 cs = some y) :
    ∃ A n c rs, cs = [.slice A n c] ∧ Rws w A n rs ∧ n ≤ c ∧ (y.1 = .nil ∧ n = 0 ∨ ∃ elems sp, y.1 = .slice elems sp ∧ elems.length = n) := by
  rcases open_slice Try.underlying40 h with ⟨hcs, hx⟩ | ⟨a, len, cap, m, n, D, Pl, hcs, _, hl, _, hmm, hx, hi⟩
  · exact ⟨none, 0, 0, [], hcs, ⟨rfl, fun h => absurd h (by omega), fun x hx => by cases hx⟩, Nat.le_refl _, .inl ⟨by rw [hx], rfl⟩⟩
  · have hlm : len ≤ m := by rw [hmm]; split <;> omega
    have hex : ∀ i, ∃ x : Row, i < len → w.cell? (a.add (i * 1 + 0)) = some x.val ∧ Bs w x.A x.n x.l ∧ x.n ≤ x.c := by
      intro i
      by_cases hil : i < len
      · obtain ⟨cs', hc, ht⟩ := hi i (by omega)
        rw [TryR.cells_bytes] at hc
        obtain ⟨A, k, c, l, e3, hb, hle, _⟩ := trod_bytes Try.underlying25 Try.underlying5 TryA.cells_u8 ht
        obtain ⟨_, hcl, hat⟩ := World.cells?_some hc
        refine ⟨⟨A, k, c, l⟩, fun _ => ⟨?_, hb, hle⟩⟩
        have h0 := hat 0 (by omega)
        rw [Go.Deep.add_add, e3] at h0
        exact h0
      · exact ⟨⟨none, 0, 0, []⟩, fun h => absurd h hil⟩
    obtain ⟨X, hX⟩ := Classical.axiomOfChoice hex
    refine ⟨some a, len, cap, (List.range len).map X, hcs, ⟨by simp, fun hn => ?_, fun x hx => ?_⟩, hl, .inr ⟨_, _, by rw [hx], by simp⟩⟩
    · obtain ⟨b, o, s⟩ := a
      have hs : s = none := by
        have h0 := (hX 0 hn).1
        have := spot_none h0
        simpa [Addr.add] using this
      subst hs
      refine ⟨b, o, rfl, fun i x hx => ?_⟩
      have hil : i < len := by
        have := (List.getElem?_eq_some_iff.1 hx).1
        simpa using this
      have hxx : x = X i := by
        simp [List.getElem?_map, List.getElem?_range hil] at hx
        exact hx.symm
      subst hxx
      have h0 := (hX i hil).1
      rw [add_plain] at h0
      simp only [Nat.mul_one, Nat.add_zero] at h0
      exact h0
    · obtain ⟨i, hi', rfl⟩ := List.mem_map.1 hx
      exact (hX i (by simpa using hi')).2
end

theorem arg_rows {H : Type} {enc : TypeId × Value → H} {W : World} {b0 base : Nat} {spare : Nat → Bool} {held : Bool} {v : Value} {d : DataW H} {p : List MemPlace} (hv : Value.okWide Try.prog W .any b0 40 v) (h : DataW.Trod enc Try.prog W base spare held 40 v d p) :
    ∃ A n c rs, v = .slice A n c ∧ Rws W A n rs ∧ n ≤ c ∧ (d = .nil ∧ n = 0 ∨ ∃ elems sp, d = .slice elems sp ∧ elems.length = n) := by
  obtain ⟨a0, len0, cap0, rfl⟩ := okWide_slice Try.underlying40 hv
  obtain ⟨fuel, hf⟩ := h
  obtain ⟨A, n, c, fs, hcs, hb, hle, hd⟩ := trod_rows hf
  simp [Value.cells] at hcs
  obtain ⟨rfl, rfl, rfl⟩ := hcs
  exact ⟨_, _, _, fs, rfl, hb, hle, hd⟩

theorem rows_len {H : Type} {ds : List (DataW H)} {ts : List TypeId} {j : Nat} {d : DataW H} {n : Nat} (hsz : (DataW.weightsEach Try.prog ts ds).all (· ≤ reachBytes) = true)
    (ht : ts[j]? = some 40) (hd : ds[j]? = some d) (h : d = .nil ∧ n = 0 ∨ ∃ elems sp, d = .slice elems sp ∧ elems.length = n) : n ≤ 140737488355328 := by
  rcases h with ⟨_, rfl⟩ | ⟨elems, sp, rfl, rfl⟩
  · omega
  · have := sized_slice hsz ht hd Try.underlying40
    rw [TryR.bytes_bytes] at this
    simp only [reachBytes] at this
    omega
end Go.Proofs.Ytakkabilpjjmgaa
