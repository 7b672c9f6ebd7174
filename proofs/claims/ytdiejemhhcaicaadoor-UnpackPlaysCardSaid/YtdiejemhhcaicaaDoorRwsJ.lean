/- Slices of bytes that came in: what they hold, opened. No condition. -/
import Derived.Test.YtdiejemhhcaicaaDoorGl
import Derived.Test.YtdiejemhhcaicaaDoorGa
namespace Go.Proofs.YtdiejemhhcaicaaDoor
open Go.RowKit

/-- A piece of bytes, with where it lies. -/
structure Row where
  A : Option Addr
  n : Nat
  c : Nat
  l : List UInt8
def Row.val (x : Row) : Value := .slice x.A x.n x.c

/-- Slices of bytes. -/
structure Rws (w : World) (A : Option Addr) (n : Nat) (rs : List Row) : Prop where
  len : rs.length = n
  at_ : 0 < n → ∃ b o, A = some ⟨b, o, none⟩ ∧ ∀ i x, rs[i]? = some x → w.cell? ⟨b, o + i, none⟩ = some (.slice x.A x.n x.c)
  body : ∀ x ∈ rs, Bs w x.A x.n x.l ∧ x.n ≤ x.c
theorem Rws.below {w w' : World} {A : Option Addr} {n : Nat} {rs : List Row} (h : Rws w A n rs) (hb : Below w.heap.size w w') : Rws w' A n rs :=
  ⟨h.len, fun hn => by
    obtain ⟨b, o, e, hc⟩ := h.at_ hn
    exact ⟨b, o, e, fun i x hx => below_keep hb _ _ (hc i x hx)⟩, fun x hx => ⟨(h.body x hx).1.below hb, (h.body x hx).2⟩⟩

def rowSum (rs : List Row) (k : Nat) : Nat := ((rs.take k).map fun x => min x.n 20001).sum
theorem rowSum_succ {rs : List Row} {k : Nat} {x : Row} (h : rs[k]? = some x) : rowSum rs (k + 1) = rowSum rs k + min x.n 20001 := by
  obtain ⟨hk, hx⟩ := List.getElem?_eq_some_iff.1 h
  unfold rowSum
  rw [List.take_succ_eq_append_getElem hk, hx]
  simp
theorem rowSum_le (rs : List Row) (k : Nat) : rowSum rs k ≤ k * 20001 := by
  induction k with
  | zero => simp [rowSum]
  | succ k ih =>
    rw [Nat.add_mul, Nat.one_mul]
    generalize k * 20001 = q at ih
    rcases h : rs[k]? with _ | x
    · have e : rowSum rs (k + 1) = rowSum rs k := by
        have hl : rs.length ≤ k := by simpa using h
        unfold rowSum
        rw [List.take_of_length_le (by omega), List.take_of_length_le hl]
      rw [e]
      exact Nat.le_trans ih (Nat.le_add_right _ _)
    · rw [rowSum_succ h]
      exact Nat.add_le_add ih (Nat.min_le_right _ _)
theorem rowSum_mono (rs : List Row) {j k : Nat} (h : j ≤ k) : rowSum rs j ≤ rowSum rs k := by
  obtain ⟨d, rfl⟩ : ∃ d, k = j + d := ⟨k - j, by omega⟩
  unfold rowSum
  rw [List.take_add]
  simp

open Go.ChangeShapes Go.WideShapes Go.ChangeAt Go.Deep
section
variable {H : Type} {enc : TypeId × Value → H} {w : World} {base : Nat} {spare : Nat → Bool} {held : Bool}
set_option maxRecDepth 100000 in
theorem TryR.cells_u8 : Tryd.prog.cellsOf 5 = 1 := by kernel_rfl
set_option maxRecDepth 100000 in
theorem TryR.cells_bytes : Tryd.prog.cellsOf 29 = 1 := by kernel_rfl
set_option maxRecDepth 100000 in
theorem TryR.bytes_bytes : Tryd.prog.bytesOf 29 = 24 := by kernel_rfl

set_option maxRecDepth 100000 in
theorem trod_rows {fuel : Nat} {cs : List Value} {y : DataW H × List MemPlace} (h : DataW.trod enc Tryd.prog w base spare held fuel 35 cs = some y) :
    ∃ A n c rs, cs = [.slice A n c] ∧ Rws w A n rs ∧ n ≤ c ∧ (y.1 = .nil ∧ n = 0 ∨ ∃ elems sp, y.1 = .slice elems sp ∧ elems.length = n) := by
  rcases open_slice Tryd.underlying35 h with ⟨hcs, hx⟩ | ⟨a, len, cap, m, n, D, Pl, hcs, _, hl, _, hmm, hx, hi⟩
  · exact ⟨none, 0, 0, [], hcs, ⟨rfl, fun h => absurd h (by omega), fun x hx => by cases hx⟩, Nat.le_refl _, .inl ⟨by rw [hx], rfl⟩⟩
  · have hlm : len ≤ m := by rw [hmm]; split <;> omega
    have hex : ∀ i, ∃ x : Row, i < len → w.cell? (a.add (i * 1 + 0)) = some x.val ∧ Bs w x.A x.n x.l ∧ x.n ≤ x.c := by
      intro i
      by_cases hil : i < len
      · obtain ⟨cs', hc, ht⟩ := hi i (by omega)
        rw [TryR.cells_bytes] at hc
        obtain ⟨A, k, c, l, e3, hb, hle, _⟩ := trod_bytes Tryd.underlying29 Tryd.underlying5 TryR.cells_u8 ht
        obtain ⟨_, hcl, hat⟩ := World.cells?_some hc
        refine ⟨⟨A, k, c, l⟩, fun _ => ⟨?_, hb, hle⟩⟩
        have h0 := hat 0 (by omega)
        rw [Go.Deep.add_add, e3] at h0
        exact h0
      · exact ⟨⟨none, 0, 0, []⟩, fun h => absurd h hil⟩
    obtain ⟨X, hX⟩ := Classical.axiomOfChoice hex
    refine ⟨some a, len, cap, (List.range len).map X, hcs, ⟨by simp, fun hn => ?_, fun x hx => ?_⟩, hl, .inr ⟨_, _, by rw [hx], by simp⟩⟩
    · obtain ⟨b, o, s⟩ := a
      have hs : s = none := by
        have h0 := (hX 0 hn).1
        have := spot_none h0
        simpa [Addr.add] using this
      subst hs
      refine ⟨b, o, rfl, fun i x hx => ?_⟩
      have hil : i < len := by
        have := (List.getElem?_eq_some_iff.1 hx).1
        simpa using this
      have hxx : x = X i := by
        simp [List.getElem?_map, List.getElem?_range hil] at hx
        exact hx.symm
      subst hxx
      have h0 := (hX i hil).1
      rw [add_plain] at h0
      simp only [Nat.mul_one, Nat.add_zero] at h0
      exact h0
    · obtain ⟨i, hi', rfl⟩ := List.mem_map.1 hx
      exact (hX i (by simpa using hi')).2
end

set_option maxRecDepth 100000 in
theorem arg_rows {H : Type} {enc : TypeId × Value → H} {W : World} {b0 base : Nat} {spare : Nat → Bool} {held : Bool} {v : Value} {d : DataW H} {p : List MemPlace} (hv : Value.okWide Tryd.prog W .any b0 35 v) (h : DataW.Trod enc Tryd.prog W base spare held 35 v d p) :
    ∃ A n c rs, v = .slice A n c ∧ Rws W A n rs ∧ n ≤ c ∧ (d = .nil ∧ n = 0 ∨ ∃ elems sp, d = .slice elems sp ∧ elems.length = n) := by
  obtain ⟨a0, len0, cap0, rfl⟩ := okWide_slice Tryd.underlying35 hv
  obtain ⟨fuel, hf⟩ := h
  obtain ⟨A, n, c, fs, hcs, hb, hle, hd⟩ := trod_rows hf
  simp [Value.cells] at hcs
  obtain ⟨rfl, rfl, rfl⟩ := hcs
  exact ⟨_, _, _, fs, rfl, hb, hle, hd⟩

set_option maxRecDepth 100000 in
theorem rows_len {H : Type} {ds : List (DataW H)} {ts : List TypeId} {j : Nat} {d : DataW H} {n : Nat} (hsz : (DataW.weightsEach Tryd.prog ts ds).all (· ≤ reachBytes) = true)
    (ht : ts[j]? = some 35) (hd : ds[j]? = some d) (h : d = .nil ∧ n = 0 ∨ ∃ elems sp, d = .slice elems sp ∧ elems.length = n) : n ≤ 140737488355328 := by
  rcases h with ⟨_, rfl⟩ | ⟨elems, sp, rfl, rfl⟩
  · omega
  · have := sized_slice hsz ht hd Tryd.underlying35
    rw [TryR.bytes_bytes] at this
    simp only [reachBytes] at this
    omega
end Go.Proofs.YtdiejemhhcaicaaDoor
