/- Fields: a name, a value, and a mark; how they lie in memory, and what they take. -/
import Derived.Test.YtjeocmglcgnclaaDoorMid
namespace Go.Proofs.YtjeocmglcgnclaaDoor
open Go.RowKit

structure Fd where
  n : ByteArray
  v : ByteArray
  x : Bool
def Fd.cells (f : Fd) : List Value := [.string f.n, .string f.v, .bool f.x]
abbrev Fd.val (f : Fd) : Value := .agg #[.string f.n, .string f.v, .bool f.x]
def Fd.size (f : Fd) : Nat := f.n.size + f.v.size + 32
/-- Cells of fields, one behind another. -/
def flat (l : List Fd) : List Value := l.flatMap Fd.cells
theorem flat_len (l : List Fd) : (flat l).length = l.length * 3 := by
  unfold flat
  induction l with
  | nil => rfl
  | cons f l ih => rw [List.flatMap_cons, List.length_append, ih]; simp [Fd.cells]; omega
theorem flat_append (l l' : List Fd) : flat (l ++ l') = flat l ++ flat l' := by simp [flat]
theorem flat_drop (l : List Fd) (k : Nat) : (flat l).drop (k * 3) = flat (l.drop k) := by
  induction l generalizing k with
  | nil => simp [flat]
  | cons f l ih =>
    cases k with
    | zero => simp
    | succ k =>
      rw [List.drop_succ_cons, ← ih k, show flat (f :: l) = f.cells ++ flat l from rfl, show (k + 1) * 3 = f.cells.length + k * 3 by simp [Fd.cells]; omega, ← List.drop_drop, List.drop_left]
theorem flat_take (l : List Fd) (k : Nat) : (flat l).take (k * 3) = flat (l.take k) := by
  induction l generalizing k with
  | nil => simp [flat]
  | cons f l ih =>
    cases k with
    | zero => simp [flat]
    | succ k =>
      rw [List.take_succ_cons, show flat (f :: l) = f.cells ++ flat l from rfl, show flat (f :: l.take k) = f.cells ++ flat (l.take k) from rfl, ← ih k]
      rw [show (k + 1) * 3 = f.cells.length + k * 3 by simp [Fd.cells]; omega, List.take_length_add_append]
theorem flat_at {l : List Fd} {i : Nat} {f : Fd} (h : l[i]? = some f) : (flat l)[i * 3]? = some (.string f.n) ∧ (flat l)[i * 3 + 1]? = some (.string f.v) ∧ (flat l)[i * 3 + 2]? = some (.bool f.x) := by
  induction l generalizing i with
  | nil => simp at h
  | cons f0 l ih =>
    cases i with
    | zero =>
      have e : f0 = f := by simpa using h
      subst e
      exact ⟨rfl, rfl, rfl⟩
    | succ i =>
      have := ih (i := i) (by simpa using h)
      rw [show flat (f0 :: l) = f0.cells ++ flat l from rfl]
      have hc : f0.cells.length = 3 := rfl
      rw [List.getElem?_append_right (by rw [hc]; omega), List.getElem?_append_right (by rw [hc]; omega), List.getElem?_append_right (by rw [hc]; omega), hc]
      rw [show (i + 1) * 3 - 3 = i * 3 by omega, show (i + 1) * 3 + 1 - 3 = i * 3 + 1 by omega, show (i + 1) * 3 + 2 - 3 = i * 3 + 2 by omega]
      exact this
theorem flat_one (l : List Fd) : ∀ u ∈ flat l, u.oneCell' = true := by
  intro u hu
  obtain ⟨f, _, h⟩ := List.mem_flatMap.1 hu
  simp [Fd.cells] at h
  rcases h with rfl | rfl | rfl <;> rfl

/-- What fields take. -/
def total (l : List Fd) : Nat := (l.map Fd.size).sum
theorem total_cons (f : Fd) (l : List Fd) : total (f :: l) = f.size + total l := by simp [total]
theorem total_append (l l' : List Fd) : total (l ++ l') = total l + total l' := by simp [total]

/-- A slice of fields. -/
def Fs (w : World) (A : Option Addr) (n : Nat) (l : List Fd) : Prop := Rd w 3 A n (flat l)
theorem Fs.len {w : World} {A : Option Addr} {n : Nat} {l : List Fd} (h : Fs w A n l) : l.length = n := by
  have := h.1
  rw [flat_len] at this
  omega
theorem Fs.at_ {w : World} {A : Option Addr} {n : Nat} {l : List Fd} (h : Fs w A n l) {i : Nat} (hi : i < n) : ∃ b o f, A = some ⟨b, o, none⟩ ∧ l[i]? = some f ∧ w.cell? ⟨b, o + i * 3, none⟩ = some (.string f.n) ∧ w.cell? ⟨b, o + i * 3 + 1, none⟩ = some (.string f.v) ∧ w.cell? ⟨b, o + i * 3 + 2, none⟩ = some (.bool f.x) := by
  obtain ⟨b, o, e, hc⟩ := h.2 (by omega)
  have hl : i < l.length := by have := h.len; omega
  obtain ⟨h0, h1, h2⟩ := flat_at (List.getElem?_eq_getElem hl)
  exact ⟨b, o, l[i], e, List.getElem?_eq_getElem hl, hc _ _ h0, hc _ _ h1, hc _ _ h2⟩
theorem Fs.below {w w' : World} {A : Option Addr} {n : Nat} {l : List Fd} (h : Fs w A n l) (hb : Below w.heap.size w w') : Fs w' A n l := Rd.below h hb

set_option maxHeartbeats 400000 in
set_option maxRecDepth 100000 in
theorem size_any (f : Fd) (w : World) (h : f.size ≤ 70368744177664) :
    Calls Tryd.prog 63 #[f.val] w fun e w' => e = .returned (.int .i64 (f.size : Nat)) ∧ Below w.heap.size w w' := by
  obtain ⟨a, b, x⟩ := f
  simp only [Fd.size] at h ⊢
  go_enter Tryd.func63, Tryd.ntmps63
  go_wp2_with fail
  go_ret
  exact ⟨by first | rfl | (congr 2; omega), (Below.refl _ _).alloc (Nat.le_refl _) _⟩
set_option maxHeartbeats 400000 in
set_option maxRecDepth 100000 in
theorem rsize_any (f : Fd) (w : World) (h : f.size ≤ 70368744177664) :
    Calls Tryd.prog 77 #[f.val] w fun e w' => e = .returned (.int .i64 (f.size : Nat)) ∧ Below w.heap.size w w' := by
  obtain ⟨a, b, x⟩ := f
  simp only [Fd.size] at h ⊢
  go_enter Tryd.func77, Tryd.ntmps77
  go_wp2_with fail
  go_ret
  exact ⟨by first | rfl | (congr 2; omega), (Below.refl _ _).alloc (Nat.le_refl _) _⟩
end Go.Proofs.YtjeocmglcgnclaaDoor
