/- The book of codes: what opened answers. No condition. -/
import Derived.Test.YtimklfdofldhaaaHuff
namespace Go.Proofs.Ytimklfdofldhaaa
open Go.RowKit
attribute [local go_sem] kd kdS

/-- The signs whose codes have n bits. -/
def signs (n : Nat) : List Nat := (List.range 257).filter fun s => hl s == n
/-- The signs in order, those of fewer than 5 + k bits. -/
def ordB (k : Nat) : List Nat := (List.range k).flatMap fun j => signs (5 + j)
/-- The first code of 5 + k bits. -/
def firstC : Nat → Nat
  | 0 => 0
  | k + 1 => 2 * (firstC k + (signs (5 + k)).length)
theorem ordB_succ (k : Nat) : ordB (k + 1) = ordB k ++ signs (5 + k) := by
  unfold ordB
  rw [List.range_succ, List.flatMap_append]
  simp
theorem signs_le (n : Nat) : (signs n).length ≤ 257 := by
  unfold signs
  have := List.length_filter_le (fun s => hl s == n) (List.range 257)
  simpa using this
theorem ordB_le (k : Nat) : (ordB k).length ≤ k * 257 := by
  induction k with
  | zero => simp [ordB]
  | succ k ih =>
    rw [ordB_succ, List.length_append]
    have := signs_le (5 + k)
    omega
theorem first_all : ∀ k, k ≤ 26 → firstC k < 4294967296 := by decide +kernel
theorem sign_take (n s : Nat) : ((List.range (s + 1)).filter fun x => hl x == n) = ((List.range s).filter fun x => hl x == n) ++ (if hl s = n then [s] else []) := by
  rw [List.range_succ, List.filter_append]
  by_cases h : hl s = n <;> simp [h]

/-- The book's cells. -/
def vals (f m p : Nat → Int) (v : Value) : Array Value :=
  ((List.range 31).map (fun j => Value.int .i64 (f j)) ++ (List.range 31).map (fun j => Value.int .i64 (m j)) ++ (List.range 31).map (fun j => Value.int .i64 (p j)) ++ [v]).toArray
def upd (f : Nat → Int) (j : Nat) (x : Int) : Nat → Int := fun i => if i = j then x else f i
section
variable {f m p : Nat → Int} {v u : Value} {j : Nat} {x : Int}
theorem vals_size : (vals f m p v).size = 94 := by simp [vals]
theorem vals_f (h : j < 31) : (vals f m p v)[j]? = some (.int .i64 (f j)) := by
  unfold vals
  simp only [List.getElem?_toArray]
  rw [List.getElem?_append_left (by simp; omega), List.getElem?_append_left (by simp; omega), List.getElem?_append_left (by simpa using h), List.getElem?_map, List.getElem?_range h]
  rfl
theorem vals_m (h : j < 31) : (vals f m p v)[31 + j]? = some (.int .i64 (m j)) := by
  unfold vals
  simp only [List.getElem?_toArray]
  rw [List.getElem?_append_left (by simp; omega), List.getElem?_append_left (by simp; omega), List.getElem?_append_right (by simp)]
  simp [List.getElem?_map, List.getElem?_range h]
theorem vals_p (h : j < 31) : (vals f m p v)[62 + j]? = some (.int .i64 (p j)) := by
  unfold vals
  simp only [List.getElem?_toArray]
  rw [List.getElem?_append_left (by simp; omega), List.getElem?_append_right (by simp)]
  simp [List.getElem?_map, List.getElem?_range h]
theorem vals_o : (vals f m p v)[93]? = some v := by
  unfold vals
  simp only [List.getElem?_toArray]
  rw [List.getElem?_append_right (by simp)]
  simp
theorem map_upd (f : Nat → Int) (j : Nat) (x : Int) (n : Nat) : ((List.range n).map fun i => Value.int .i64 (f i)).set j (.int .i64 x) = (List.range n).map fun i => Value.int .i64 (upd f j x i) := by
  apply List.ext_getElem?
  intro i
  rw [List.getElem?_set]
  by_cases h : j = i
  · subst h
    by_cases hn : j < n
    · simp [hn, upd]
    · simp [hn]
  · rw [if_neg h, List.getElem?_map, List.getElem?_map]
    rcases hr : (List.range n)[i]? with _ | y
    · rfl
    · have : y = i := by
        have := List.getElem?_eq_some_iff.1 hr
        obtain ⟨_, e⟩ := this
        simpa using e.symm
      subst this
      simp [upd, Ne.symm h]
theorem vals_set_f (h : j < 31) : (vals f m p v).setIfInBounds j (.int .i64 x) = vals (upd f j x) m p v := by
  unfold vals
  rw [List.setIfInBounds_toArray, List.set_append_left _ _ (by simp; omega), List.set_append_left _ _ (by simp; omega), List.set_append_left _ _ (by simpa using h), map_upd]
theorem vals_set_m (h : j < 31) : (vals f m p v).setIfInBounds (31 + j) (.int .i64 x) = vals f (upd m j x) p v := by
  unfold vals
  rw [List.setIfInBounds_toArray, List.set_append_left _ _ (by simp; omega), List.set_append_left _ _ (by simp; omega), List.set_append_right _ _ (by simp)]
  simp only [List.length_map, List.length_range, Nat.add_sub_cancel_left]
  rw [map_upd]
theorem vals_set_p (h : j < 31) : (vals f m p v).setIfInBounds (62 + j) (.int .i64 x) = vals f m (upd p j x) v := by
  unfold vals
  rw [List.setIfInBounds_toArray, List.set_append_left _ _ (by simp; omega), List.set_append_right _ _ (by simp)]
  simp only [List.length_append, List.length_map, List.length_range, Nat.add_sub_cancel_left]
  rw [map_upd]
theorem vals_set_o : (vals f m p v).setIfInBounds 93 u = vals f m p u := by
  unfold vals
  rw [List.setIfInBounds_toArray, List.set_append_right _ _ (by simp)]
  simp
end

/-- The parts of the book when the lengths below 5 + k are done. -/
def fK (k : Nat) : Nat → Int := fun j => if 5 ≤ j ∧ j < 5 + k then (firstC (j - 5) : Int) else 0
def mK (k : Nat) : Nat → Int := fun j => if 5 ≤ j ∧ j < 5 + k then ((signs j).length : Int) else 0
def pK (k : Nat) : Nat → Int := fun j => if 5 ≤ j ∧ j < 5 + k then ((ordB (j - 5)).length : Int) else 0
theorem fK_succ (k : Nat) : upd (fK k) (5 + k) (firstC k) = fK (k + 1) := by
  funext i
  unfold upd fK
  by_cases h : i = 5 + k
  · subst h
    rw [if_pos rfl, if_pos (by omega), Nat.add_sub_cancel_left]
  · rw [if_neg h]
    by_cases h2 : 5 ≤ i ∧ i < 5 + k
    · rw [if_pos h2, if_pos (by omega)]
    · rw [if_neg h2, if_neg (by omega)]
theorem mK_succ (k : Nat) : upd (mK k) (5 + k) ((signs (5 + k)).length : Int) = mK (k + 1) := by
  funext i
  unfold upd mK
  by_cases h : i = 5 + k
  · subst h
    rw [if_pos rfl, if_pos (by omega)]
  · rw [if_neg h]
    by_cases h2 : 5 ≤ i ∧ i < 5 + k
    · rw [if_pos h2, if_pos (by omega)]
    · rw [if_neg h2, if_neg (by omega)]
theorem pK_succ (k : Nat) : upd (pK k) (5 + k) ((ordB k).length : Int) = pK (k + 1) := by
  funext i
  unfold upd pK
  by_cases h : i = 5 + k
  · subst h
    rw [if_pos rfl, if_pos (by omega), Nat.add_sub_cancel_left]
  · rw [if_neg h]
    by_cases h2 : 5 ≤ i ∧ i < 5 + k
    · rw [if_pos h2, if_pos (by omega)]
    · rw [if_neg h2, if_neg (by omega)]
def ints (l : List Nat) : List Value := l.map fun (s : Nat) => Value.int .i64 (s : Int)
theorem ints_one (l : List Nat) : ∀ u ∈ ints l, u.oneCell' = true := by
  intro u hu
  obtain ⟨b, _, rfl⟩ := List.mem_map.1 hu
  rfl
theorem ints_len (l : List Nat) : (ints l).length = l.length := by simp [ints]
theorem ints_append (a b : List Nat) : ints (a ++ b) = ints a ++ ints b := by simp [ints]

/-- A book in block g, when the lengths below 5 + k are done. -/
structure BookAt (w : World) (g : Nat) (f m p : Nat → Int) (A : Option Addr) (c : Nat) (l : List Nat) : Prop where
  blk : Blk w g 50 (vals f m p (.slice A l.length c))
  own : w.ownsRow (g + 1) 3 1 (.slice A l.length c) l.length (ints l)
theorem BookAt.below {w w' : World} {g : Nat} {f m p : Nat → Int} {A : Option Addr} {c : Nat} {l : List Nat} (h : BookAt w g f m p A c l) (hb : Below w.heap.size w w') : BookAt w' g f m p A c l :=
  ⟨h.blk.below hb h.blk.lt, own_below h.own hb⟩
theorem int_info : (Try.prog.info? 3).map (fun i => (i.zero, i.size, i.bytes)) = some (some (.int .i64 0), 1, 8) := by kernel_rfl
end Go.Proofs.Ytimklfdofldhaaa
