/- Plain laws of the table's words: shr, addL, findK. -/
import Derived.Test.YtlnhnnejmofpcaaDynFirst
namespace Go.Proofs.Ytlnhnnejmofpcaa
open Go.RowKit

theorem shr_total {r : Int} (h : 0 ≤ r) : ∀ l : List Fd, (total (shr r l) : Int) ≤ r
  | [] => by simpa [shr, total] using h
  | f :: l => by
    unfold shr
    split
    · exact shr_total h l
    · omega
theorem shr_mem {r : Int} {f : Fd} : ∀ l : List Fd, f ∈ shr r l → f ∈ l
  | [], h => by simp [shr] at h
  | g :: l, h => by
    unfold shr at h
    split at h
    · exact List.mem_cons_of_mem _ (shr_mem l h)
    · exact h
theorem shr_suffix (r : Int) : ∀ l : List Fd, ∃ p, l = p ++ shr r l
  | [] => ⟨[], by simp [shr]⟩
  | g :: l => by
    unfold shr
    split
    · obtain ⟨p, hp⟩ := shr_suffix r l
      exact ⟨g :: p, by rw [List.cons_append, ← hp]⟩
    · exact ⟨[], rfl⟩
theorem shr_below {m : Int} (hm : m < 0) : ∀ l : List Fd, shr m l = []
  | [] => rfl
  | f :: l => by
    unfold shr
    rw [if_pos (by omega), shr_below hm l]
theorem shr_zero (l : List Fd) : shr 0 l = [] := by
  induction l with
  | nil => rfl
  | cons f l ih =>
    unfold shr
    rw [if_pos (by rw [total_cons]; unfold Fd.size; omega), ih]
theorem addL_total {m : Int} (hm : 0 ≤ m) (l : List Fd) (f : Fd) : (total (addL m l f) : Int) ≤ m := by
  unfold addL
  split
  · have := shr_total (r := m - f.size) (by omega) l
    rw [total_append]
    have e : total [(⟨f.n, f.v, false⟩ : Fd)] = f.size := by simp [total, Fd.size]
    rw [e]
    omega
  · rw [shr_below (by omega)]
    simpa [total] using hm
theorem addL_len (m : Int) (l : List Fd) (f : Fd) : (addL m l f).length ≤ l.length + 1 := by
  unfold addL
  have := (shr_le (m - f.size) l).2
  split
  · simp; omega
  · omega
theorem size_le_total {l : List Fd} {f : Fd} (h : f ∈ l) : f.size ≤ total l := by
  induction l with
  | nil => cases h
  | cons g l ih =>
    rw [total_cons]
    rcases List.mem_cons.1 h with rfl | h
    · omega
    · have := ih h; omega
theorem findK_none {l : List Fd} {nm vl : ByteArray} (h : ∀ f ∈ l, (f.n.toList == nm.toList) = false) : ∀ k, findK l nm vl k = (0, 0)
  | 0 => rfl
  | k + 1 => by
    unfold findK
    rcases hx : l[k]? with _ | f
    · exact findK_none h k
    · have := h f (List.mem_of_getElem? hx)
      simp only [this]
      exact findK_none h k
theorem toList_len (b : ByteArray) : b.toList.length = b.size := by
  rw [ByteArray.toList_eq, Array.length_toList]
  rfl
theorem name_far {l : List Fd} {nm : ByteArray} (h : total l < nm.size) : ∀ f ∈ l, (f.n.toList == nm.toList) = false := by
  intro f hf
  have h1 := size_le_total hf
  unfold Fd.size at h1
  rw [beq_eq_false_iff_ne]
  intro e
  have := congrArg List.length e
  rw [toList_len, toList_len] at this
  omega
end Go.Proofs.Ytlnhnnejmofpcaa
