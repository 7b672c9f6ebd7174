/- Splitting a string at a byte: plain lists; and the library's search for a byte, each call once. Each lemma names its own conditions. -/
import Derived.Test.YtnmadedmclcdnaaDoorBytesFn
import Derived.Lib.Strings
import Derived.Lib.Slices
import Derived.Lib.Walk
import Derived.Lib.Bytealg
namespace Go.Proofs.YtnmadedmclcdnaaDoor
open Go.RowKit

/-- The pieces of a list between the bytes c. -/
def spl (c : UInt8) : List UInt8 → List (List UInt8)
  | [] => [[]]
  | x :: r => if x = c then [] :: spl c r else match spl c r with
    | [] => [[x]]
    | h :: t => (x :: h) :: t
theorem spl_len (c : UInt8) (l : List UInt8) : (spl c l).length = l.count c + 1 := by
  induction l with
  | nil => rfl
  | cons x r ih =>
    unfold spl
    by_cases h : x = c
    · rw [if_pos h, List.length_cons, ih, h, List.count_cons_self]
    · rw [if_neg h, List.count_cons_of_ne h]
      rcases hs : spl c r with _ | ⟨a, t⟩
      · rw [hs] at ih; simp at ih
      · rw [hs] at ih; simpa using ih
theorem spl_none {c : UInt8} {l : List UInt8} (h : c ∉ l) : spl c l = [l] := by
  induction l with
  | nil => rfl
  | cons x r ih =>
    have hx : x ≠ c := fun e => h (e ▸ List.mem_cons_self)
    unfold spl
    rw [if_neg hx, ih (fun hm => h (List.mem_cons_of_mem _ hm))]
theorem spl_at {c : UInt8} {p r : List UInt8} (h : c ∉ p) : spl c (p ++ c :: r) = p :: spl c r := by
  induction p with
  | nil =>
    show spl c (c :: r) = _
    rw [spl, if_pos rfl]
  | cons x p ih =>
    have hx : x ≠ c := fun e => h (e ▸ List.mem_cons_self)
    show spl c (x :: (p ++ c :: r)) = _
    rw [spl, if_neg hx, ih (fun hm => h (List.mem_cons_of_mem _ hm))]
/-- Where a byte first stands. -/
theorem index_cases (c : UInt8) : ∀ l : List UInt8, (c ∉ l ∧ Lib.indexByte l c = -1) ∨ ∃ p r, l = p ++ c :: r ∧ c ∉ p ∧ Lib.indexByte l c = p.length
  | [] => .inl ⟨by simp, rfl⟩
  | x :: l => by
    by_cases h : x = c
    · subst h
      exact .inr ⟨[], l, rfl, by simp, by simp [Lib.indexByte]⟩
    · rcases index_cases c l with ⟨h1, h2⟩ | ⟨p, r, h1, h2, h3⟩
      · refine .inl ⟨fun hm => ?_, ?_⟩
        · rcases List.mem_cons.1 hm with e | e
          · exact h e.symm
          · exact h1 e
        · simp [Lib.indexByte, h, h2]
      · refine .inr ⟨x :: p, r, by rw [h1]; rfl, fun hm => ?_, ?_⟩
        · rcases List.mem_cons.1 hm with e | e
          · exact h e.symm
          · exact h2 e
        · simp [Lib.indexByte, h, h3]

set_option maxHeartbeats 1000000 in
set_option maxRecDepth 100000 in
theorem sIndexByte (s : ByteArray) (c : Int) (w : World) :
    Calls Tryd.prog 34 #[.string s, .int .u8 c] w fun e w' => e = .returned (.int .i64 (Lib.indexByte s.data.toList c.toNat.toUInt8)) ∧ w' = w := by
  go_enter Tryd.func34, Tryd.ntmps34
  go_wp2
  rw [run_callFunc_extern Tryd.func39 (by kernel_rfl) (by kernel_rfl) (by kernel_rfl) (e := Extern.BytealgIndexByte.indexByte) (by kernel_rfl), Lib.run_indexByteString]
  simp only [Result.andThen]
  rw [Oper.upon_value]
  go_wp2
  go_ret
  exact ⟨rfl, rfl⟩
set_option maxHeartbeats 2000000 in
set_option maxRecDepth 100000 in
theorem sIndexIn (s : ByteArray) (c : UInt8) (w : World) :
    Calls Tryd.prog 30 #[.string s, .string ⟨#[c]⟩] w fun e w' => e = .returned (.int .i64 (Lib.indexByte s.data.toList c)) ∧ w' = w := by
  go_enter Tryd.func30, Tryd.ntmps30
  go_wp2_with (go_at_call 34; refine (sIndexByte _ _ _).mono ?_; rintro e w' ⟨rfl, rfl⟩)
  · have h : ([c] == s.toList) = true := by assumption
    go_ret
    refine ⟨?_, rfl⟩
    have e : s.data.toList = [c] := by rw [← Lib.toList_data]; exact (beq_iff_eq.1 h).symm
    rw [e]
    simp [Lib.indexByte]
  · go_ret
    exact ⟨rfl, rfl⟩
set_option maxHeartbeats 1000000 in
set_option maxRecDepth 100000 in
theorem sIndex (s : ByteArray) (c : UInt8) (w : World) :
    Calls Tryd.prog 29 #[.string s, .string ⟨#[c]⟩] w fun e w' => e = .returned (.int .i64 (Lib.indexByte s.data.toList c)) ∧ w' = w := by
  go_enter Tryd.func29, Tryd.ntmps29
  go_wp2_with (go_at_call 30; refine (sIndexIn _ _ _).mono ?_; rintro e w' ⟨rfl, rfl⟩)
  go_ret
  exact ⟨rfl, rfl⟩
set_option maxHeartbeats 1000000 in
set_option maxRecDepth 100000 in
theorem sCount (s : ByteArray) (c : UInt8) (w : World) :
    Calls Tryd.prog 28 #[.string s, .string ⟨#[c]⟩] w fun e w' => e = .returned (.int .i64 (Lib.countByte s.data.toList c)) ∧ w' = w := by
  go_enter Tryd.func28, Tryd.ntmps28
  go_wp2
  rw [run_callFunc_extern Tryd.func33 (by kernel_rfl) (by kernel_rfl) (by kernel_rfl) (e := Extern.BytealgCount.count) (by kernel_rfl), Lib.run_countString]
  simp only [Result.andThen]
  rw [Oper.upon_value]
  go_wp2
  go_ret
  exact ⟨rfl, rfl⟩
end Go.Proofs.YtnmadedmclcdnaaDoor
