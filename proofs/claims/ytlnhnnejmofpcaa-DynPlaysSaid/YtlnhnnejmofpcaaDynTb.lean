/- The dynamic table by the blocks that it owns: F. -/
import Derived.Test.YtlnhnnejmofpcaaDynAdd
import Derived.Test.YtlnhnnejmofpcaaDynFind
namespace Go.Proofs.Ytlnhnnejmofpcaa
open Go.RowKit

/-- A table in block g whose blocks are F; it holds l. -/
def Tb (w : World) (B : Nat) (F : List Nat) (g : Nat) (most : Int) (l : List Fd) : Prop :=
  ∃ A n c, TabAt w B g most A n c l ∧ F = g :: (Value.slice A n c).ownBlock.toList
theorem Tb.turned {w w' : World} {B g : Nat} {F G : List Nat} {most : Int} {l : List Fd} (h : Tb w B F g most l) (ht : Turned G w w') (hd : ∀ k ∈ F, k ∉ G) : Tb w' B F g most l := by
  obtain ⟨A, n, c, ha, rfl⟩ := h
  exact ⟨A, n, c, ha.turned ht (hd g (by simp)) (fun k hk => hd k (by simp [hk])), rfl⟩
theorem Tb.below {w w' : World} {B g : Nat} {F : List Nat} {most : Int} {l : List Fd} (h : Tb w B F g most l) (hb : Below w.heap.size w w') : Tb w' B F g most l := by
  obtain ⟨A, n, c, ha, rfl⟩ := h
  exact ⟨A, n, c, ha.below hb, rfl⟩
theorem Tb.ge {w : World} {B g : Nat} {F : List Nat} {most : Int} {l : List Fd} (h : Tb w B F g most l) : ∀ k ∈ F, B ≤ k ∧ k < w.heap.size := by
  obtain ⟨A, n, c, ha, rfl⟩ := h
  intro k hk
  rcases List.mem_cons.1 hk with rfl | hk
  · exact ⟨ha.base, ha.blk.lt⟩
  · exact ha.own.lt k (by simpa using hk)

theorem len_tb {w : World} {B g : Nat} {F : List Nat} {most : Int} {l : List Fd} (h : Tb w B F g most l) :
    Calls Try.prog 10 #[.pointer (some ⟨g, 0, none⟩)] w fun e w' => e = .returned (.int .i64 l.length) ∧ w = w' := by
  obtain ⟨A, n, c, ha, rfl⟩ := h
  rw [ha.len]
  exact tabLen_any B g most A n c l w ha
theorem size_tb {w : World} {B g : Nat} {F : List Nat} {most : Int} {l : List Fd} (h : Tb w B F g most l) :
    Calls Try.prog 13 #[.pointer (some ⟨g, 0, none⟩)] w fun e w' => e = .returned (.int .i64 (total l : Nat)) ∧ w = w' := by
  obtain ⟨A, n, c, ha, rfl⟩ := h
  exact tabSize_any B g most A n c l w ha
theorem most_tb {w : World} {B g : Nat} {F : List Nat} {most : Int} {l : List Fd} (h : Tb w B F g most l) :
    Calls Try.prog 15 #[.pointer (some ⟨g, 0, none⟩)] w fun e w' => e = .returned (.int .i64 most) ∧ w = w' := by
  obtain ⟨A, n, c, ha, rfl⟩ := h
  exact tabMost_any B g most A n c l w ha
theorem get_tb {w : World} {B g : Nat} {F : List Nat} {most : Int} {l : List Fd} (i : Int) (h : Tb w B F g most l) (hn : l.length ≤ 1099511627776) :
    Calls Try.prog 12 #[.pointer (some ⟨g, 0, none⟩), .int .i64 i] w fun e w' => e = .returned (.tuple #[(getF l i).1.val, .bool (getF l i).2]) ∧ Below w.heap.size w w' := by
  obtain ⟨A, n, c, ha, rfl⟩ := h
  exact get_any i B g most A n c l w ha (by have := ha.len; omega)
theorem find_tb {w : World} {B g : Nat} {F : List Nat} {most : Int} {l : List Fd} (nm vl : ByteArray) (h : Tb w B F g most l) (hn : l.length ≤ 1099511627776) :
    Calls Try.prog 16 #[.pointer (some ⟨g, 0, none⟩), .string nm, .string vl] w fun e w' => e = .returned (.tuple #[.int .i64 ((findK l nm vl l.length).1 : Nat), .int .i64 ((findK l nm vl l.length).2 : Nat)]) ∧ Below w.heap.size w w' := by
  obtain ⟨A, n, c, ha, rfl⟩ := h
  rw [ha.len]
  exact find_any nm vl B g most A n c l w ha (by have := ha.len; omega)

/-- A call that leaves l in the table. -/
def TbPost (v : Value) (B : Nat) (F : List Nat) (g : Nat) (most : Int) (l : List Fd) (w : World) (e : Ending) (w' : World) : Prop :=
  ∃ F', e = .returned v ∧ Tb w' B F' g most l ∧ Turned F w w' ∧ ∀ k ∈ F', k ∈ F ∨ w.heap.size ≤ k
theorem add_tb {w : World} {B g : Nat} {F : List Nat} {most : Int} {l : List Fd} (f : Fd) (h : Tb w B F g most l) (ht : total l ≤ 1099511627776) (hf : f.size ≤ 1099511627776) (hn : l.length ≤ 1099511627776) (hB : B ≤ w.heap.size) (hm0 : 0 ≤ most) (hm1 : most ≤ 1099511627776) :
    Calls Try.prog 9 #[.pointer (some ⟨g, 0, none⟩), f.val] w (TbPost (.tuple #[]) B F g most (addL most l f) w) := by
  obtain ⟨A, n, c, ha, rfl⟩ := h
  refine (add_any f B g most A n c l w ha ht hf (by have := ha.len; omega) hB hm0 hm1).mono ?_
  rintro e w' ⟨A', n', c', rfl, h', ht', hk'⟩
  refine ⟨_, rfl, ⟨A', n', c', h', rfl⟩, ht', fun k hk => ?_⟩
  rcases List.mem_cons.1 hk with rfl | hk
  · exact .inl (by simp)
  · rcases hk' k (by simpa using hk) with h | h
    · exact .inl (by simp [h])
    · exact .inr h
def LimTb (m : Int) (B : Nat) (F : List Nat) (g : Nat) (most : Int) (l : List Fd) (w : World) (e : Ending) (w' : World) : Prop :=
  if m < 0 ∨ 4096 < m then TbPost (.int .i64 1) B F g most l w e w' else TbPost (.int .i64 0) B F g m (shr m l) w e w'
theorem limit_tb {w : World} {B g : Nat} {F : List Nat} {most : Int} {l : List Fd} (m : Int) (h : Tb w B F g most l) (ht : total l ≤ 1099511627776) (hn : l.length ≤ 1099511627776) (hB : B ≤ w.heap.size) :
    Calls Try.prog 11 #[.pointer (some ⟨g, 0, none⟩), .int .i64 m] w (LimTb m B F g most l w) := by
  obtain ⟨A, n, c, ha, rfl⟩ := h
  refine (limit_any m B g most A n c l w ha ht (by have := ha.len; omega) hB).mono ?_
  intro e w' hp
  unfold LimPost at hp
  unfold LimTb
  by_cases hbad : m < 0 ∨ 4096 < m
  · rw [if_pos hbad] at hp ⊢
    obtain ⟨rfl, rfl⟩ := hp
    exact ⟨_, rfl, ⟨A, n, c, ha, rfl⟩, Turned.refl _ _, fun k hk => .inl hk⟩
  · rw [if_neg hbad] at hp ⊢
    obtain ⟨A', n', c', rfl, h', ht', hk'⟩ := hp
    refine ⟨_, rfl, ⟨A', n', c', h', rfl⟩, ht'.mono (fun b hb => by have := List.mem_singleton.1 hb; simp [this]), fun k hk => ?_⟩
    rcases List.mem_cons.1 hk with rfl | hk
    · exact .inl (by simp)
    · exact .inr (hk' k (by simpa using hk))
def NewTb (m : Int) (w : World) (e : Ending) (w' : World) : Prop :=
  if m < 0 ∨ 4096 < m then e = .returned (.tuple #[.pointer none, .int .i64 1]) ∧ Below w.heap.size w w'
  else ∃ F, e = .returned (.tuple #[.pointer (some ⟨w.heap.size, 0, none⟩), .int .i64 0]) ∧ Tb w' w.heap.size F w.heap.size m [] ∧ Below w.heap.size w w'
theorem new_tb (m : Int) (w : World) : Calls Try.prog 8 #[.int .i64 m] w (NewTb m w) := by
  refine (newTab_any m w).mono ?_
  intro e w' hp
  unfold NewPost at hp
  unfold NewTb
  by_cases hbad : m < 0 ∨ 4096 < m
  · rw [if_pos hbad] at hp ⊢
    exact hp
  · rw [if_neg hbad] at hp ⊢
    obtain ⟨A, c, rfl, h, hb⟩ := hp
    exact ⟨_, rfl, ⟨A, 0, c, h, rfl⟩, hb⟩
end Go.Proofs.Ytlnhnnejmofpcaa
