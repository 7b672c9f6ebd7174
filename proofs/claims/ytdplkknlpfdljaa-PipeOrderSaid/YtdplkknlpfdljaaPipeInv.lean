/- What holds while a pipe is fed out of one list and emptied into a slice of the caller's own; the pipe's calls in these words. -/
import Derived.Test.YtdplkknlpfdljaaPipeFull
namespace Go.Proofs.Ytdplkknlpfdljaa
open Go.RowKit

def Apart (v v' : Value) : Prop := ∀ b, v.ownBlock = some b → v'.ownBlock ≠ some b

theorem PipeAt.rebase {t : TypeId} {w : World} {B B' g : Nat} {room : Int} {A : Option Addr} {n c : Nat} {l : List UInt8} {i o : Int} (h : PipeAt t w B g room A n c l i o) (hB : B' ≤ B) : PipeAt t w B' g room A n c l i o :=
  ⟨h.blk, Nat.le_trans hB h.base, own_base h.own hB, h.fits⟩
theorem PipeAt.len {t : TypeId} {w : World} {B g : Nat} {room : Int} {A : Option Addr} {n c : Nat} {l : List UInt8} {i o : Int} (h : PipeAt t w B g room A n c l i o) : l.length = n := by
  have := h.own.1; simpa using this
/-- A row of bytes of the caller's own survives what a pipe's call does to memory. -/
theorem PipeAt.spare {t : TypeId} {w w' : World} {B g : Nat} {room : Int} {A : Option Addr} {n c : Nat} {l : List UInt8} {i o : Int} (h : PipeAt t w B g room A n c l i o) (ht : 5 ≠ t) {F : List Nat} (hT : Turned F w w')
    (hF : ∀ k ∈ F, k = g ∨ (Value.slice A n c).ownBlock = some k) {base size m : Nat} {v : Value} {xs : List Value} (ho : w.ownsRow base 5 size v m xs) (ha : Apart v (.slice A n c)) : w'.ownsRow base 5 size v m xs :=
  own_turned ho hT (fun k hk hkF => by
    rcases hF k hkF with rfl | h1
    · exact h.blk.own_ne ho ht hk
    · exact ha k hk h1)

def PInv (W w : World) (g h : Nat) (r : Int) (l : List UInt8) (a : Nat) (GA : Option Addr) (m gc : Nat) : Prop :=
  ∃ gl PA pn pc pl, Below W.heap.size W w ∧ w.ownsRow W.heap.size 5 1 (.slice GA m gc) m (gl.map bv) ∧ PipeAt 44 w W.heap.size g r PA pn pc pl a m ∧ gl ++ pl = l.take a ∧
    PipeAt 44 w W.heap.size h r none 0 0 [] 0 0 ∧ g ≠ h ∧ Apart (.slice GA m gc) (.slice PA pn pc)

theorem PInv.below {W w w' : World} {g h : Nat} {r : Int} {l : List UInt8} {a : Nat} {GA : Option Addr} {m gc : Nat} (hi : PInv W w g h r l a GA m gc) (hb : Below w.heap.size w w') : PInv W w' g h r l a GA m gc := by
  obtain ⟨gl, PA, pn, pc, pl, h1, h2, h3, h4, h5, h6⟩ := hi
  exact ⟨gl, PA, pn, pc, pl, h1.trans (hb.mono h1.size), own_below h2 hb, h3.below hb, h4, h5.below hb, h6⟩

theorem PInv.put {W w : World} {g h : Nat} {r : Int} {l : List UInt8} {a : Nat} {GA : Option Addr} {m gc : Nat} (hi : PInv W w g h r l a GA m gc) (hl : l.length ≤ 20000) (hr : r ≤ 9223372036854775807) (ha : a ≤ l.length)
    {X : Option Addr} {e xc : Nat} (hx : Bs w X (e - a) ((l.take e).drop a)) (hae : a ≤ e) (he : e ≤ l.length) (hxc : e - a ≤ xc) :
    Calls Try.prog 9 #[.pointer (some ⟨g, 0, none⟩), .slice X (e - a) xc] w fun v w' => ∃ k, v = .returned (.int .i64 ((k : Nat) : Int)) ∧ k ≤ e - a ∧ PInv W w' g h r l (a + k) GA m gc := by
  obtain ⟨gl, PA, pn, pc, pl, h1, h2, h3, h4, h5, h6, h7⟩ := hi
  have hlen : gl.length + pl.length = a := by
    have := congrArg List.length h4
    rw [List.length_append, List.length_take] at this
    omega
  have hpl := h3.len
  refine (put_any X (e - a) xc _ _ g r PA pn pc pl a m w h3 hx hxc (by omega) (by omega) (by omega) h1.size hr).mono ?_
  generalize hk : putN (e - a) r pn = k
  have hke : k ≤ e - a := by rw [← hk]; exact putN_le _ _ _
  rintro v w' ⟨A2, c2, rfl, hp, ht, hn⟩
  have hg := h3.base
  have hF : ∀ q ∈ g :: (Value.slice PA pn pc).ownBlock.toList, q = g ∨ (Value.slice PA pn pc).ownBlock = some q := fun q hq => by
    simpa [Option.mem_toList] using hq
  have hW : ∀ q ∈ g :: (Value.slice PA pn pc).ownBlock.toList, W.heap.size ≤ q := fun q hq => by
    rcases hF q hq with rfl | hq
    · exact hg
    · exact (h3.own.lt q hq).1
  refine ⟨k, rfl, hke, gl, A2, pn + k, c2, pl ++ ((l.take e).drop a).take k, h1.trans (ht.below hW h1.size), h3.spare (by decide) ht hF h2 h7, ?_, ?_, ?_, h6, ?_⟩
  · rw [show ((a + k : Nat) : Int) = (a : Int) + k by omega]
    exact hp
  · rw [← List.append_assoc, h4, ← List.take_append_drop a (l.take (a + k)), List.take_take, Nat.min_eq_left (by omega), List.take_drop, List.take_take]
    rw [Nat.min_eq_left (by omega)]
  · exact h5.turned ht (fun hq => by
      rcases hF h hq with hq | hq
      · exact h6 hq.symm
      · exact h5.blk.own_ne h3.own (by decide) hq) (fun q hq => by simp [Value.ownBlock] at hq)
  · intro b hb hb2
    rcases hn b hb2 with h8 | h8
    · exact h7 b hb h8
    · have := (h2.lt b hb).2
      omega

theorem PInv.take {W w : World} {g h : Nat} {r : Int} {l : List UInt8} {a : Nat} {GA : Option Addr} {m gc : Nat} (hi : PInv W w g h r l a GA m gc) (hl : l.length ≤ 20000) (ha : a ≤ l.length) (v : Int) :
    Calls Try.prog 10 #[.pointer (some ⟨g, 0, none⟩), .int .i64 v] w fun e w' => ∃ A' t c', ∃ gl xs : List UInt8, e = .returned (.slice A' t c') ∧ Rd w' 1 A' t (xs.map bv) ∧ m + t ≤ a ∧ W.heap.size ≤ w'.heap.size ∧
      w'.ownsRow W.heap.size 5 1 (.slice GA m gc) m (gl.map bv) ∧ Below W.heap.size W w' ∧ (a - m ≤ v.toNat → m + t = a) ∧
      ∀ A2 c2 w2, w2.ownsRow W.heap.size 5 1 (.slice A2 (m + t) c2) (m + t) (gl.map bv ++ xs.map bv) → w'.grownBy w2 (Value.slice GA m gc).ownBlock →
        ((Value.slice A2 (m + t) c2).ownBlock = (Value.slice GA m gc).ownBlock ∨ (Value.slice A2 (m + t) c2).ownBlock = some w'.heap.size) → PInv W w2 g h r l a A2 (m + t) c2 := by
  obtain ⟨gl, PA, pn, pc, pl, h1, h2, h3, h4, h5, h6, h7⟩ := hi
  have hlen : gl.length + pl.length = a := by
    have := congrArg List.length h4
    rw [List.length_append, List.length_take] at this
    omega
  have hpl := h3.len
  have hgl : gl.length = m := by have := h2.1; simpa using this
  refine (take_any v _ g r PA pn pc pl a m w h3 (by omega) (by omega) (by omega) h1.size).mono ?_
  have hll := lookN_le v pn
  have hli := lookN_int v pn
  generalize hk : lookN v pn = t at hll hli ⊢
  rintro e w' ⟨A', c', A2, c2, rfl, hx, hp, ht, hn⟩
  have hg := h3.base
  have hF : ∀ q ∈ [g], q = g ∨ (Value.slice PA pn pc).ownBlock = some q := fun q hq => .inl (by simpa using hq)
  have hb := h1.trans (ht.below (B := W.heap.size) (fun q hq => by have := List.mem_singleton.1 hq; omega) h1.size)
  have ho := h3.spare (by decide) ht hF h2 h7
  have hne : Apart (.slice GA m gc) (.slice A2 (pn - t) c2) := fun b hb hb2 => by
    have := hn b hb2
    have := (h2.lt b hb).2
    omega
  refine ⟨A', t, c', gl, pl.take t, rfl, Rd.of_own hx, by omega, hb.size, ho, hb, by omega, fun A3 c3 w3 ho3 hg3 hc3 => ?_⟩
  have hq5 := h5.turned ht (fun hq => h6 (List.mem_singleton.1 hq).symm) (fun q hq => by simp [Value.ownBlock] at hq)
  refine ⟨gl ++ pl.take t, A2, pn - t, c2, pl.drop t, hb.grown hg3 hb.size (fun q hq => (ho.lt q hq).1), by rw [List.map_append]; exact ho3, ?_, ?_, ?_, h6, ?_⟩
  · refine ⟨hp.blk.grown hg3 (fun e => hp.blk.own_ne ho (by decide) e.symm), hp.base, hp.own.kept hg3 ?_, hp.fits⟩
    rcases hv : (Value.slice A2 (pn - t) c2).ownBlock with _ | b
    · exact .inl rfl
    · exact .inr fun e => hne b e.symm hv
  · rw [List.append_assoc, List.take_append_drop, h4]
  · exact ⟨hq5.blk.grown hg3 (fun e => hq5.blk.own_ne ho (by decide) e.symm), hq5.base, World.ownsRow_nil _ _ _ _, hq5.fits⟩
  · intro b hb hb2
    rcases hc3 with h8 | h8
    · exact hne b (by rw [← h8]; exact hb) hb2
    · have := (hp.own.lt b hb2).2
      rw [hb] at h8
      injection h8 with h8
      omega

theorem PInv.facts {W w : World} {g h : Nat} {r : Int} {l : List UInt8} {a : Nat} {GA : Option Addr} {m gc : Nat} (hi : PInv W w g h r l a GA m gc) (ha : a ≤ l.length) : m ≤ a ∧ (a : Int) - m ≤ r ∧ Below W.heap.size W w ∧ ∃ gl : List UInt8, w.ownsRow W.heap.size 5 1 (.slice GA m gc) m (gl.map bv) := by
  obtain ⟨gl, PA, pn, pc, pl, h1, h2, h3, h4, h5, h6, h7⟩ := hi
  have hlen : gl.length + pl.length = a := by
    have := congrArg List.length h4
    rw [List.length_append, List.length_take] at this
    omega
  have hpl := h3.len
  have hgl : gl.length = m := by have := h2.1; simpa using this
  have := h3.fits
  exact ⟨by omega, by omega, h1, gl, h2⟩

theorem PInv.done {W w : World} {g h : Nat} {r : Int} {l : List UInt8} {a : Nat} {GA : Option Addr} {gc : Nat} (hi : PInv W w g h r l a GA a gc) (ha : a ≤ l.length) :
    ∃ PA pc, Bs w GA a (l.take a) ∧ PipeAt 44 w W.heap.size g r PA 0 pc [] a a ∧ PipeAt 44 w W.heap.size h r none 0 0 [] 0 0 ∧ Below W.heap.size W w := by
  obtain ⟨gl, PA, pn, pc, pl, h1, h2, h3, h4, h5, h6, h7⟩ := hi
  have hlen : gl.length + pl.length = a := by
    have := congrArg List.length h4
    rw [List.length_append, List.length_take] at this
    omega
  have hpl := h3.len
  have hgl : gl.length = a := by have := h2.1; simpa using this
  have h0 : pn = 0 := by omega
  subst h0
  have : pl = [] := List.eq_nil_of_length_eq_zero (by omega)
  subst this
  rw [List.append_nil] at h4
  subst h4
  exact ⟨PA, pc, Bs.of_own h2, h3, h5, h1⟩

theorem PInv.start {W w : World} {g h : Nat} {r : Int} {l : List UInt8} {Bp Bq : Nat} (hb : Below W.heap.size W w) (hp : PipeAt 44 w Bp g r none 0 0 [] 0 0) (hq : PipeAt 44 w Bq h r none 0 0 [] 0 0) (hBp : W.heap.size ≤ Bp) (hBq : W.heap.size ≤ Bq) (hgh : g ≠ h) :
    PInv W w g h r l 0 none 0 0 :=
  ⟨[], none, 0, 0, [], hb, World.ownsRow_nil _ _ _ _, hp.rebase hBp, by simp, hq.rebase hBq, hgh, fun b hb => by simp [Value.ownBlock] at hb⟩

end Go.Proofs.Ytdplkknlpfdljaa
