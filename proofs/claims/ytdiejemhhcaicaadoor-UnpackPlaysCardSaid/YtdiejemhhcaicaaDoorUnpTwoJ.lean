/- Two decoders side by side. No program in sight; no condition. -/
import Derived.Test.YtdiejemhhcaicaaDoorGu
namespace Go.Proofs.YtdiejemhhcaicaaDoor
open Go.RowKit

/-- Two decoders, each with its blocks, none shared. -/
structure Two (w wr : World) (ga ta gb tb : Nat) (da : Bool) (ma : Int) (la : List Fd) (db : Bool) (mb : Int) (lb : List Fd) (Ba Bb : Nat) (Fa Fb : List Nat) : Prop where
  a : DecAt wr Ba Fa ga ta da ma la
  b : DecAt wr Bb Fb gb tb db mb lb
  off : ∀ k ∈ ga :: Fa, k ∉ gb :: Fb
  out : Below w.heap.size w wr
  wa : w.heap.size ≤ Ba
  wb : w.heap.size ≤ Bb
section
variable {w wr w' : World} {ga ta gb tb : Nat} {da : Bool} {ma : Int} {la : List Fd} {db : Bool} {mb : Int} {lb : List Fd} {Ba Bb : Nat} {Fa Fb : List Nat} {e : Ending} {bs : List UInt8} {room : Int}
theorem Two.below (h : Two w wr ga ta gb tb da ma la db mb lb Ba Bb Fa Fb) (hb : Below wr.heap.size wr w') : Two w w' ga ta gb tb da ma la db mb lb Ba Bb Fa Fb :=
  ⟨h.a.below hb, h.b.below hb, h.off, h.out.trans (hb.mono h.out.size), h.wa, h.wb⟩
theorem Two.flip (h : Two w wr ga ta gb tb da ma la db mb lb Ba Bb Fa Fb) : Two w wr gb tb ga ta db mb lb da ma la Bb Ba Fb Fa :=
  ⟨h.b, h.a, fun k hk hm => h.off k hm hk, h.out, h.wb, h.wa⟩
theorem Two.lt (h : Two w wr ga ta gb tb da ma la db mb lb Ba Bb Fa Fb) : ∀ k ∈ gb :: Fb, k < wr.heap.size := fun k hk => (h.b.ge_ k hk).2
/-- Behind a Decode of the first. -/
theorem Two.decoded (h : Two w wr ga ta gb tb da ma la db mb lb Ba Bb Fa Fb) (hp : DecodePost bs room Ba Fa ga ta da ma la wr e w') :
    ∃ A' n' c' F', e = .returned (.tuple #[.slice A' n' c', .int .i64 (decO bs room da ma la).2]) ∧ w'.ownsRow wr.heap.size 31 3 (.slice A' n' c') n' (flat (decO bs room da ma la).1) ∧
      Two w w' ga ta gb tb (decT bs da ma la).1 (decT bs da ma la).2.1 (decT bs da ma la).2.2 db mb lb Ba Bb F' Fb ∧ Turned (ga :: Fa) wr w' := by
  obtain ⟨A', n', c', F', he, ho, hd, ht, hk, hr⟩ := hp
  refine ⟨A', n', c', F', he, ho, ⟨hd, h.b.turned ht (fun k hk hm => h.off k hm hk), fun k hm hn => ?_, h.out.trans (ht.below (fun b hb => Nat.le_trans h.wa (h.a.ge_ b hb).1) h.out.size), h.wa, h.wb⟩, ht⟩
  rcases List.mem_cons.1 hm with rfl | hm
  · exact h.off _ (by simp) hn
  · rcases hk k hm with h1 | h1
    · exact h.off k (by simp [h1]) hn
    · have := h.lt k hn
      omega
/-- A row that was made since the second's blocks stays behind the second's Decode. -/
theorem row_kept {wq : World} (hq : ∀ k ∈ gb :: Fb, k < wq.heap.size) (ht : Turned (gb :: Fb) wr w') {n c : Nat} {A : Option Addr} {l : List Fd} (ho : wr.ownsRow wq.heap.size 31 3 (.slice A n c) n (flat l)) : Fs w' A n l :=
  Rd.turned (Rd.of_own ho) ht (fun ad e hm => by
    have h1 := (own_row_lt ho ad.block (by rw [e]; rfl)).1
    have h2 := hq _ hm
    omega)
end
/-- The four ways of a block for two rooms, the second's room being large enough. -/
theorem four_ways (bs : List UInt8) (room : Int) (dead : Bool) (most : Int) (L : List Fd) (hb : bs.length ≤ 20000) (hL : TabOk most L) :
    (dead = true ∧ decO bs room dead most L = ([], 5) ∧ decO bs 2147483647 dead most L = ([], 5) ∧ (decT bs dead most L).1 = true) ∨
    (dead = false ∧ decO bs room dead most L = ([], 2) ∧ decO bs 2147483647 dead most L = ([], 2) ∧ (decT bs dead most L).1 = true) ∨
    (∃ l : List Fd, dead = false ∧ room < (total l : Nat) ∧ total l ≤ 700000000 ∧ l.length ≤ 700000000 ∧ decO bs room dead most L = ([], 3) ∧ decO bs 2147483647 dead most L = (l, 0) ∧ (decT bs dead most L).1 = false) ∨
    (∃ l : List Fd, dead = false ∧ (total l : Nat) ≤ room ∧ total l ≤ 700000000 ∧ l.length ≤ 700000000 ∧ decO bs room dead most L = (l, 0) ∧ decO bs 2147483647 dead most L = (l, 0) ∧ (decT bs dead most L).1 = false) := by
  rcases hd : dead with _ | _
  · have hr := decR_ok bs.length (startD bs most L) (Nat.le_refl _) hL
    obtain ⟨s, k, hk⟩ : ∃ s k, decR (startD bs most L) = (s, k) := ⟨_, _, rfl⟩
    rw [hk] at hr
    have ht : total s.acc ≤ 700000000 := by
      have := hr.2.1
      simp [startD, total] at this
      simp only [total]
      omega
    have hl : s.acc.length ≤ 700000000 := by have := len_total s.acc; omega
    rcases k with _ | _
    · have h1 := decO_bad hk room
      have h2 := decO_bad hk 2147483647
      exact .inr (.inl ⟨rfl, h1.1, h2.1, by rw [h1.2]⟩)
    · have h2 := decO_ok hk (room := 2147483647) (by omega)
      by_cases hw : room < (total s.acc : Nat)
      · have h1 : decO bs room false most L = ([], 3) := by
          unfold decO
          rw [hk]
          simp only [Bool.false_eq_true, if_false, Bool.true_eq_false]
          rw [if_pos hw]
        exact .inr (.inr (.inl ⟨s.acc, rfl, hw, ht, hl, h1, h2.1, by rw [h2.2]⟩))
      · have h1 := decO_ok hk (room := room) (by omega)
        exact .inr (.inr (.inr ⟨s.acc, rfl, by omega, ht, hl, h1.1, h2.1, by rw [h2.2]⟩))
  · have h1 := decO_dead bs room most L
    have h2 := decO_dead bs 2147483647 most L
    exact .inl ⟨rfl, h1.1, h2.1, by rw [h1.2]⟩
end Go.Proofs.YtdiejemhhcaicaaDoor
