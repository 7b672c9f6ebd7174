/- Two pipes side by side, the given one in g and the reference's in h: each call in these words. -/
import Derived.Test.YtdplkknlpfdljaaPipeInv
import Derived.Test.YtdplkknlpfdljaaPipeRef
namespace Go.Proofs.Ytdplkknlpfdljaa
open Go.RowKit

structure P2 (W w : World) (g h : Nat) (r : Int) (na : Nat) (la : List UInt8) (ia oa : Int) (nb : Nat) (lb : List UInt8) (ib ob : Int) : Prop where
  all : ∃ PA pc QA qc, Below W.heap.size W w ∧ PipeAt 44 w W.heap.size g r PA na pc la ia oa ∧ PipeAt 39 w W.heap.size h r QA nb qc lb ib ob ∧ g ≠ h ∧ Apart (.slice PA na pc) (.slice QA nb qc)

section
variable {W w w' : World} {g h : Nat} {r : Int} {na : Nat} {la : List UInt8} {ia oa : Int} {nb : Nat} {lb : List UInt8} {ib ob : Int}
theorem P2.b (hp : P2 W w g h r na la ia oa nb lb ib ob) : Below W.heap.size W w := by
  obtain ⟨_, _, _, _, h1, _⟩ := hp.all
  exact h1
theorem P2.below (hp : P2 W w g h r na la ia oa nb lb ib ob) (hb : Below w.heap.size w w') : P2 W w' g h r na la ia oa nb lb ib ob := by
  obtain ⟨PA, pc, QA, qc, h1, h2, h3, h4⟩ := hp.all
  exact ⟨PA, pc, QA, qc, h1.trans (hb.mono h1.size), h2.below hb, h3.below hb, h4⟩
theorem P2.lt (hp : P2 W w g h r na la ia oa nb lb ib ob) : g < w.heap.size ∧ h < w.heap.size := by
  obtain ⟨PA, pc, QA, qc, h1, h2, h3, h4⟩ := hp.all
  exact ⟨h2.blk.lt, h3.blk.lt⟩
theorem P2.cellsB (hp : P2 W w g h r na la ia oa nb lb ib ob) : ∃ QA qc, w.cell? ⟨h, 1, none⟩ = some (.slice QA nb qc) ∧ w.cell? ⟨h, 2, none⟩ = some (.int .i64 ib) ∧ w.cell? ⟨h, 3, none⟩ = some (.int .i64 ob) := by
  obtain ⟨PA, pc, QA, qc, h1, h2, h3, h4⟩ := hp.all
  exact ⟨QA, qc, h3.c0.2.1, h3.c0.2.2.1, h3.c0.2.2.2.1⟩
theorem P2.fits (hp : P2 W w g h r na la ia oa nb lb ib ob) : (na : Int) ≤ r ∧ la.length = na ∧ lb.length = nb := by
  obtain ⟨PA, pc, QA, qc, h1, h2, h3, h4⟩ := hp.all
  exact ⟨h2.fits, h2.len, h3.len⟩
theorem P2.lenA (hp : P2 W w g h r na la ia oa nb lb ib ob) :
    Calls Try.prog 12 #[.pointer (some ⟨g, 0, none⟩)] w fun e w' => e = .returned (.int .i64 na) ∧ w = w' := by
  obtain ⟨PA, pc, QA, qc, h1, h2, h3, h4⟩ := hp.all
  exact len_any _ _ _ _ _ _ _ _ _ _ h2
theorem P2.inA (hp : P2 W w g h r na la ia oa nb lb ib ob) :
    Calls Try.prog 14 #[.pointer (some ⟨g, 0, none⟩)] w fun e w' => e = .returned (.int .i64 ia) ∧ w = w' := by
  obtain ⟨PA, pc, QA, qc, h1, h2, h3, h4⟩ := hp.all
  exact in_any _ _ _ _ _ _ _ _ _ _ h2
theorem P2.outA (hp : P2 W w g h r na la ia oa nb lb ib ob) :
    Calls Try.prog 22 #[.pointer (some ⟨g, 0, none⟩)] w fun e w' => e = .returned (.int .i64 oa) ∧ w = w' := by
  obtain ⟨PA, pc, QA, qc, h1, h2, h3, h4⟩ := hp.all
  exact out_any _ _ _ _ _ _ _ _ _ _ h2
theorem P2.freeA (hp : P2 W w g h r na la ia oa nb lb ib ob) (hr : r ≤ 9223372036854775807) :
    Calls Try.prog 13 #[.pointer (some ⟨g, 0, none⟩)] w fun e w' => e = .returned (.int .i64 (r - na)) ∧ Below w.heap.size w w' := by
  obtain ⟨PA, pc, QA, qc, h1, h2, h3, h4⟩ := hp.all
  exact free_any _ _ _ _ _ _ _ _ _ _ h2 hr
theorem P2.lookA (hp : P2 W w g h r na la ia oa nb lb ib ob) (hn : na ≤ 70368744177664) (m : Int) :
    Calls Try.prog 19 #[.pointer (some ⟨g, 0, none⟩), .int .i64 m] w fun e w' => ∃ A' c', e = .returned (.slice A' (lookN m na) c') ∧ Bs w' A' (lookN m na) (la.take (lookN m na)) ∧ Below w.heap.size w w' := by
  obtain ⟨PA, pc, QA, qc, h1, h2, h3, h4⟩ := hp.all
  refine (look_any m _ _ _ _ _ _ _ _ _ _ h2 hn).mono ?_
  rintro e w' ⟨A', c', rfl, ho, hb⟩
  exact ⟨A', c', rfl, Bs.of_own ho, hb⟩
theorem P2.takeA (hp : P2 W w g h r na la ia oa nb lb ib ob) (hn : na ≤ 70368744177664) (ho : 0 ≤ oa) (ho' : oa ≤ 70368744177664) (m : Int) :
    Calls Try.prog 10 #[.pointer (some ⟨g, 0, none⟩), .int .i64 m] w fun e w' => ∃ A' c', e = .returned (.slice A' (lookN m na) c') ∧ Bs w' A' (lookN m na) (la.take (lookN m na)) ∧ Off A' [g, h] ∧
      P2 W w' g h r (na - lookN m na) (la.drop (lookN m na)) ia (oa + lookN m na) nb lb ib ob ∧ Turned [g] w w' := by
  have hlt := hp.lt
  obtain ⟨PA, pc, QA, qc, h1, h2, h3, h4, h5⟩ := hp.all
  refine (take_any m _ _ _ _ _ _ _ _ _ _ h2 hn ho ho' h1.size).mono ?_
  rintro e w' ⟨A', c', A2, c2, rfl, hx, hq, ht, hf⟩
  have hg2 := h2.base
  have hg3 := h3.base
  have hb := h1.trans (ht.below (B := W.heap.size) (fun b hb => by have := List.mem_singleton.1 hb; omega) h1.size)
  refine ⟨A', c', rfl, Bs.of_own hx, fun ad e => ?_, ⟨A2, c2, QA, qc, hb, hq, ?_, h4, fun b hb1 hb2 => ?_⟩, ht⟩
  · subst e
    have := (hx.lt ad.block rfl).1
    simp
    omega
  · exact h3.turned ht (fun hm => by have := List.mem_singleton.1 hm; omega) (fun k hk hm => by
      have := List.mem_singleton.1 hm
      subst this
      exact h2.blk.own_ne h3.own (by decide) hk)
  · have := hf b hb1; have := (h3.own.lt b hb2).2; omega
theorem P2.putA (hp : P2 W w g h r na la ia oa nb lb ib ob) {X : Option Addr} {n1 c1 : Nat} {l1 : List UInt8} (hs : Bs w X n1 l1) (hc1 : n1 ≤ c1) (hn : na + n1 ≤ 70368744177664) (hi : 0 ≤ ia) (hi' : ia ≤ 70368744177664) (hr : r ≤ 9223372036854775807) :
    Calls Try.prog 9 #[.pointer (some ⟨g, 0, none⟩), .slice X n1 c1] w fun e w' => e = .returned (.int .i64 (putN n1 r na)) ∧ P2 W w' g h r (na + putN n1 r na) (la ++ l1.take (putN n1 r na)) (ia + putN n1 r na) oa nb lb ib ob ∧ ∀ q t cs, 5 ≠ t → q ≠ g → Blk w q t cs → Blk w' q t cs := by
  have hlt := hp.lt
  obtain ⟨PA, pc, QA, qc, h1, h2, h3, h4, h5⟩ := hp.all
  refine (put_any X n1 c1 l1 _ _ _ _ _ _ _ _ _ _ h2 hs hc1 hn hi hi' h1.size hr).mono ?_
  rintro e w' ⟨A2, c2, rfl, hq, ht, hf⟩
  have hF : ∀ q ∈ g :: (Value.slice PA na pc).ownBlock.toList, q = g ∨ (Value.slice PA na pc).ownBlock = some q := fun q hq => by
    simpa [Option.mem_toList] using hq
  have hW : ∀ q ∈ g :: (Value.slice PA na pc).ownBlock.toList, W.heap.size ≤ q := fun q hq => by
    rcases hF q hq with rfl | hq
    · exact h2.base
    · exact (h2.own.lt q hq).1
  refine ⟨rfl, ⟨A2, c2, QA, qc, h1.trans (ht.below hW h1.size), hq, ?_, h4, fun b hb1 hb2 => ?_⟩, fun q t cs ht2 hq hB => hB.turned ht fun hm => by
    rcases hF _ hm with hm | hm
    · exact hq hm
    · exact hB.own_ne h2.own ht2 hm⟩
  · exact h3.turned ht (fun hm => by
      rcases hF _ hm with hm | hm
      · omega
      · exact h3.blk.own_ne h2.own (by decide) hm) (fun k hk hm => by
      rcases hF _ hm with rfl | hm
      · exact h2.blk.own_ne h3.own (by decide) hk
      · exact h5 k hm hk)
  · rcases hf b hb1 with h6 | h6
    · exact h5 b h6 hb2
    · have := (h3.own.lt b hb2).2; omega
theorem P2.freeB (hp : P2 W w g h r na la ia oa nb lb ib ob) (hr : r ≤ 9223372036854775807) :
    Calls Try.prog 21 #[.pointer (some ⟨h, 0, none⟩)] w fun e w' => e = .returned (.int .i64 (r - nb)) ∧ Below w.heap.size w w' := by
  obtain ⟨PA, pc, QA, qc, h1, h2, h3, h4⟩ := hp.all
  exact rfree_any _ _ _ _ _ _ _ _ _ _ h3 hr
theorem P2.lookB (hp : P2 W w g h r na la ia oa nb lb ib ob) (hn : nb ≤ 70368744177664) (m : Int) :
    Calls Try.prog 20 #[.pointer (some ⟨h, 0, none⟩), .int .i64 m] w fun e w' => ∃ A' c', e = .returned (.slice A' (lookN m nb) c') ∧ Bs w' A' (lookN m nb) (lb.take (lookN m nb)) ∧ Below w.heap.size w w' := by
  obtain ⟨PA, pc, QA, qc, h1, h2, h3, h4⟩ := hp.all
  refine (rlook_any m _ _ _ _ _ _ _ _ _ _ h3 hn).mono ?_
  rintro e w' ⟨A', c', rfl, ho, hb⟩
  exact ⟨A', c', rfl, Bs.of_own ho, hb⟩
theorem P2.takeB (hp : P2 W w g h r na la ia oa nb lb ib ob) (hn : nb ≤ 70368744177664) (ho : 0 ≤ ob) (ho' : ob ≤ 70368744177664) (m : Int) :
    Calls Try.prog 18 #[.pointer (some ⟨h, 0, none⟩), .int .i64 m] w fun e w' => ∃ A' c', e = .returned (.slice A' (lookN m nb) c') ∧ Bs w' A' (lookN m nb) (lb.take (lookN m nb)) ∧ Off A' [g, h] ∧
      P2 W w' g h r na la ia oa (nb - lookN m nb) (lb.drop (lookN m nb)) ib (ob + lookN m nb) ∧ Turned [h] w w' := by
  have hlt := hp.lt
  obtain ⟨PA, pc, QA, qc, h1, h2, h3, h4, h5⟩ := hp.all
  refine (rtake_any m _ _ _ _ _ _ _ _ _ _ h3 hn ho ho' h1.size).mono ?_
  rintro e w' ⟨A', c', A2, c2, rfl, hx, hq, ht, hf⟩
  have hg2 := h2.base
  have hg3 := h3.base
  have hb := h1.trans (ht.below (B := W.heap.size) (fun b hb => by have := List.mem_singleton.1 hb; omega) h1.size)
  refine ⟨A', c', rfl, Bs.of_own hx, fun ad e => ?_, ⟨PA, pc, A2, c2, hb, ?_, hq, h4, fun b hb1 hb2 => ?_⟩, ht⟩
  · subst e
    have := (hx.lt ad.block rfl).1
    simp
    omega
  · exact h2.turned ht (fun hm => by have := List.mem_singleton.1 hm; omega) (fun k hk hm => by
      have := List.mem_singleton.1 hm
      subst this
      exact h3.blk.own_ne h2.own (by decide) hk)
  · have := hf b hb2; have := (h2.own.lt b hb1).2; omega
theorem P2.putB (hp : P2 W w g h r na la ia oa nb lb ib ob) {X : Option Addr} {n1 c1 : Nat} {l1 : List UInt8} (hs : Bs w X n1 l1) (hc1 : n1 ≤ c1) (hn : nb + n1 ≤ 70368744177664) (hi : 0 ≤ ib) (hi' : ib ≤ 70368744177664) (hr : r ≤ 9223372036854775807) :
    Calls Try.prog 17 #[.pointer (some ⟨h, 0, none⟩), .slice X n1 c1] w fun e w' => e = .returned (.int .i64 (putN n1 r nb)) ∧ P2 W w' g h r na la ia oa (nb + putN n1 r nb) (lb ++ l1.take (putN n1 r nb)) (ib + putN n1 r nb) ob ∧ ∀ q t cs, 5 ≠ t → q ≠ h → Blk w q t cs → Blk w' q t cs := by
  have hlt := hp.lt
  obtain ⟨PA, pc, QA, qc, h1, h2, h3, h4, h5⟩ := hp.all
  refine (rput_any X n1 c1 l1 _ _ _ _ _ _ _ _ _ _ h3 hs hc1 hn hi hi' h1.size hr).mono ?_
  rintro e w' ⟨A2, c2, rfl, hq, ht, hf⟩
  have hF : ∀ q ∈ h :: (Value.slice QA nb qc).ownBlock.toList, q = h ∨ (Value.slice QA nb qc).ownBlock = some q := fun q hq => by
    simpa [Option.mem_toList] using hq
  have hW : ∀ q ∈ h :: (Value.slice QA nb qc).ownBlock.toList, W.heap.size ≤ q := fun q hq => by
    rcases hF q hq with rfl | hq
    · exact h3.base
    · exact (h3.own.lt q hq).1
  refine ⟨rfl, ⟨PA, pc, A2, c2, h1.trans (ht.below hW h1.size), ?_, hq, h4, fun b hb1 hb2 => ?_⟩, fun q t cs ht2 hq hB => hB.turned ht fun hm => by
    rcases hF _ hm with hm | hm
    · exact hq hm
    · exact hB.own_ne h3.own ht2 hm⟩
  · exact h2.turned ht (fun hm => by
      rcases hF _ hm with hm | hm
      · omega
      · exact h2.blk.own_ne h3.own (by decide) hm) (fun k hk hm => by
      rcases hF _ hm with rfl | hm
      · exact h3.blk.own_ne h2.own (by decide) hk
      · exact h5 k hk hm)
  · rcases hf b hb2 with h6 | h6
    · exact h5 b hb1 h6
    · have := (h2.own.lt b hb1).2; omega
end
end Go.Proofs.Ytdplkknlpfdljaa
