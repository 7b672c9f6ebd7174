/- A parser and the reference's parser side by side; and pieces of bytes that came in. -/
import Derived.Test.YtakkabilpjjmgaaParRef
import Derived.Test.YtakkabilpjjmgaaFrameOpen
namespace Go.Proofs.Ytakkabilpjjmgaa
open Go.RowKit

/-- Both parsers, apart, all that they write above W. -/
structure F2 (W w : World) (ga gb : Nat) (room : Int) (l l' : List UInt8) : Prop where
  b : Below W.heap.size W w
  ne : ga ≠ gb
  ha : W.heap.size ≤ ga
  ex : ∃ A n c A' n' c', ParAt w ga room A n c l ∧ RParAt w W.heap.size gb room A' n' c' l' ∧ Off A [gb] ∧ (∀ ad, A = some ad → ad.block < w.heap.size) ∧ (∀ ad k, A = some ad → (Value.slice A' n' c').ownBlock = some k → ad.block ≠ k)

section
variable {W w w' : World} {ga gb : Nat} {room : Int} {l l' : List UInt8}
theorem F2.below (h : F2 W w ga gb room l l') (hb : Below w.heap.size w w') : F2 W w' ga gb room l l' := by
  obtain ⟨A, n, c, A', n', c', h1, h2, h3, h4, h5⟩ := h.ex
  exact ⟨h.b.trans (hb.mono h.b.size), h.ne, h.ha, A, n, c, A', n', c', h1.below hb, h2.below hb, h3, fun ad e => Nat.lt_of_lt_of_le (h4 ad e) hb.size, h5⟩
theorem F2.lt (h : F2 W w ga gb room l l') : ga < w.heap.size ∧ gb < w.heap.size := by
  obtain ⟨A, n, c, A', n', c', h1, h2, h3, h4, h5⟩ := h.ex
  exact ⟨h1.blk.lt, h2.blk.lt⟩

theorem F2.feed (h : F2 W w ga gb room l l') {A1 : Option Addr} {n1 c1 : Nat} {l1 : List UInt8} (hs : Bs w A1 n1 l1) (hn : l.length + n1 ≤ 70368744177664) :
    Calls Try.prog 16 #[.pointer (some ⟨ga, 0, none⟩), .slice A1 n1 c1] w fun e w' => e = .returned (.tuple #[]) ∧ F2 W w' ga gb room (l ++ l1) l' := by
  obtain ⟨A, n, c, A', n', c', h1, h2, h3, h4, h5⟩ := h.ex
  have hln := h1.bs.len
  refine (parFeed_any ga room A n c l A1 n1 c1 l1 w h1 hs (by omega)).mono ?_
  rintro e w' ⟨A2, c2, rfl, hp, ht, hf⟩
  have hgb := h2.blk.lt
  refine ⟨rfl, h.b.trans (ht.below (fun q hq => by have := List.mem_singleton.1 hq; subst this; exact h.ha) h.b.size), h.ne, h.ha, A2, _, c2, A', n', c', hp, h2.turned ht (fun hq => h.ne (List.mem_singleton.1 hq).symm) (fun k hk hq => ?_), fun ad e hq => ?_, fun ad e => ?_, fun ad k e hk => ?_⟩
  · have := List.mem_singleton.1 hq
    subst this
    exact h1.blk.own_ne h2.own (by decide) hk
  · have := hf ad e
    have := List.mem_singleton.1 hq
    omega
  · exact (hf ad e).2
  · have := (hf ad e).1
    have := (h2.own.lt k hk).2
    omega

/-- What Next hands back, of either parser. -/
def Got (room : Int) (l : List UInt8) (B0 : Nat) (gb : Nat) (w' : World) (e : Ending) (A1 : Option Addr) (m c1 : Nat) : Prop :=
  (nextE room l ≠ 0 ∧ e = .returned (.tuple #[fv 0 0 0 none 0 0, .int .i64 (nextE room l)]) ∧ A1 = none ∧ m = 0 ∧ c1 = 0) ∨
  (nextE room l = 0 ∧ e = .returned (.tuple #[fv (nb l 3) (nb l 4) (strI l) A1 m c1, .int .i64 0]) ∧ (m : Int) = lenI l ∧ 9 + m ≤ l.length ∧ Bs w' A1 m ((l.drop 9).take m) ∧ (∀ ad, A1 = some ad → B0 ≤ ad.block ∧ ad.block ≠ gb))

/-- What is left behind Next. -/
def restL (room : Int) (l : List UInt8) : List UInt8 := if nextE room l = 0 then l.drop (9 + (lenI l).toNat) else l

theorem F2.nextA (h : F2 W w ga gb room l l') (hn : l.length ≤ 70368744177664) :
    Calls Try.prog 17 #[.pointer (some ⟨ga, 0, none⟩)] w fun e w' => ∃ A1 m c1, Got room l w.heap.size gb w' e A1 m c1 ∧ F2 W w' ga gb room (restL room l) l' := by
  obtain ⟨A, n, c, A', n', c', h1, h2, h3, h4, h5⟩ := h.ex
  have hln := h1.bs.len
  refine (parNext_any ga room A n c l w h1 (by omega)).mono ?_
  rintro e w' (⟨he, rfl, hb⟩ | ⟨he, A1, c1, A2, c2, m, hm, hmn, rfl, hbs, hp, ht, ho1, ho2⟩)
  · refine ⟨none, 0, 0, .inl ⟨he, rfl, rfl, rfl, rfl⟩, ?_⟩
    unfold restL
    rw [if_neg he]
    exact h.below hb
  · have hgb := h2.blk.lt
    refine ⟨A1, m, c1, .inr ⟨he, rfl, hm, by omega, hbs, fun ad e => ⟨ho1 ad e, by have := ho1 ad e; omega⟩⟩, ?_⟩
    unfold restL
    rw [if_pos he, show (lenI l).toNat = m by omega]
    have hbk : ∀ ad, A2 = some ad → ∃ ad0, A = some ad0 ∧ ad0.block = ad.block := ho2
    refine ⟨h.b.trans (ht.below (fun q hq => by have := List.mem_singleton.1 hq; subst this; exact h.ha) h.b.size), h.ne, h.ha, A2, _, c2, A', n', c', hp, h2.turned ht (fun hq => h.ne (List.mem_singleton.1 hq).symm) (fun k hk hq => ?_), fun ad e hq => ?_, fun ad e => ?_, fun ad k e hk => ?_⟩
    · have := List.mem_singleton.1 hq
      subst this
      exact h1.blk.own_ne h2.own (by decide) hk
    · obtain ⟨ad0, e0, hb0⟩ := hbk ad e
      rw [← hb0] at hq
      exact h3 ad0 e0 hq
    · obtain ⟨ad0, e0, hb0⟩ := hbk ad e
      have := h4 ad0 e0
      have := ht.size
      omega
    · obtain ⟨ad0, e0, hb0⟩ := hbk ad e
      have := h5 ad0 k e0 hk
      omega

theorem F2.nextB (h : F2 W w ga gb room l l') (hn : l'.length ≤ 70368744177664) :
    Calls Try.prog 18 #[.pointer (some ⟨gb, 0, none⟩)] w fun e w' => (∃ A1 m c1, Got room l' w.heap.size gb w' e A1 m c1) ∧ F2 W w' ga gb room l (restL room l') ∧ Turned [gb] w w' := by
  obtain ⟨A, n, c, A', n', c', h1, h2, h3, h4, h5⟩ := h.ex
  have hln : l'.length = n' := by have := h2.own.1; simpa using this
  refine (rNext_any W.heap.size gb room A' n' c' l' w h2 (by omega)).mono ?_
  rintro e w' (⟨he, rfl, hb⟩ | ⟨he, A1, c1, A2, c2, m, hm, hmn, rfl, hbs, hp, ht, ho1, ho2⟩)
  · refine ⟨⟨none, 0, 0, .inl ⟨he, rfl, rfl, rfl, rfl⟩⟩, ?_, Turned.of_below hb⟩
    unfold restL
    rw [if_neg he]
    exact h.below hb
  · have hgb := h2.blk.lt
    have hga := h1.blk.lt
    have hbase := h2.base
    refine ⟨⟨A1, m, c1, .inr ⟨he, rfl, hm, by omega, hbs, fun ad e => ⟨ho1 ad e, by have := ho1 ad e; omega⟩⟩⟩, ?_, ht⟩
    unfold restL
    rw [if_pos he, show (lenI l').toNat = m by omega]
    refine ⟨h.b.trans (ht.below (fun q hq => by have := List.mem_singleton.1 hq; subst this; exact hbase) h.b.size), h.ne, h.ha, A, n, c, A2, _, c2, h1.turned ht (fun hq => h.ne (List.mem_singleton.1 hq)) h3, ⟨hp.blk, hbase, own_base hp.own hbase⟩, h3, fun ad e => ?_, fun ad k e hk => ?_⟩
    · have := h4 ad e
      have := ht.size
      omega
    · have := h4 ad e
      rcases A2 with _ | ad2
      · simp [Value.ownBlock] at hk
      · have hk2 : ad2.block = k := by
          have := hp.own.lt k hk
          rcases hp.own.2 with ⟨h9, _⟩ | ⟨g9, _, _, h9, _⟩
          · cases h9
          · injection h9 with h9
            injection h9 with h9
            subst h9
            simpa [Value.ownBlock] using hk
        have := ho2 ad2 rfl
        omega

/-- The frame that Next hands back. -/
def outF (room : Int) (l : List UInt8) : Int × Int × Int × List UInt8 := if nextE room l = 0 then (nb l 3, nb l 4, strI l, (l.drop 9).take (lenI l).toNat) else (0, 0, 0, [])
theorem Got.form {B0 : Nat} {e : Ending} {A1 : Option Addr} {m c1 : Nat} (h : Got room l B0 gb w' e A1 m c1) :
    e = .returned (.tuple #[fv (outF room l).1 (outF room l).2.1 (outF room l).2.2.1 A1 m c1, .int .i64 (nextE room l)]) ∧ Bs w' A1 m (outF room l).2.2.2 ∧ (∀ ad, A1 = some ad → B0 ≤ ad.block ∧ ad.block ≠ gb) := by
  rcases h with ⟨he, rfl, rfl, rfl, rfl⟩ | ⟨he, rfl, hm, hl, hb, ho⟩
  · unfold outF
    rw [if_neg he]
    exact ⟨rfl, Bs.nil _ _, fun _ h => by cases h⟩
  · unfold outF
    rw [if_pos he, he, show (lenI l).toNat = m by omega]
    exact ⟨rfl, hb, ho⟩
theorem restL_len (room : Int) (l : List UInt8) : (restL room l).length ≤ l.length := by
  unfold restL
  split
  · simp
  · exact Nat.le_refl _

theorem F2.left (h : F2 W w ga gb room l l') : Calls Try.prog 19 #[.pointer (some ⟨ga, 0, none⟩)] w fun e w' => e = .returned (.int .i64 (l.length : Nat)) ∧ w = w' := by
  obtain ⟨A, n, c, A', n', c', h1, h2, h3, h4, h5⟩ := h.ex
  rw [h1.bs.len]
  exact parLeft_any ga room A n c l w h1
theorem F2.cellB (h : F2 W w ga gb room l l') : ∃ A' c', Blk w gb 43 #[.int .i64 room, .slice A' l'.length c'] ∧ w.ownsRow W.heap.size 5 1 (.slice A' l'.length c') l'.length (l'.map bv) ∧ (Value.slice A' l'.length c').ownBlock ≠ some gb := by
  obtain ⟨A, n, c, A', n', c', h1, h2, h3, h4, h5⟩ := h.ex
  have hln : l'.length = n' := by have := h2.own.1; simpa using this
  rw [hln]
  exact ⟨A', c', h2.blk, h2.own, h2.blk.own_ne h2.own (by decide)⟩

/-- Bytes laid behind the reference's own. -/
theorem F2.lay (h : F2 W w ga gb room l l') {A' : Option Addr} {c' : Nat} {w2 : World} {A3 : Option Addr} {c3 m : Nat} {l1 : List UInt8} (hc : w.cell? ⟨gb, 1, none⟩ = some (.slice A' l'.length c')) (hl1 : l1.length = m)
    (ho : w2.ownsRow W.heap.size 5 1 (.slice A3 (l'.length + m) c3) (l'.length + m) ((l' ++ l1).map bv)) (hg : w.grownBy w2 (Value.slice A' l'.length c').ownBlock) (hcc : (Value.slice A3 (l'.length + m) c3).ownBlock = (Value.slice A' l'.length c').ownBlock ∨ (Value.slice A3 (l'.length + m) c3).ownBlock = some w.heap.size) :
    F2 W (w2.setCell ⟨gb, 1, none⟩ (.slice A3 (l'.length + m) c3)) ga gb room l (l' ++ l1) := by
  obtain ⟨A, n, c, A'', n', c'', h1, h2, h3, h4, h5⟩ := h.ex
  have hln : l'.length = n' := by have := h2.own.1; simpa using this
  have he := h2.blk.cell 1
  rw [hc] at he
  simp at he
  obtain ⟨rfl, hn, rfl⟩ := he
  subst hn
  have hgb := h2.blk.lt
  have hga := h1.blk.lt
  have hown := h2.own
  have hrow : ∀ k, (Value.slice A' l'.length c').ownBlock = some k → W.heap.size ≤ k := fun k hk => (hown.lt k hk).1
  have ht : Turned [gb] w2 (w2.setCell ⟨gb, 1, none⟩ (.slice A3 (l'.length + m) c3)) := (Turned.refl _ _).setCell (by simp) _
  have htw : Turned ((Value.slice A' l'.length c').ownBlock.toList) w w2 := (Turned.refl _ _).grown hg (fun k hk => .inl (by simp [hk]))
  have hne : ∀ k, (Value.slice A3 (l'.length + m) c3).ownBlock = some k → k ≠ gb := fun k hk e => by
    subst e
    rcases hcc with h9 | h9
    · exact h2.blk.own_ne hown (by decide) (h9.symm.trans hk)
    · rw [hk] at h9
      injection h9 with h9
      omega
  have hb2 := h.b.trans (htw.below (B := W.heap.size) (fun q hq => by simp [Option.mem_toList] at hq; exact hrow q hq) h.b.size)
  refine ⟨hb2.trans (ht.below (fun q hq => by have := List.mem_singleton.1 hq; subst this; exact h2.base) hb2.size), h.ne, h.ha, A, n, c, A3, l'.length + m, c3, ?_, ⟨?_, h2.base, ?_⟩, h3, fun ad e => ?_, fun ad k e hk => ?_⟩
  · refine (h1.turned htw (fun hq => ?_) (fun ad e hq => ?_)).turned ht (fun hq => h.ne (List.mem_singleton.1 hq)) h3
    · simp [Option.mem_toList] at hq
      exact h1.blk.own_ne hown (by decide) hq
    · simp [Option.mem_toList] at hq
      exact h5 ad _ e hq rfl
  · have hB := (h2.blk.turned htw (fun hq => by simp [Option.mem_toList] at hq; exact h2.blk.own_ne hown (by decide) hq)).set_ 1 (.slice A3 (l'.length + m) c3)
    simpa using hB
  · exact own_turned ho ht (fun k hk hq => hne k hk (List.mem_singleton.1 hq))
  · have := h4 ad e
    have := htw.size
    simp [World.setCell]
    omega
  · rcases hcc with h9 | h9
    · exact h5 ad k e (h9.symm.trans hk)
    · have := h4 ad e
      rw [hk] at h9
      injection h9 with h9
      omega
end
end Go.Proofs.Ytakkabilpjjmgaa
