/- FrameBack's plain half: where a parser stands among the frames that were put. And the parser's state beside a row of bytes. -/
import Derived.Test.YtakkabilpjjmgaaFrameEnc
import Derived.Test.YtakkabilpjjmgaaFramePuts
namespace Go.Proofs.Ytakkabilpjjmgaa
open Go.RowKit

/-- The first j frames fit into the room, and the next one, if any, does not. -/
structure Many (fs : List Fr) (room : Int) (j : Nat) : Prop where
  le : j ≤ fs.length
  fit : ∀ q x, q < j → fs[q]? = some x → (x.n : Int) ≤ room
  end_ : j = fs.length ∨ ∃ x, fs[j]? = some x ∧ room < (x.n : Int)

theorem at_bound {fs : List Fr} {got m : Nat} (h : (enc (fs.take got)).length + m ≤ (enc fs).length) : m ≤ (enc (fs.drop got)).length := by
  have := enc_split fs got
  omega
theorem At_len {fs : List Fr} {got m : Nat} (h : (enc (fs.take got)).length + m ≤ (enc fs).length) : (At fs got m).length = m := by
  unfold At
  rw [List.length_take]
  have := at_bound h
  omega
theorem At_zero (fs : List Fr) : At fs 0 0 = [] := by simp [At]

structure Nx (fs : List Fr) (got m : Nat) (j : Nat) (x : Fr) : Prop where
  at_ : fs[got]? = some x
  lt : got < j
  le : 9 + x.n ≤ m
  kind : nb (At fs got m) 3 = x.k
  flags : nb (At fs got m) 4 = x.f
  str : strI (At fs got m) = x.s
  len : lenI (At fs got m) = x.n
  body : ((At fs got m).drop 9).take x.n = x.l
  rest : (At fs got m).drop (9 + x.n) = At fs (got + 1) (m - (9 + x.n))
  pos : (enc (fs.take (got + 1))).length + (m - (9 + x.n)) = (enc (fs.take got)).length + m

theorem bk_next {fs : List Fr} {room : Int} {j got m : Nat} (hok : ∀ x ∈ fs, OkF x) (hm : Many fs room j) (hg : got ≤ j) (hp : (enc (fs.take got)).length + m ≤ (enc fs).length) (h0 : nextE room (At fs got m) = 0) :
    ∃ x, Nx fs got m j x := by
  rcases hx : fs[got]? with _ | x
  · exfalso
    have hd : fs.drop got = [] := List.drop_of_length_le (by have := List.getElem?_eq_none_iff.1 hx; omega)
    unfold At at h0
    rw [hd] at h0
    simp [enc, nextE] at h0
  · have ho := hok x (List.mem_of_getElem? hx)
    have hb := at_bound hp
    rw [drop_cons hx, enc_cons, List.length_append, ho.size] at hb
    have hroom : (x.n : Int) ≤ room ∧ 9 + x.n ≤ m := by
      rw [At_cons hx] at h0
      by_cases h9 : m < 9
      · rw [pref_few ho _ room h9] at h0; omega
      · by_cases hr : room < x.n
        · rw [pref_long ho _ (by omega) (by omega) hr] at h0; omega
        · by_cases hs : m < 9 + x.n
          · rw [pref_short ho _ (by omega) (by omega) (by omega) hs] at h0; omega
          · omega
    obtain ⟨hr, hs⟩ := hroom
    obtain ⟨p0, p1, p2, p3, p4, p5⟩ := pref_ok ho (enc (fs.drop (got + 1))) (m := m) (room := room) (by omega) hr hs
    refine ⟨x, hx, ?_, hs, ?_, ?_, ?_, ?_, ?_, ?_, ?_⟩
    · rcases Nat.lt_or_ge got j with h1 | h1
      · exact h1
      · obtain rfl : got = j := by omega
        rcases hm.end_ with h2 | ⟨y, h2, h3⟩
        · have := (List.getElem?_eq_some_iff.1 hx).1
          omega
        · rw [hx] at h2
          injection h2 with h2
          subst h2
          omega
    · rw [At_cons hx]; exact p1
    · rw [At_cons hx]; exact p2
    · rw [At_cons hx]; exact p3
    · rw [At_cons hx]; exact pref_lenI ho _ (by omega)
    · rw [At_cons hx]; exact p4
    · rw [At_cons hx]; exact p5
    · rw [enc_take_succ hx ho]; omega

def last3 : List UInt8 := [1, 2, 3]
theorem bk_end {fs : List Fr} {room : Int} {j got m : Nat} (hok : ∀ x ∈ fs, OkF x) (hm : Many fs room j) (hg : got ≤ j) (hp : (enc (fs.take got)).length + m = (enc fs).length) (h0 : nextE room (At fs got m) ≠ 0) :
    got = j ∧ ((j = fs.length ∧ (At fs got m).length = 0 ∧ nextE room (At fs got m) = 4) ∨ (j < fs.length ∧ nextE room (At fs got m) = 3 ∧ nextE room (At fs got m ++ last3) = 3)) := by
  have hb : m = (enc (fs.drop got)).length := by have := enc_split fs got; omega
  have hAt : At fs got m = enc (fs.drop got) := by unfold At; rw [hb, List.take_length]
  rcases hx : fs[got]? with _ | x
  · have hl := List.getElem?_eq_none_iff.1 hx
    have hd : fs.drop got = [] := List.drop_of_length_le hl
    have hj := hm.le
    refine ⟨by omega, .inl ⟨by omega, ?_, ?_⟩⟩
    · rw [hAt, hd]; rfl
    · rw [hAt, hd]; simp [enc, nextE]
  · have ho := hok x (List.mem_of_getElem? hx)
    rw [drop_cons hx, enc_cons, List.length_append, ho.size] at hb
    have hr : room < x.n := by
      rcases Int.lt_or_le room x.n with h1 | h1
      · exact h1
      · exfalso
        rw [At_cons hx] at h0
        exact h0 (pref_ok ho (enc (fs.drop (got + 1))) (m := m) (room := room) (by omega) h1 (by omega)).1
    have hgl := (List.getElem?_eq_some_iff.1 hx).1
    have hgj : got = j := by
      rcases Nat.lt_or_ge got j with h1 | h1
      · have := hm.fit got x h1 hx; omega
      · omega
    refine ⟨hgj, .inr ⟨by omega, ?_, ?_⟩⟩
    · rw [At_cons hx]; exact pref_long ho _ (by omega) (by omega) hr
    · have e : At fs got m ++ last3 = (fB x ++ (enc (fs.drop (got + 1)) ++ last3)).take (m + 3) := by
        rw [hAt, drop_cons hx, enc_cons, List.append_assoc, List.take_of_length_le]
        rw [List.length_append, List.length_append, ho.size]
        simp [last3]
        omega
      rw [e]
      exact pref_long ho _ (by omega) (by rw [List.length_append]; simp [last3]; omega) hr

/-- A parser that holds l beside a row that reads as b, all above what was there at first. -/
structure BK (w wr : World) (ga : Nat) (room : Int) (Ab : Option Addr) (n : Nat) (b l : List UInt8) : Prop where
  below_ : Below w.heap.size w wr
  above : w.heap.size ≤ ga
  par : ∃ RA rc, ParAt wr ga room RA l.length rc l
  bs : Bs wr Ab n b
  off : Off Ab [ga]
section
variable {w wr w' : World} {ga : Nat} {room : Int} {Ab : Option Addr} {n : Nat} {b l : List UInt8}
theorem BK.below (h : BK w wr ga room Ab n b l) (hb : Below wr.heap.size wr w') : BK w w' ga room Ab n b l := by
  obtain ⟨RA, rc, hp⟩ := h.par
  exact ⟨h.below_.trans (hb.mono h.below_.size), h.above, ⟨RA, rc, hp.below hb⟩, h.bs.below hb, h.off⟩
theorem BK.lt (h : BK w wr ga room Ab n b l) : ga < wr.heap.size := by
  obtain ⟨RA, rc, hp⟩ := h.par
  exact hp.blk.lt
theorem BK.feed (h : BK w wr ga room Ab n b l) {A1 : Option Addr} {n1 c1 : Nat} {l1 : List UInt8} (hs : Bs wr A1 n1 l1) (hn : l.length + n1 ≤ 70368744177664) :
    Calls Try.prog 16 #[.pointer (some ⟨ga, 0, none⟩), .slice A1 n1 c1] wr fun e w' => e = .returned (.tuple #[]) ∧ BK w w' ga room Ab n b (l ++ l1) := by
  obtain ⟨RA, rc, hp⟩ := h.par
  refine (parFeed_any ga room RA l.length rc l A1 n1 c1 l1 wr hp hs hn).mono ?_
  rintro e w' ⟨A2, c2, rfl, hp2, ht, _⟩
  refine ⟨rfl, h.below_.trans (ht.below (by simp; exact h.above) h.below_.size), h.above, ⟨A2, c2, ?_⟩, h.bs.turned ht h.off, h.off⟩
  rw [List.length_append, hs.len]
  exact hp2
theorem BK.next (h : BK w wr ga room Ab n b l) (hn : l.length ≤ 70368744177664) :
    Calls Try.prog 17 #[.pointer (some ⟨ga, 0, none⟩)] wr fun e w' =>
      (nextE room l ≠ 0 ∧ e = .returned (.tuple #[fv 0 0 0 none 0 0, .int .i64 (nextE room l)]) ∧ BK w w' ga room Ab n b l) ∨
      (nextE room l = 0 ∧ ∃ (A1 : Option Addr) (c1 m : Nat), (m : Int) = lenI l ∧ 9 + m ≤ l.length ∧ e = .returned (.tuple #[fv (nb l 3) (nb l 4) (strI l) A1 m c1, .int .i64 0]) ∧ Bs w' A1 m ((l.drop 9).take m) ∧ BK w w' ga room Ab n b (l.drop (9 + m))) := by
  obtain ⟨RA, rc, hp⟩ := h.par
  refine (parNext_any ga room RA l.length rc l wr hp hn).mono ?_
  intro e w' hq
  rcases hq with ⟨h1, h2, h3⟩ | ⟨h1, A1, c1, A2, c2, m, hm, hm9, rfl, hb, hp2, ht, _, _⟩
  · exact .inl ⟨h1, h2, h.below h3⟩
  · refine .inr ⟨h1, A1, c1, m, hm, hm9, rfl, hb, h.below_.trans (ht.below (by simp; exact h.above) h.below_.size), h.above, ⟨A2, c2, ?_⟩, h.bs.turned ht h.off, h.off⟩
    rw [List.length_drop]
    exact hp2
theorem BK.left (h : BK w wr ga room Ab n b l) :
    Calls Try.prog 19 #[.pointer (some ⟨ga, 0, none⟩)] wr fun e w' => e = .returned (.int .i64 l.length) ∧ wr = w' := by
  obtain ⟨RA, rc, hp⟩ := h.par
  exact parLeft_any ga room RA l.length rc l wr hp
end
end Go.Proofs.Ytakkabilpjjmgaa
