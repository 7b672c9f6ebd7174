/- Three rows of the caller's own beside a pipe: what each call, each append and each store keeps. -/
import Derived.Test.YtdplkknlpfdljaaPipeOrd
import Derived.Laws.BitsAllLaws
namespace Go.Proofs.Ytdplkknlpfdljaa
open Go.RowKit

theorem Apart.symm {v v' : Value} (h : Apart v v') : Apart v' v := fun b h1 h2 => h b h2 h1

/-- The rows I, O, V and the pipe's own lie apart, all above W. -/
structure O3 (W w : World) (g : Nat) (r : Int) (I : Value) (im : Nat) (il : List UInt8) (O : Value) (om : Nat) (ol : List UInt8) (V : Value) (vm : Nat) (vl : List UInt8) (P : Value) (pn : Nat) (pl : List UInt8) (i o : Int) : Prop where
  b : Below W.heap.size W w
  rI : w.ownsRow W.heap.size 5 1 I im (il.map bv)
  rO : w.ownsRow W.heap.size 5 1 O om (ol.map bv)
  rV : w.ownsRow W.heap.size 5 1 V vm (vl.map bv)
  rP : ∃ A c, P = .slice A pn c ∧ PipeAt 44 w W.heap.size g r A pn c pl i o
  IO : Apart I O
  IV : Apart I V
  OV : Apart O V
  IP : Apart I P
  OP : Apart O P
  VP : Apart V P

section
variable {W w w' : World} {g vb vc : Nat} {r : Int} {I O V P : Value} {im om vm pn : Nat} {il ol vl pl : List UInt8} {i o : Int}

theorem O3.below (h : O3 W w g r I im il O om ol V vm vl P pn pl i o) (hb : Below w.heap.size w w') : O3 W w' g r I im il O om ol V vm vl P pn pl i o := by
  obtain ⟨A, c, hP, hp⟩ := h.rP
  exact ⟨h.b.trans (hb.mono h.b.size), own_below h.rI hb, own_below h.rO hb, own_below h.rV hb, ⟨A, c, hP, hp.below hb⟩, h.IO, h.IV, h.OV, h.IP, h.OP, h.VP⟩

/-- A row just made takes V's place. -/
theorem O3.fresh (h : O3 W w g r I im il O om ol V vm vl P pn pl i o) (hb : Below w.heap.size w w') {V' : Value} {vm' : Nat} {vl' : List UInt8} (hV : w'.ownsRow w.heap.size 5 1 V' vm' (vl'.map bv)) : O3 W w' g r I im il O om ol V' vm' vl' P pn pl i o := by
  have h' := h.below hb
  obtain ⟨A, c, hP, hp⟩ := h.rP
  have hlt : ∀ k, V'.ownBlock = some k → w.heap.size ≤ k := fun k hk => (hV.lt k hk).1
  refine ⟨h'.b, h'.rI, h'.rO, own_base hV h.b.size, h'.rP, h.IO, fun k h1 h2 => ?_, fun k h1 h2 => ?_, h.IP, h.OP, fun k h1 h2 => ?_⟩
  · have := (h.rI.lt k h1).2; have := hlt k h2; omega
  · have := (h.rO.lt k h1).2; have := hlt k h2; omega
  · subst hP; have := (hp.own.lt k h2).2; have := hlt k h1; omega

/-- An append onto I. -/
theorem O3.appI (h : O3 W w g r I im il O om ol V vm vl P pn pl i o) {I' : Value} {m : Nat} {xs : List UInt8} (hI : w'.ownsRow W.heap.size 5 1 I' (im + m) ((il ++ xs).map bv)) (hg : w.grownBy w' I.ownBlock) (hc : I'.ownBlock = I.ownBlock ∨ I'.ownBlock = some w.heap.size) :
    O3 W w' g r I' (im + m) (il ++ xs) O om ol V vm vl P pn pl i o := by
  obtain ⟨A, c, hP, hp⟩ := h.rP
  have new : ∀ {X : Value} (_ : ∀ k, X.ownBlock = some k → k < w.heap.size), Apart I X → Apart I' X := fun hX hIX k h1 h2 => by
    rcases hc with hc | hc
    · exact hIX k (hc.symm.trans h1) h2
    · have := hX k h2
      rw [hc] at h1
      injection h1 with h1
      omega
  have kept : ∀ {X : Value} {n : Nat} {zs : List Value} {base : Nat}, w.ownsRow base 5 1 X n zs → Apart I X → w'.ownsRow base 5 1 X n zs := fun hX hIX => hX.kept hg (by
    rcases hv : Value.ownBlock _ with _ | b
    · exact .inl rfl
    · exact .inr fun e => hIX b e.symm hv)
  subst hP
  refine ⟨h.b.grown hg h.b.size (fun k hk => (h.rI.lt k hk).1), hI, kept h.rO h.IO, kept h.rV h.IV, ⟨A, c, rfl, hp.blk.grown hg (fun e => hp.blk.own_ne h.rI (by decide) e.symm), hp.base, kept hp.own h.IP, hp.fits⟩,
    new (fun k hk => (h.rO.lt k hk).2) h.IO, new (fun k hk => (h.rV.lt k hk).2) h.IV, h.OV, new (fun k hk => (hp.own.lt k hk).2) h.IP, h.OP, h.VP⟩

/-- I and O change places. -/
theorem O3.swap (h : O3 W w g r I im il O om ol V vm vl P pn pl i o) : O3 W w g r O om ol I im il V vm vl P pn pl i o :=
  ⟨h.b, h.rO, h.rI, h.rV, h.rP, h.IO.symm, h.OV, h.IV, h.OP, h.IP, h.VP⟩
/-- I and V change places. -/
theorem O3.turn (h : O3 W w g r I im il O om ol V vm vl P pn pl i o) : O3 W w g r V vm vl O om ol I im il P pn pl i o :=
  ⟨h.b, h.rV, h.rO, h.rI, h.rP, h.OV.symm, h.IV.symm, h.IO.symm, h.VP, h.OP, h.IP⟩

/-- Whatever turns only V's own block, and leaves V a row of as many bytes. -/
theorem O3.setV (h : O3 W w g r I im il O om ol V vm vl P pn pl i o) {F : List Nat} (ht : Turned F w w') (hF : ∀ k ∈ F, V.ownBlock = some k) {vl' : List UInt8} (hV : w'.ownsRow W.heap.size 5 1 V vm (vl'.map bv)) :
    O3 W w' g r I im il O om ol V vm vl' P pn pl i o := by
  obtain ⟨A, c, hP, hp⟩ := h.rP
  subst hP
  exact ⟨h.b.trans (ht.below (fun k hk => (h.rV.lt k (hF k hk)).1) h.b.size), own_turned h.rI ht (fun k hk hm => h.IV k hk (hF k hm)), own_turned h.rO ht (fun k hk hm => h.OV k hk (hF k hm)), hV,
    ⟨A, c, rfl, hp.turned ht (fun hm => hp.blk.own_ne h.rV (by decide) (hF g hm)) (fun k hk hm => h.VP k (hF k hm) hk)⟩, h.IO, h.IV, h.OV, h.IP, h.OP, h.VP⟩

theorem O3.put (h : O3 W w g r I im il O om ol V vm vl P pn pl i o) {X : Option Addr} {n1 c1 : Nat} {l1 : List UInt8} (hs : Bs w X n1 l1) (hc1 : n1 ≤ c1) (hn : pn + n1 ≤ 70368744177664) (hi : 0 ≤ i) (hi' : i ≤ 70368744177664) (hr : r ≤ 9223372036854775807) :
    Calls Try.prog 9 #[.pointer (some ⟨g, 0, none⟩), .slice X n1 c1] w fun e w' => e = .returned (.int .i64 (putN n1 r pn)) ∧ ∃ P', O3 W w' g r I im il O om ol V vm vl P' (pn + putN n1 r pn) (pl ++ l1.take (putN n1 r pn)) (i + putN n1 r pn) o := by
  obtain ⟨A, c, hP, hp⟩ := h.rP
  subst hP
  refine (put_any X n1 c1 l1 _ _ _ _ _ _ _ _ _ _ hp hs hc1 hn hi hi' h.b.size hr).mono ?_
  rintro e w' ⟨A2, c2, rfl, hq, ht, hf⟩
  have hF : ∀ q ∈ g :: (Value.slice A pn c).ownBlock.toList, q = g ∨ (Value.slice A pn c).ownBlock = some q := fun q hq => by simpa [Option.mem_toList] using hq
  have hW : ∀ q ∈ g :: (Value.slice A pn c).ownBlock.toList, W.heap.size ≤ q := fun q hq => by
    rcases hF q hq with rfl | hq
    · exact hp.base
    · exact (hp.own.lt q hq).1
  have ap : ∀ {Y : Value} {m : Nat} {xs : List Value}, w.ownsRow W.heap.size 5 1 Y m xs → Apart Y (.slice A pn c) → Apart Y (.slice A2 (pn + putN n1 r pn) c2) := fun hY ha k h1 h2 => by
    rcases hf k h2 with h3 | h3
    · exact ha k h1 h3
    · have := (hY.lt k h1).2
      omega
  exact ⟨rfl, _, ⟨h.b.trans (ht.below hW h.b.size), hp.spare (by decide) ht hF h.rI h.IP, hp.spare (by decide) ht hF h.rO h.OP, hp.spare (by decide) ht hF h.rV h.VP, ⟨A2, c2, rfl, hq⟩, h.IO, h.IV, h.OV, ap h.rI h.IP, ap h.rO h.OP, ap h.rV h.VP⟩⟩

theorem O3.take (h : O3 W w g r I im il O om ol V vm vl P pn pl i o) (m : Int) (hn : pn ≤ 70368744177664) (ho : 0 ≤ o) (ho' : o ≤ 70368744177664) :
    Calls Try.prog 10 #[.pointer (some ⟨g, 0, none⟩), .int .i64 m] w fun e w' => ∃ A' c' P', e = .returned (.slice A' (lookN m pn) c') ∧ Bs w' A' (lookN m pn) (pl.take (lookN m pn)) ∧
      O3 W w' g r I im il O om ol V vm vl P' (pn - lookN m pn) (pl.drop (lookN m pn)) i (o + lookN m pn) ∧ Turned [g] w w' := by
  obtain ⟨A, c, hP, hp⟩ := h.rP
  subst hP
  refine (take_any m _ _ _ _ _ _ _ _ _ _ hp hn ho ho' h.b.size).mono ?_
  rintro e w' ⟨A', c', A2, c2, rfl, hx, hq, ht, hf⟩
  have hF : ∀ q ∈ [g], q = g ∨ (Value.slice A pn c).ownBlock = some q := fun q hq => .inl (by simpa using hq)
  have ap : ∀ {Y : Value} {n : Nat} {xs : List Value}, w.ownsRow W.heap.size 5 1 Y n xs → Apart Y (.slice A2 (pn - lookN m pn) c2) := fun hY k h1 h2 => by
    have := (hY.lt k h1).2
    have := hf k h2
    omega
  exact ⟨A', c', _, rfl, Bs.of_own hx, ⟨h.b.trans (ht.below (fun q hq => by have := List.mem_singleton.1 hq; subst this; exact hp.base) h.b.size), hp.spare (by decide) ht hF h.rI h.IP, hp.spare (by decide) ht hF h.rO h.OP, hp.spare (by decide) ht hF h.rV h.VP, ⟨A2, c2, rfl, hq⟩, h.IO, h.IV, h.OV, ap h.rI, ap h.rO, ap h.rV⟩, ht⟩

theorem O3.lens (h : O3 W w g r I im il O om ol V vm vl P pn pl i o) : il.length = im ∧ ol.length = om ∧ vl.length = vm ∧ pl.length = pn ∧ (pn : Int) ≤ r := by
  obtain ⟨A, c, hP, hp⟩ := h.rP
  have h1 := h.rI.1
  have h2 := h.rO.1
  have h3 := h.rV.1
  simp at h1 h2 h3
  exact ⟨h1, h2, h3, hp.len, hp.fits⟩

/-- One byte of V turned. -/
theorem O3.flip (h : O3 W w g r I im il O om ol (.slice (some ⟨vb, 0, none⟩) vm vc) vm vl P pn pl i o) (j : Nat) (y : UInt8) :
    ∃ vl', O3 W (w.setCell ⟨vb, j, none⟩ (.int .u8 (Go.bits .xor .u8 (y.toNat : Int) 255))) g r I im il O om ol (.slice (some ⟨vb, 0, none⟩) vm vc) vm vl' P pn pl i o := by
  have hy := y.toNat_lt
  have hx := Go.u8_xor_nat y.toNat 255 hy (by omega)
  have hlt : y.toNat ^^^ 255 < 2 ^ 8 := Nat.xor_lt_two_pow (by omega) (by omega)
  have hb : Value.int .u8 (Go.bits .xor .u8 (y.toNat : Int) 255) = bv (UInt8.ofNat (y.toNat ^^^ 255)) := by
    rw [show (255 : Int) = ((255 : Nat) : Int) from rfl, hx]
    have := bv_mk ((y.toNat ^^^ 255 : Nat) : Int) (by omega) (by omega)
    simpa using this
  rw [hb]
  have hst := (h.rV.stored j (bv (UInt8.ofNat (y.toNat ^^^ 255)))).1
  rw [← List.map_set] at hst
  exact ⟨_, h.setV (F := [vb]) ((Turned.refl _ _).setCell (by simp) _) (fun k hk => by simp at hk; subst hk; rfl) hst⟩

theorem O3.lenC (h : O3 W w g r I im il O om ol V vm vl P pn pl i o) : Calls Try.prog 12 #[.pointer (some ⟨g, 0, none⟩)] w fun e w' => e = .returned (.int .i64 pn) ∧ w = w' := by
  obtain ⟨A, c, _, hp⟩ := h.rP
  exact len_any _ _ _ _ _ _ _ _ _ _ hp
theorem O3.inC (h : O3 W w g r I im il O om ol V vm vl P pn pl i o) : Calls Try.prog 14 #[.pointer (some ⟨g, 0, none⟩)] w fun e w' => e = .returned (.int .i64 i) ∧ w = w' := by
  obtain ⟨A, c, _, hp⟩ := h.rP
  exact in_any _ _ _ _ _ _ _ _ _ _ hp
theorem O3.outC (h : O3 W w g r I im il O om ol V vm vl P pn pl i o) : Calls Try.prog 22 #[.pointer (some ⟨g, 0, none⟩)] w fun e w' => e = .returned (.int .i64 o) ∧ w = w' := by
  obtain ⟨A, c, _, hp⟩ := h.rP
  exact out_any _ _ _ _ _ _ _ _ _ _ hp
theorem O3.freeC (h : O3 W w g r I im il O om ol V vm vl P pn pl i o) (hr : r ≤ 9223372036854775807) : Calls Try.prog 13 #[.pointer (some ⟨g, 0, none⟩)] w fun e w' => e = .returned (.int .i64 (r - pn)) ∧ Below w.heap.size w w' := by
  obtain ⟨A, c, _, hp⟩ := h.rP
  exact free_any _ _ _ _ _ _ _ _ _ _ hp hr
theorem O3.beginsC {IA OA : Option Addr} {ic oc : Nat} (h : O3 W w g r (.slice IA im ic) im il (.slice OA om oc) om ol V vm vl P pn pl i o) (hl : ol ++ pl = il) :
    Calls Try.prog 24 #[.slice IA im ic, .slice OA om oc] w fun e w' => e = .returned (.bool true) ∧ Below w.heap.size w w' := by
  obtain ⟨h1, h2, h3, h4, _⟩ := h.lens
  have hb := begins_any IA OA im ic om oc il ol w (Bs.of_own h.rI) (Bs.of_own h.rO) (own_le h.rI)
  have e : (decide (om ≤ im) && (il.take om == ol)) = true := by
    subst hl
    rw [List.length_append] at h1
    rw [decide_eq_true (show om ≤ im by omega), ← h2, List.take_left, beq_self_eq_true]
    rfl
  rw [e] at hb
  exact hb
theorem O3.noV (h : O3 W w g r I im il O om ol V vm vl P pn pl i o) : O3 W w g r I im il O om ol (.slice none 0 0) 0 [] P pn pl i o :=
  ⟨h.b, h.rI, h.rO, World.ownsRow_nil _ _ _ _, h.rP, h.IO, fun k _ h2 => by simp [Value.ownBlock] at h2, fun k _ h2 => by simp [Value.ownBlock] at h2, h.IP, h.OP, fun k h1 => by simp [Value.ownBlock] at h1⟩
theorem O3.look (h : O3 W w g r I im il O om ol V vm vl P pn pl i o) (m : Int) (hn : pn ≤ 70368744177664) :
    Calls Try.prog 19 #[.pointer (some ⟨g, 0, none⟩), .int .i64 m] w fun e w' => ∃ A' c', e = .returned (.slice A' (lookN m pn) c') ∧ O3 W w' g r I im il O om ol (.slice A' (lookN m pn) c') (lookN m pn) (pl.take (lookN m pn)) P pn pl i o ∧ g < w'.heap.size := by
  obtain ⟨A, c, _, hp⟩ := h.rP
  refine (look_any m _ _ _ _ _ _ _ _ _ _ hp hn).mono ?_
  rintro e w' ⟨A', c', rfl, ho, hb⟩
  exact ⟨A', c', rfl, h.fresh hb ho, Nat.lt_of_lt_of_le hp.blk.lt hb.size⟩
end
end Go.Proofs.Ytdplkknlpfdljaa
