/- The reference's encoder: put and field, each once. Conditions: at most 2^29 bytes a text. -/
import Derived.Test.YtjeocmglcgnclaaDoorREncJ
import Derived.Test.YtjeocmglcgnclaaDoorGr
import Derived.Test.YtjeocmglcgnclaaDoorGk
namespace Go.Proofs.YtjeocmglcgnclaaDoor
open Go.RowKit
attribute [local go_sem] kd kdS

/-- A call that answers a row of bytes of its own, and turns nothing. -/
def OwnB (o : List UInt8) (w : World) (e : Ending) (w' : World) : Prop :=
  ∃ A' m' c', e = .returned (.slice A' m' c') ∧ w'.ownsRow w.heap.size 5 1 (.slice A' m' c') m' (o.map bv) ∧ Below w.heap.size w w'

set_option maxHeartbeats 1000000 in
set_option maxRecDepth 100000 in
theorem rput_text (s : ByteArray) (w : World) (hs : s.size ≤ 536870912) :
    Calls Tryd.prog 52 #[.string s] w (OwnB (textP s.data.toList) w) := by
  obtain ⟨i0, hi0, hz0, hz1, hz2⟩ := info_parts u8_info
  have hi := hid hi0
  have hz := hid hz0
  have hsz := hid hz1
  have hby := hid hz2
  clear hi0 hz0 hz1 hz2
  have kc := fun (w : World) => run_bytes_of_string (P := Tryd.prog) w 9 29 5 s Tryd.underlying9 Tryd.underlying29 Tryd.underlying5
  go_enter Tryd.func52, Tryd.ntmps52
  go_wp2_with fail
  clear kc
  generalize grownCap w s.size 0 5 = cap
  have hs0 : Bs (w.alloc (.cells (bytesRow s cap) 5 ((bytesRow s cap).size, (bytesRow s cap).size + 1))).drew (some ⟨w.heap.size, 0, none⟩) s.size s.data.toList := bytes_new w s cap _
  have hb0 : Below w.heap.size w (w.alloc (.cells (bytesRow s cap) 5 ((bytesRow s cap).size, (bytesRow s cap).size + 1))).drew := ((Below.refl _ _).alloc (Nat.le_refl _) _).drew
  generalize (w.alloc (.cells (bytesRow s cap) 5 ((bytesRow s cap).size, (bytesRow s cap).size + 1))).drew = wa at hs0 hb0 ⊢
  have HS := hid hs0
  have HB := hid hb0
  have hsz0 := hb0.size
  have hbl := hbits_le s.data.toList
  rw [ba_len] at hbl
  have HRB := hid (refBits_any _ s.size cap _ wa HS.out (by omega))
  obtain ⟨q, hq⟩ : ∃ q, hbits s.data.toList = q := ⟨_, rfl⟩
  rw [hq] at hbl HRB
  have HQ := hid hq
  clear hs0 hb0 hq
  refine HRB.out.mono ?_
  rintro e w1 ⟨rfl, hb1⟩
  have HS1 := hid (HS.out.below hb1)
  have HB1 := hid (HB.out.trans (hb1.mono HB.out.size))
  have hw1 := HB1.out.size
  clear hb1 HRB
  obtain ⟨z, hz'⟩ : ∃ z : Nat, (q + 7) / 8 = z := ⟨_, rfl⟩
  have hdiv : ((q : Int) + 7) / 8 = (z : Nat) := by omega
  have HZ := hid hz'
  have hzl : z ≤ 4294967296 := by omega
  clear hz' HB HS hsz0
  by_cases hlt : z < s.size
  · have hlti : (z : Int) < (s.size : Int) := by omega
    have HT : Hid (textP s.data.toList = (putR 128 7 (z : Int)).1 ++ encP s.data.toList) := hid (by
      unfold textP
      rw [HQ.out, ba_len, HZ.out, if_pos hlt])
    have hel : (encP s.data.toList).length = z := by rw [encP_len, HQ.out, HZ.out]
    have HEL := hid hel
    have HPL := hid (putR_len 128 7 (z : Int))
    clear hel hlt
    go_wp2_with fail
    refine (rput_all 128 7 (z : Int) w1 (by omega) (by omega)).mono ?_
    rintro e w2 ⟨A2, k2, c2, rfl, ho2, hb2⟩
    have HO2 := hid (ho2.mono (base' := w.heap.size) hw1)
    have HS2 := hid (HS1.out.below hb2)
    have HB2 := hid (HB1.out.trans (hb2.mono HB1.out.size))
    have hw2 := HB2.out.size
    have hk2 : k2 ≤ 7 := by have := own_len ho2; have := HPL.out; omega
    clear ho2 hb2
    go_wp2_with (first
      | (go_at_call 67; go_must (refine (refEncode_any _ s.size cap _ w2 HS2.out (by omega)).mono ?_; rintro e w3 ⟨A3, c3, o3, p, rfl, hb3, hbo, hp, hbw3⟩; have HE3 := hid (enc_is hbo hp); have HBT3 := hid hb3; have HB3 := hid (HB2.out.trans (hbw3.mono HB2.out.size)); have HO3 := hid (own_below HO2.out hbw3); have hw3 := HB3.out.size; have hl3 : o3.length = z := (congrArg List.length HE3.out).trans HEL.out; rw [hl3] at HBT3 ⊢; clear hb3 hbo hbw3))
      | (at_builtin; go_must (refine wpList_app _ rfl _ _ _ rfl w.heap.size 5 i0 _ 1 1 Tryd.underlying29 hi.out hz.out hsz.out hby.out rfl (by omega) _ k2 _ rfl HO3.out A3 _ c3 (o3.map bv) rfl HBT3.out (bv_one _) (by omega) (by omega) hw3 ?_; intro A' c' w4 hown hg hat; have HP := hid hown; have HB4 := hid (below_app HB3.out HO3.out hg (Nat.le_refl _) hw3); clear hown hg hat)))
    go_ret
    rw [HT.out, ← HE3.out]
    exact ⟨_, _, _, rfl, by rw [List.map_append]; exact HP.out, HB4.out⟩
  · have hlti : (s.size : Int) ≤ (z : Int) := by omega
    have HT : Hid (textP s.data.toList = (putR 0 7 (s.size : Int)).1 ++ s.data.toList) := hid (by
      unfold textP
      rw [HQ.out, ba_len, HZ.out, if_neg hlt])
    have HPL := hid (putR_len 0 7 (s.size : Int))
    clear hlt
    go_wp2_with fail
    refine (rput_all 0 7 (s.size : Int) w1 (by omega) (by omega)).mono ?_
    rintro e w2 ⟨A2, k2, c2, rfl, ho2, hb2⟩
    have HO2 := hid (ho2.mono (base' := w.heap.size) hw1)
    have HS2 := hid (HS1.out.below hb2)
    have HB2 := hid (HB1.out.trans (hb2.mono HB1.out.size))
    have hw2 := HB2.out.size
    have hk2 : k2 ≤ 7 := by have := own_len ho2; have := HPL.out; omega
    clear ho2 hb2
    go_wp2_with (at_builtin; go_must (refine wpList_app _ rfl _ _ _ rfl w.heap.size 5 i0 _ 1 1 Tryd.underlying29 hi.out hz.out hsz.out hby.out rfl (by omega) _ k2 _ rfl HO2.out _ _ cap (s.data.toList.map bv) rfl HS2.out (bv_one _) (by omega) (by omega) hw2 ?_; intro A' c' w4 hown hg hat; have HP := hid hown; have HB4 := hid (below_app HB2.out HO2.out hg (Nat.le_refl _) hw2); clear hown hg hat))
    go_ret
    rw [HT.out]
    exact ⟨_, _, _, rfl, by rw [List.map_append]; exact HP.out, HB4.out⟩

theorem rsfind_any (a b : ByteArray) (w : World) : Calls Tryd.prog 50 #[.string a, .string b] w fun e w' => e = .returned (.tuple #[.int .i64 ((findP a.data.toList b.data.toList 61).1 : Nat), .int .i64 ((findP a.data.toList b.data.toList 61).2 : Nat)]) ∧ Below w.heap.size w w' := by
  obtain ⟨⟨a⟩⟩ := a
  obtain ⟨⟨b⟩⟩ := b
  rw [← rfind_is]
  exact rfind_any a b w

/-- Amid field: what is written so far, beside the field's box. -/
structure FB (w wr : World) (bx : Nat) (f : Fd) (A : Option Addr) (m c : Nat) (o : List UInt8) : Prop where
  out : Below w.heap.size w wr
  row : wr.ownsRow w.heap.size 5 1 (.slice A m c) m (o.map bv)
  box : BoxAt wr bx f
section
variable {w wr w' : World} {bx : Nat} {f : Fd} {A A' : Option Addr} {m c m' c' k : Nat} {o p : List UInt8}
theorem FB.below (h : FB w wr bx f A m c o) (hb : Below wr.heap.size wr w') : FB w w' bx f A m c o :=
  ⟨h.out.trans (hb.mono h.out.size), own_below h.row hb, BoxAt.below h.box hb⟩
theorem FB.app (h : FB w wr bx f A m c o) (ho : w'.ownsRow w.heap.size 5 1 (.slice A' m' c') m' (o.map bv ++ p.map bv)) (hg : wr.grownBy w' (Value.slice A m c).ownBlock) : FB w w' bx f A' m' c' (o ++ p) :=
  ⟨below_app h.out h.row hg (Nat.le_refl _) h.out.size, by rw [List.map_append]; exact ho, Blk.grown h.box hg (fun e => Blk.own_ne h.box h.row (by decide) e.symm)⟩
theorem FB.len (h : FB w wr bx f A m c o) : o.length = m := own_len h.row
end
/-- What field answers. -/
def RFPost (o : List UInt8) (B : Nat) (F : List Nat) (ge gt : Nat) (most told least : Int) (set : Bool) (L : List Fd) (w : World) (e : Ending) (w' : World) : Prop :=
  ∃ A' m' c' F', e = .returned (.slice A' m' c') ∧ REnc w' B F' ge gt most told least set L ∧ w'.ownsRow w.heap.size 5 1 (.slice A' m' c') m' (o.map bv) ∧ Turned (ge :: F) w w' ∧ (∀ k ∈ F', k ∈ F ∨ w.heap.size ≤ k)
theorem RFPost.plain {w wr : World} {bx : Nat} {f : Fd} {A : Option Addr} {m c : Nat} {o o' : List UInt8} {B : Nat} {F : List Nat} {ge gt : Nat} {most told least : Int} {set : Bool} {L L' : List Fd} (he : REnc w B F ge gt most told least set L) (h : FB w wr bx f A m c o) (ho : o' = o) (hL : L' = L) :
    RFPost o' B F ge gt most told least set L' w (.returned (.slice A m c)) wr := by
  subst ho hL
  exact ⟨A, m, c, F, rfl, he.below h.out, h.row, Turned.of_below h.out, fun k hk => .inl hk⟩
theorem RFPost.added {w wr w' : World} {bx : Nat} {f : Fd} {A : Option Addr} {m c : Nat} {o o' : List UInt8} {B : Nat} {F F' : List Nat} {ge gt : Nat} {most told least : Int} {set : Bool} {L L' L2 : List Fd} (he : REnc w B F ge gt most told least set L) (h : FB w wr bx f A m c o)
    (hr : RT w' B F' gt most L') (ht : Turned [gt] wr w') (hk : ∀ k ∈ F', k ∈ F ∨ wr.heap.size ≤ k) (hok : TabOk most L') (ho : o' = o) (hL : L2 = L') :
    RFPost o' B F ge gt most told least set L2 w (.returned (.slice A m c)) w' := by
  subst ho hL
  have hg := he.tb.mem
  have hgl := he.tb.ge gt hg
  have hs := h.out.size
  have hel := he.blk.lt
  refine ⟨A, m, c, F', rfl, ⟨(he.below h.out).blk.turned ht (fun e => he.nt (List.mem_singleton.1 e)), hr, he.base, fun hm => ?_, hok⟩, own_turned h.row ht (fun k hk hm => ?_), (Turned.of_below h.out).trans ht (fun b hb => .inl (by have := List.mem_singleton.1 hb; subst this; simp [hg])), fun k hm => ?_⟩
  · rcases hk ge hm with h1 | h1
    · exact he.ne h1
    · omega
  · have := List.mem_singleton.1 hm
    have := (own_row_lt h.row k hk).1
    omega
  · exact (hk k hm).imp id (fun h1 => Nat.le_trans hs h1)
end Go.Proofs.YtjeocmglcgnclaaDoor
