/- The reference's Decode, once. Conditions: at most 2^24 bytes. -/
import Derived.Test.YtdiejemhhcaicaaDoorROneAJ
import Derived.Test.YtdiejemhhcaicaaDoorROneNJ
import Derived.Test.YtdiejemhhcaicaaDoorROnePJ
import Derived.Test.YtdiejemhhcaicaaDoorGu
namespace Go.Proofs.YtdiejemhhcaicaaDoor
open Go.RowKit
attribute [local go_sem] kd kdS

theorem rone_any (B : Nat) (F : List Nat) (gd gt : Nat) (dead : Bool) (most : Int) (L : List Fd) (A : Option Addr) (n c : Nat) (bs : List UInt8) (at_ : Nat) (w : World) (h : RDec w B F gd gt dead most L) (hA : Bs w A n bs) (hnc : n ≤ c) (hn : n ≤ 1073741824) (hlt : at_ < n) :
    Calls Tryd.prog 29 #[.pointer (some ⟨gd, 0, none⟩), .slice A n c, .int .i64 at_] w (ROnePost bs at_ B F gd gt dead most L w) := by
  obtain ⟨x, hx⟩ : ∃ x, bs[at_]? = some x := ⟨bs[at_]'(by rw [hA.len]; omega), List.getElem?_eq_getElem _⟩
  by_cases h1 : 128 ≤ x.toNat
  · exact rone_known B F gd gt dead most L A n c bs at_ x w h hA hnc hn hx h1
  by_cases h2 : 64 ≤ x.toNat
  · exact rone_add B F gd gt dead most L A n c bs at_ x w h hA hnc hn hx (by omega) h2
  by_cases h3 : 32 ≤ x.toNat
  · exact rone_limit B F gd gt dead most L A n c bs at_ x w h hA hnc hn hx (by omega) h3
  by_cases h4 : 16 ≤ x.toNat
  · exact rone_never B F gd gt dead most L A n c bs at_ x w h hA hnc hn hx (by omega) h4
  · exact rone_plain B F gd gt dead most L A n c bs at_ x w h hA hnc hn hx (by omega)

section
variable {w wr w1 w' : World} {B : Nat} {F0 F F' : List Nat} {gd gt : Nat} {dead : Bool} {most most' : Int} {L L' : List Fd} {K : List Nat} {A A' : Option Addr} {n c n' c' : Nat}
theorem RO.trans (h : RO w wr B F0 F gd gt dead most L K) (k : RO wr w' B F F' gd gt dead most' L' []) : RO w w' B F0 F' gd gt dead most' L' K := by
  have hs := h.tn.size
  refine ⟨k.dec, fun q hq => ⟨fun hm => ?_, Nat.lt_of_lt_of_le (h.kept q hq).2.1 k.tn.size, (h.kept q hq).2.2⟩, h.tn.trans k.tn (fun b hb => ?_), fun q hq => ?_⟩
  · have h1 := h.kept q hq
    rcases List.mem_cons.1 hm with rfl | hm
    · exact h1.1 (by simp)
    · rcases k.kf q hm with h2 | h2
      · exact h1.1 (by simp [h2])
      · omega
  · rcases List.mem_cons.1 hb with rfl | hb
    · exact .inl (by simp)
    · rcases h.kf b hb with h1 | h1
      · exact .inl (by simp [h1])
      · exact .inr h1
  · rcases k.kf q hq with h1 | h1
    · exact h.kf q h1
    · exact .inr (by omega)
theorem RO.app (h : RO w wr B F0 F gd gt dead most L (Value.slice A n c).ownBlock.toList) (hb : Below wr.heap.size wr w1) (hg : w1.grownBy w' (Value.slice A n c).ownBlock) (hat : (Value.slice A' n' c').ownBlock = (Value.slice A n c).ownBlock ∨ (Value.slice A' n' c').ownBlock = some w1.heap.size) (hl : ∀ k, (Value.slice A' n' c').ownBlock = some k → k < w'.heap.size) :
    RO w w' B F0 F gd gt dead most L (Value.slice A' n' c').ownBlock.toList := by
  have ht : Turned (Value.slice A n c).ownBlock.toList wr w' := (Turned.of_below hb).grown hg (fun k hk => .inl (by simp [hk]))
  have hs := h.tn.size
  have hs1 := hb.size
  refine ⟨h.dec.turned ht (fun k hk hm => (h.kept k hm).1 hk), fun k hk => ?_, h.tn.trans ht (fun b hb => .inr (h.kept b hb).2.2), h.kf⟩
  have hk' : (Value.slice A' n' c').ownBlock = some k := by simpa using hk
  rcases hat with e | e
  · have h1 := h.kept k (by rw [← e]; simpa using hk)
    exact ⟨h1.1, hl k hk', h1.2.2⟩
  · rw [e] at hk'
    injection hk' with hk'
    refine ⟨fun hm => by have := (h.dec.ge_ k hm).2; omega, hl k (by rw [e, hk']), by omega⟩
end

theorem bs_turned0 {F : List Nat} {w w' : World} {A : Option Addr} {n : Nat} {l : List UInt8} (h : Bs w A n l) (ht : Turned F w w') (hF : 0 < n → Off A F) : Bs w' A n l := by
  rcases Nat.eq_zero_or_pos n with rfl | hn
  · rw [h.zero]
    exact Bs.nil _ _
  · exact h.turned ht (hF hn)
/-- What Decode answers. -/
def RDecodePost (bs : List UInt8) (room : Int) (B : Nat) (F : List Nat) (gd gt : Nat) (dead : Bool) (most : Int) (L : List Fd) (w : World) (e : Ending) (w' : World) : Prop :=
  ∃ (A' : Option Addr) (n' c' : Nat) (F' : List Nat) (m' : Int) (L' : List Fd), e = .returned (.tuple #[.slice A' n' c', .int .i64 (decO bs room dead most L).2]) ∧ Fs w' A' n' (decO bs room dead most L).1 ∧ RO w w' B F F' gd gt (decT bs dead most L).1 m' L' [] ∧
    ((decT bs dead most L).1 = false → m' = (decT bs dead most L).2.1 ∧ L' = (decT bs dead most L).2.2)
theorem RO.dies {w wr : World} {B : Nat} {F0 F : List Nat} {gd gt : Nat} {dead : Bool} {most : Int} {L : List Fd} {K : List Nat} (h : RO w wr B F0 F gd gt dead most L K) : RO w (wr.setCell ⟨gd, 1, none⟩ (.bool true)) B F0 F gd gt true most L [] := by
  have ht : Turned [gd] wr (wr.setCell ⟨gd, 1, none⟩ (.bool true)) := (Turned.refl _ _).setCell (by simp) _
  have hz := h.dec.blk.set_ 1 (.bool true)
  exact ⟨⟨by simpa using hz, h.dec.tb.turned ht (fun k hk hm => h.dec.ne (by have := List.mem_singleton.1 hm; subst this; exact hk)), h.dec.base, h.dec.ne, h.dec.ok⟩, (fun k hk => by cases hk), h.tn.trans ht (fun b hb => .inl (by have := List.mem_singleton.1 hb; simp [this])), h.kf⟩
theorem rdecode_bad {w wr : World} {B : Nat} {F0 F : List Nat} {gd gt : Nat} {m : Int} {l : List Fd} {K : List Nat} {bs : List UInt8} {most : Int} {L : List Fd} {s : DSt} (room : Int) (h : RO w wr B F0 F gd gt false m l K) (hd : decR (startD bs most L) = (s, false)) :
    RDecodePost bs room B F0 gd gt false most L w (.returned (.tuple #[.slice none 0 0, .int .i64 2])) (wr.setCell ⟨gd, 1, none⟩ (.bool true)) := by
  have h1 := decO_bad hd room
  unfold RDecodePost
  rw [h1.1, h1.2]
  exact ⟨none, 0, 0, F, m, l, rfl, Rd.nil _ _ _, h.dies, (fun h => by cases h)⟩

/-- Amid a block. -/
structure RJ (w wr : World) (B : Nat) (F F2 : List Nat) (gd gt : Nat) (s0 s : DSt) (p : Nat) (A2 : Option Addr) (m2 c2 : Nat) (bs : List UInt8) : Prop where
  ro : RO w wr B F F2 gd gt false s.most s.L (Value.slice A2 m2 c2).ownBlock.toList
  row : wr.ownsRow w.heap.size 31 3 (.slice A2 m2 c2) m2 (flat s.acc)
  dec : decR s0 = decR s
  at_ : s.bs = bs.drop p
  tot : total s.acc ≤ 32800 * p
  num : s.acc.length ≤ p
  told : s.told ≤ p

set_option maxHeartbeats 1000000 in
set_option maxRecDepth 100000 in
theorem rdecode_dead (room : Int) (B : Nat) (F : List Nat) (gd gt : Nat) (most : Int) (L : List Fd) (A : Option Addr) (n c : Nat) (bs : List UInt8) (w : World) (h : RDec w B F gd gt true most L) :
    Calls Tryd.prog 14 #[.pointer (some ⟨gd, 0, none⟩), .slice A n c, .int .i64 room] w (RDecodePost bs room B F gd gt true most L w) := by
  have H := hid h
  have h0 := h.blk.cell 1
  simp at h0
  clear h
  go_enter Tryd.func14, Tryd.ntmps14
  go_wp2_with fail
  go_ret2
  have h1 := decO_dead bs room most L
  unfold RDecodePost
  rw [h1.1, h1.2]
  exact ⟨none, 0, 0, F, most, L, rfl, Rd.nil _ _ _, RO.start H.out, (fun h => by cases h)⟩

set_option maxHeartbeats 4000000 in
set_option maxRecDepth 100000 in
theorem rdecode_live (room : Int) (B : Nat) (F : List Nat) (gd gt : Nat) (most : Int) (L : List Fd) (A : Option Addr) (n c : Nat) (bs : List UInt8) (w : World) (h : RDec w B F gd gt false most L) (hA : Bs w A n bs) (hnc : n ≤ c) (hoff : 0 < n → Off A (gd :: F)) (hn : n ≤ 16777216) :
    Calls Tryd.prog 14 #[.pointer (some ⟨gd, 0, none⟩), .slice A n c, .int .i64 room] w (RDecodePost bs room B F gd gt false most L w) := by
  obtain ⟨i0, hi0, hz0, hz1, hz2⟩ := fd_parts
  have hi := hid hi0
  have hz := hid hz0
  have hsz := hid hz1
  have hby := hid hz2
  clear hi0 hz0 hz1 hz2
  have H := hid h
  have HA := hid hA
  have HOFF := hid hoff
  have HLEN := hid hA.len
  have h0 := h.blk.cell 1
  simp at h0
  clear h hA hoff
  generalize hs0 : startD bs most L = s0
  have HS0 := hid hs0
  clear hs0
  go_enter Tryd.func14, Tryd.ntmps14
  go_wp2_with fail
  clear h0
  go_loopw [8, 9, 10, 11] (fun out tot lim ix wr => ∃ (s : DSt) (p : Nat) (A2 : Option Addr) (m2 c2 : Nat) (F2 : List Nat), p ≤ n ∧ ix = .int .i64 p ∧ tot = .int .i64 (total s.acc : Nat) ∧ lim = .int .i64 (s.told : Nat) ∧ out = .slice A2 m2 c2 ∧ RJ w wr B F F2 gd gt s0 s p A2 m2 c2 bs) (fun _ _ _ ix _ => n - (intOf ix).toNat)
  case atStart => exact ⟨s0, 0, none, 0, 0, F, Nat.zero_le _, rfl, by rw [← HS0.out]; rfl, by rw [← HS0.out]; rfl, rfl, ⟨by rw [← HS0.out]; exact RO.start H.out, by rw [← HS0.out]; exact World.ownsRow_nil _ _ _ _, rfl, by rw [← HS0.out]; rfl, by rw [← HS0.out]; exact Nat.zero_le _, by rw [← HS0.out]; exact Nat.zero_le _, by rw [← HS0.out]; exact Nat.zero_le _⟩⟩
  case round =>
    obtain ⟨s, p, A2, m2, c2, F2, hp, rfl, rfl, rfl, rfl, hj⟩ := hrel
    have HJ := hid hj
    have hm2 : m2 ≤ p := by have h1 := (Rd.of_own hj.row).1; have h2 := hj.num; have h3 : (flat s.acc).length = s.acc.length * 3 := by
                              have := (show Fs wr A2 m2 s.acc from Rd.of_own hj.row).len
                              have h4 := (Rd.of_own hj.row).1
                              omega
                            omega
    have htt := hj.tot
    have htd := hj.told
    have HAR := hid (bs_turned0 HA.out hj.ro.tn HOFF.out)
    have hacc : s.acc ≠ [] → 32 ≤ total s.acc := fun h => by
      rcases hx : s.acc with _ | ⟨f, t⟩
      · exact absurd hx h
      · rw [total_cons]
        unfold Fd.size
        omega
    have hacc0 : s.acc = [] → total s.acc = 0 := fun h => by rw [h]; rfl
    have HAC := hid hacc
    have HAC0 := hid hacc0
    clear hacc hacc0 hj
    obtain ⟨T, hT⟩ : ∃ T, total s.acc = T := ⟨_, rfl⟩
    obtain ⟨tl, htl⟩ : ∃ tl, s.told = tl := ⟨_, rfl⟩
    have HT := hid hT
    have HTL := hid htl
    rw [hT] at htt HAC HAC0 ⊢
    rw [htl] at htd ⊢
    clear hT htl
    by_cases hpn : p < n
    · have HONE := hid (rone_any B F2 gd gt false s.most s.L A n c bs p wr HJ.out.ro.dec HAR.out hnc (by omega) hpn)
      have HBS := hid (show s.bs ≠ [] by rw [HJ.out.at_]; intro e; have := congrArg List.length e; rw [List.length_drop, HLEN.out] at this; simp at this; omega)
      go_wp2_with fail
      refine HONE.out.mono ?_
      intro e w3 hq
      unfold ROnePost at hq
      have hst := stepD_one s
      rw [HJ.out.at_] at hst
      clear HONE
      rcases ho : oneD s.most s.L (bs.drop p) with _ | ⟨f, r, lim, m, l⟩
      · rw [ho] at hq hst
        obtain ⟨f, i, a, F3, rfl, hro⟩ := hq
        have HD := hid (show decR (startD bs most L) = (s, false) by rw [HS0.out, HJ.out.dec]; exact decR_none HBS.out hst)
        go_upto_region 7 with fail
        obtain ⟨w4, hw4⟩ : ∃ w4, w3.alloc (.cells #[.string f.n, .string f.v, .bool f.x] 31) = w4 := ⟨_, rfl⟩
        have hb4 : Below w3.heap.size w3 w4 := by rw [← hw4]; exact (Below.refl _ _).alloc (Nat.le_refl _) _
        rw [hw4]
        have HR4 := hid ((HJ.out.ro.trans hro).below hb4)
        have k1 := HR4.out.dec.blk.cell 1
        have kf1 := HR4.out.dec.blk.frozen 1
        simp at k1
        clear hb4 hw4 hro hst ho
        go_wp2_with fail
        go_ret2
        exact rdecode_bad room HR4.out HD.out
      · rw [ho] at hq hst
        obtain ⟨q, F3, hq1, hq2, hqr, rfl, hro⟩ := hq
        subst hqr
        have hqn : q ≤ n := by have := HLEN.out; omega
        dsimp only at hst
        clear ho hq2
        rcases lim with _ | _
        · -- a field
          rw [if_neg (by simp)] at hst
          have hk := stepD_ok hst HJ.out.ro.dec.ok
          have hfz : f.size ≤ 32800 := by
            have h1 := hk.2.2.1
            dsimp only at h1
            rw [total_snoc] at h1
            omega
          have HST := hid (decR_some hst)
          go_upto_region 7 with fail
          obtain ⟨w4, hw4⟩ : ∃ w4, w3.alloc (.cells #[.string f.n, .string f.v, .bool f.x] 31) = w4 := ⟨_, rfl⟩
          have hF4 : BoxAt w4 w3.heap.size f := by rw [← hw4]; exact Blk.new w3 _ _
          have hb4 : Below w3.heap.size w3 w4 := by rw [← hw4]; exact (Below.refl _ _).alloc (Nat.le_refl _) _
          rw [hw4]
          have HF4 := hid hF4
          have HR4 := hid ((HJ.out.ro.trans hro).below hb4)
          have HO4 := hid (own_below (own_turned HJ.out.row hro.tn (fun k hk hm => (HJ.out.ro.kept k (by simpa using hk)).1 hm)) hb4)
          obtain ⟨z0, z1, z2⟩ := BoxAt.c hF4
          clear hF4 hb4 hw4 hro hst hk
          generalize w3.heap.size = fb at HF4 z0 z1 z2 ⊢
          go_wp2_with fail
          refine (rsize_any f w4 (by omega)).mono ?_
          rintro e w5 ⟨rfl, hb5⟩
          obtain ⟨y0, y1, y2⟩ := BoxAt.c (BoxAt.below HF4.out hb5)
          have HR5 := hid (HR4.out.below hb5)
          have HO5 := hid (own_below HO4.out hb5)
          have hw5 := HR5.out.tn.size
          clear hb5 z0 z1 z2 HR4 HO4 HF4
          go_wp2_with (at_builtin; go_loud (refine wpList_app _ rfl _ _ _ rfl w.heap.size 31 i0 _ 3 40 Tryd.underlying25 hi.out hz.out hsz.out hby.out rfl (by omega) _ m2 _ rfl (own_below HO5.out ((Below.refl _ _).alloc (Nat.le_refl _) _)) _ 1 1 _ rfl (rd_new rfl ?_) ?_ (by omega) (by omega) ?_ ?_; (focus rfl); (focus (simp [Value.oneCell'])); (focus (rw [World.size_alloc]; omega)); intro A6 c6 w6 ho6 hg6 hat6; have HO6 := hid ho6; have HR6 := hid (HR5.out.app ((Below.refl _ _).alloc (Nat.le_refl _) _) hg6 hat6 (fun k hk => (own_row_lt ho6 k hk).2)); clear ho6 hg6 hat6))
          go_roundw
          case rel =>
            refine ⟨⟨bs.drop q, m, l, s.told, s.acc ++ [f]⟩, q, A6, m2 + 1, c6, F3, hqn, rfl, by dsimp only; rw [total_snoc, HT.out]; go_num, by dsimp only; rw [HTL.out], rfl, ⟨HR6.out, ?_, HJ.out.dec.trans HST.out, rfl, ?_, ?_, ?_⟩⟩
            · dsimp only
              rw [flat_append]
              exact HO6.out
            · dsimp only
              rw [total_snoc, HT.out]
              omega
            · dsimp only
              have := HJ.out.num
              rw [List.length_append, List.length_singleton]
              omega
            · dsimp only
              rw [HTL.out]
              omega
          case measure => simp [intOf]; omega
        · -- a limit
          rw [if_pos rfl] at hst
          by_cases hbad : s.acc ≠ [] ∨ 2 < s.told + 1
          · rw [if_pos hbad] at hst
            have HD := hid (show decR (startD bs most L) = (s, false) by rw [HS0.out, HJ.out.dec]; exact decR_none HBS.out hst)
            have hb2 : (T = 0 ∧ 2 < tl + 1) ∨ 0 < T := by
              by_cases hT0 : T = 0
              · refine .inl ⟨hT0, ?_⟩
                rcases hbad with h1 | h1
                · have := HAC.out h1
                  omega
                · rw [HTL.out] at h1
                  exact h1
              · exact .inr (by omega)
            clear hbad
            go_upto_region 7 with fail
            obtain ⟨w4, hw4⟩ : ∃ w4, w3.alloc (.cells #[.string f.n, .string f.v, .bool f.x] 31) = w4 := ⟨_, rfl⟩
            have hb4 : Below w3.heap.size w3 w4 := by rw [← hw4]; exact (Below.refl _ _).alloc (Nat.le_refl _) _
            rw [hw4]
            have HR4 := hid ((HJ.out.ro.trans hro).below hb4)
            have k1 := HR4.out.dec.blk.cell 1
            have kf1 := HR4.out.dec.blk.frozen 1
            simp at k1
            clear hb4 hw4 hro hst
            rcases hb2 with ⟨rfl, hb3⟩ | hb3
            · have hb4 : (2 : Int) < (tl : Int) + 1 := by omega
              have hb5 : decide ((tl : Int) + 1 ≤ 2) = false := decide_eq_false (by omega)
              go_wp2_with fail
              go_ret2
              exact rdecode_bad room HR4.out HD.out
            · have hb4 : ((T : Int) == 0) = false := by simp; omega
              go_wp2_with fail
              go_ret2
              exact rdecode_bad room HR4.out HD.out
          · rw [if_neg hbad] at hst
            have HST := hid (decR_some hst)
            have hT0 : T = 0 := HAC0.out (by
              by_cases h : s.acc = []
              · exact h
              · exact absurd (.inl h) hbad)
            have htl2 : tl + 1 ≤ 2 := by
              have h1 := HTL.out
              have h2 : ¬ 2 < s.told + 1 := fun h => hbad (.inr h)
              omega
            have htl3 : (tl : Int) + 1 ≤ 2 := by omega
            subst hT0
            clear hbad
            go_upto_region 7 with fail
            obtain ⟨w4, hw4⟩ : ∃ w4, w3.alloc (.cells #[.string f.n, .string f.v, .bool f.x] 31) = w4 := ⟨_, rfl⟩
            have hb4 : Below w3.heap.size w3 w4 := by rw [← hw4]; exact (Below.refl _ _).alloc (Nat.le_refl _) _
            rw [hw4]
            have HR4 := hid ((HJ.out.ro.trans hro).below hb4)
            have HO4 := hid (own_below (own_turned HJ.out.row hro.tn (fun k hk hm => (HJ.out.ro.kept k (by simpa using hk)).1 hm)) hb4)
            clear hb4 hw4 hro hst
            go_wp2_with fail
            go_roundw
            case rel =>
              refine ⟨⟨bs.drop q, m, l, s.told + 1, s.acc⟩, q, A2, m2, c2, F3, hqn, rfl, by dsimp only; rw [HT.out]; rfl, by dsimp only; rw [HTL.out]; go_num, rfl, ⟨HR4.out, HO4.out, HJ.out.dec.trans HST.out, rfl, ?_, ?_, ?_⟩⟩
              · dsimp only
                rw [HT.out]
                omega
              · dsimp only
                have := HJ.out.num
                omega
              · dsimp only
                rw [HTL.out]
                omega
            case measure => simp [intOf]; omega
    · obtain rfl : p = n := by omega
      have HD := hid (show decR (startD bs most L) = (s, true) by rw [HS0.out, HJ.out.dec]; exact decR_nil (by rw [HJ.out.at_]; exact List.drop_eq_nil_of_le (by rw [HLEN.out]; omega)))
      by_cases hrm : room < (T : Nat)
      · go_wp2_with fail
        go_ret2
        have h1 : decO bs room false most L = ([], 3) := by
          unfold decO
          rw [HD.out]
          simp only [Bool.false_eq_true, if_false, Bool.true_eq_false]
          rw [HT.out, if_pos hrm]
        have h2 : decT bs false most L = (false, s.most, s.L) := (decO_ok HD.out (room := 1099511627776) (by rw [HT.out]; omega)).2
        unfold RDecodePost
        rw [h1, h2]
        exact ⟨none, 0, 0, F2, s.most, s.L, rfl, Rd.nil _ _ _, HJ.out.ro.bare, fun _ => ⟨rfl, rfl⟩⟩
      · have hrm2 : ((T : Nat) : Int) ≤ room := by omega
        go_wp2_with fail
        go_ret2
        have h1 := decO_ok HD.out (room := room) (by rw [HT.out]; omega)
        unfold RDecodePost
        rw [h1.1, h1.2]
        exact ⟨A2, m2, c2, F2, s.most, s.L, rfl, Rd.of_own HJ.out.row, HJ.out.ro.bare, fun _ => ⟨rfl, rfl⟩⟩
theorem rdecode_any (room : Int) (B : Nat) (F : List Nat) (gd gt : Nat) (dead : Bool) (most : Int) (L : List Fd) (A : Option Addr) (n c : Nat) (bs : List UInt8) (w : World) (h : RDec w B F gd gt dead most L) (hA : Bs w A n bs) (hnc : n ≤ c) (hoff : 0 < n → Off A (gd :: F)) (hn : n ≤ 16777216) :
    Calls Tryd.prog 14 #[.pointer (some ⟨gd, 0, none⟩), .slice A n c, .int .i64 room] w (RDecodePost bs room B F gd gt dead most L w) := by
  cases dead with
  | true => exact rdecode_dead room B F gd gt most L A n c bs w h
  | false => exact rdecode_live room B F gd gt most L A n c bs w h hA hnc hoff hn
end Go.Proofs.YtdiejemhhcaicaaDoor
