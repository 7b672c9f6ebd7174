/- The reference's one: literals (printed by gen_one.py). Conditions: at most 2^30 bytes. -/
import Derived.Test.YtdiejemhhcaicaaDoorROneJ
namespace Go.Proofs.YtdiejemhhcaicaaDoor
open Go.RowKit
attribute [local go_sem] kd kdS
attribute [local go_sem ↓] sliced_word
attribute [local go_sem] offA_zero

set_option maxHeartbeats 2000000 in
set_option maxRecDepth 100000 in
theorem rone_plain (B : Nat) (F : List Nat) (gd gt : Nat) (dead : Bool) (most : Int) (L : List Fd) (A : Option Addr) (n c : Nat) (bs : List UInt8) (at_ : Nat) (x : UInt8) (w : World) (h : RDec w B F gd gt dead most L) (hA : Bs w A n bs) (hnc : n ≤ c) (hn : n ≤ 1073741824) (hx : bs[at_]? = some x) (hx1 : x.toNat < 16) :
    Calls Tryd.prog 29 #[.pointer (some ⟨gd, 0, none⟩), .slice A n c, .int .i64 at_] w (ROnePost bs at_ B F gd gt dead most L w) := by
  have HS := hid (RO.start h)
  have HAA := hid hA
  have HX := hid hx
  have hlen := hA.len
  have hlt : at_ < n := by have := (List.getElem?_eq_some_iff.1 hx).1; omega
  have HDR : Hid (∃ t, bs.drop at_ = x :: t) := hid ⟨_, by rw [List.drop_eq_getElem_cons (List.getElem?_eq_some_iff.1 hx).1, (List.getElem?_eq_some_iff.1 hx).2]⟩
  obtain ⟨b, o, x', rfl, hx', hc⟩ := hA.at_ hlt
  have hxx : x' = x := Option.some.inj (hx'.symm.trans hx)
  rw [hxx] at hc
  have hc1 : w.cell? ⟨b, o + at_, none⟩ = some (.int .u8 (x.toNat : Int)) := hc
  have HL := hid hlen
  obtain ⟨m, k, er, hR⟩ : ∃ m k er, getR (bs.drop at_) 4 = (m, k, er) := ⟨_, _, _, rfl⟩
  have HR := hid hR
  have HG : Hid (∀ w', Below w.heap.size w w' → Calls Tryd.prog 43 #[.slice (offA (some ⟨b, o, none⟩) at_ c 1) (n - at_) (c - at_), .int .i64 4] w' (GetPost (m, k, er) w')) := hid fun w' hb => by
    rw [← HR.out]
    exact rget_all _ _ (c - at_) _ 4 w' ((HAA.out.below hb).off (Nat.le_of_lt hlt) hnc) (by omega)
  have HBYT := hid hc1
  obtain ⟨xn, hxn⟩ : ∃ xn, x.toNat = xn := ⟨_, rfl⟩
  have HXN := hid hxn
  rw [hxn] at HBYT
  have h1i : (xn : Int) < 16 := by omega
  clear h hA hx hlen hx' hc hc1 hxx hR hxn
  go_enter Tryd.func29, Tryd.ntmps29
  go_upto_region 2 with fail
  obtain ⟨wa, hwa⟩ : ∃ wa, ((w.alloc (.cells #[.string ⟨#[]⟩, .string ⟨#[]⟩, .bool false] 31)).alloc (.cells #[.string ⟨#[]⟩, .string ⟨#[]⟩, .bool false] 31)) = wa := ⟨_, rfl⟩
  have hs1 : (w.alloc (.cells #[.string ⟨#[]⟩, .string ⟨#[]⟩, .bool false] 31)).heap.size = w.heap.size + 1 := World.size_alloc _ _
  have hX1 : BoxAt wa (w.heap.size + 1) zeroF := by rw [← hwa, ← hs1]; exact Blk.new _ _ _
  have hX0 : BoxAt wa w.heap.size zeroF := by rw [← hwa]; exact Blk.alloc (Blk.new w _ _) _
  have hba : Below w.heap.size w wa := by rw [← hwa]; exact ((Below.refl _ _).alloc (Nat.le_refl _) _).alloc (by rw [hs1]; omega) _
  rw [hwa]
  have hl1 := Blk.lt hX1
  have HO := hid ((HS.out.fresh hba (Nat.le_refl _) (by omega)).keep (k := w.heap.size + 1) (fun hm => by have := (HS.out.dec.ge_ _ hm).2; omega) hl1 (by omega))
  obtain ⟨p0, hp0⟩ : ∃ p, w.heap.size = p := ⟨_, rfl⟩
  obtain ⟨p1, hp1⟩ : ∃ p, w.heap.size + 1 = p := ⟨_, rfl⟩
  have HWP := hid (show w.heap.size = p0 ∧ p1 = p0 + 1 ∧ p1 < wa.heap.size by omega)
  have hne : p0 ≠ p1 := by omega
  have hne' : p1 ≠ p0 := by omega
  rw [hp1, hp0] at HO
  rw [hp1] at hX1
  rw [hp0] at hX0
  rw [hp1, hp0]
  have HX0 := hid hX0
  have HX1 := hid hX1
  have HBA := hid hba
  have HA1 := hid (HAA.out.below hba)
  have c1 := below_keep hba _ _ HBYT.out
  have HOFF := hid (show ∀ ad, some (⟨b, o, none⟩ : Addr) = some ad → ad.block < p0 from fun ad e => by injection e with e; rw [← e, ← HWP.out.1]; have hq := cell_lt HBYT.out; exact hq)
  clear hX0 hX1 hba hwa hs1 hl1 hp0 hp1 HBYT HS
  go_wp2_with fail
  refine (HG.out wa HBA.out).mono ?_
  rintro e w2 ⟨rfl, rfl⟩
  clear c1
  by_cases her : er = 0
  rotate_left
  · have HNN : Hid (numP (bs.drop at_) 4 = none) := hid (by unfold numP; rw [HR.out, if_neg her])
    have HNONE : Hid (oneD most L (bs.drop at_) = none) := hid (by
      obtain ⟨t, ht⟩ := HDR.out
      exact oneD_none ht (fun h => by omega) (fun _ h => by omega) (fun _ h => by omega) (fun _ => HNN.out))
    have her2 : (er != 0) = true := by simpa using her
    obtain ⟨c0, c1, c2⟩ := BoxAt.c HX1.out
    obtain ⟨y0, y1, y2⟩ := BoxAt.c HX0.out
    have yf0 := Blk.frozen HX0.out 0
    have yf1 := Blk.frozen HX0.out 1
    have yf2 := Blk.frozen HX0.out 2
    go_wp2_with fail
    refine rone_end (f := zeroF) rfl rfl rfl rfl HX0.out rfl HO.out (by simp) (fun hO => ?_)
    unfold ROnePost
    rw [HNONE.out]
    exact ⟨_, _, _, _, rfl, hO⟩
  subst her
  have hk := getR_ok (l := bs.drop at_) (bits := 4) (by rw [HR.out])
  rw [HR.out, List.length_drop, HL.out] at hk
  simp only at hk
  obtain ⟨hk1, hk2, hk3⟩ := hk
  obtain ⟨p, hp⟩ : ∃ p : Nat, at_ + k = p := ⟨_, rfl⟩
  have HNP : Hid (numP (bs.drop at_) 4 = some (m, bs.drop p)) := hid (by unfold numP; rw [HR.out, if_pos rfl, List.drop_drop, hp])
  have hpi : (at_ : Int) + (k : Int) = (p : Nat) := by omega
  have hpn : p ≤ n := by omega
  have hap : at_ < p := by omega
  have HPL := hid (show at_ < p ∧ p ≤ bs.length from ⟨hap, by rw [HL.out]; exact hpn⟩)
  clear hp HG HR
  have HOK := hid HO.out.dec.ok
  have HMX := hid hk3
  go_upto_region 20 with fail
  obtain ⟨wb, hwb⟩ : ∃ wb, wa.alloc (.cells #[.string ⟨#[]⟩, .string ⟨#[]⟩, .bool false] 31) = wb := ⟨_, rfl⟩
  have hX2 : BoxAt wb wa.heap.size ⟨⟨#[]⟩, ⟨#[]⟩, false⟩ := by rw [← hwb]; exact Blk.new wa _ _
  have hbb : Below wa.heap.size wa wb := by rw [← hwb]; exact (Below.refl _ _).alloc (Nat.le_refl _) _
  rw [hwb]
  have HB2 := hid (HO.out.fresh hbb (Nat.le_refl _) (Blk.lt hX2))
  have HX0B := hid (BoxAt.below HX0.out hbb)
  have HX1B := hid (BoxAt.below HX1.out hbb)
  have HA2 := hid (HA1.out.below hbb)
  obtain ⟨p2, hp2⟩ : ∃ p, wa.heap.size = p := ⟨_, rfl⟩
  have hne02 : p0 ≠ p2 := by have := HWP.out; omega
  have hlt02 : p0 < p2 := by have := HWP.out; omega
  have hne20 : p2 ≠ p0 := by have := HWP.out; omega
  have hne12 : p1 ≠ p2 := by have := HWP.out; omega
  have hne21 : p2 ≠ p1 := by have := HWP.out; omega
  rw [hp2] at HB2 hX2 ⊢
  have HX2 := hid hX2
  have hl2 := Blk.lt hX2
  clear hX2 hbb hwb hp2 HO HX0 HX1 HA1
  by_cases hm : 0 < m
  · have hmi : (0 : Int) < m := by omega
    go_wp2_with fail
    refine (rfield_any m HB2.out.dec HMX.out).mono ?_
    rintro e w3 ⟨f, rfl, hf, hb3⟩
    go_upto_region 23 with fail
    obtain ⟨w4, hw4⟩ : ∃ w4, w3.alloc (.cells #[.string f.n, .string f.v, .bool f.x] 31) = w4 := ⟨_, rfl⟩
    have hX4 : BoxAt w4 w3.heap.size f := by rw [← hw4]; exact Blk.new w3 _ _
    have hb4 : Below w3.heap.size w3 w4 := by rw [← hw4]; exact (Below.refl _ _).alloc (Nat.le_refl _) _
    rw [hw4]
    have hb5 := hb3.trans (hb4.mono hb3.size)
    obtain ⟨d0, d1, d2⟩ := BoxAt.c hX4
    have hne3 : w3.heap.size ≠ p2 := by have := hb3.size; omega
    have hne4 : p2 ≠ w3.heap.size := fun e => hne3 e.symm
    have HX0C := hid (BoxAt.below HX0B.out hb5)
    have HX1C := hid (BoxAt.below HX1B.out hb5)
    have HX2C := hid (BoxAt.below HX2.out hb5)
    have HB4 := hid (HB2.out.below hb5)
    have HA4 := hid (HA2.out.below hb5)
    clear hX4 hb3 hb4 hb5 hw4 HX0B HX1B HX2 HB2 HA2
    generalize w3.heap.size = p3 at d0 d1 d2 hne3 hne4 ⊢
    have HX0B := HX0C
    have HX1B := HX1C
    have HX2B := HX2C
    have HB2 := HB4
    obtain ⟨y0, y1, y2⟩ := BoxAt.c HX0B.out
    have yf0 := Blk.frozen HX0B.out 0
    have yf1 := Blk.frozen HX0B.out 1
    have yf2 := Blk.frozen HX0B.out 2
    obtain ⟨c0, c1, c2⟩ := BoxAt.c HX1B.out
    obtain ⟨z0, z1, z2⟩ := BoxAt.c HX2B.out
    have zf0 := Blk.frozen HX2B.out 0
    have zf1 := Blk.frozen HX2B.out 1
    have HT := hid (show Turned [p2] w4 (w4.setCell ⟨p2, 0, none⟩ (.string f.n)) from (Turned.refl _ _).setCell (by simp) _)
    rcases hat : atD L m with _ | f1
    · have HNONE : Hid (oneD most L (bs.drop at_) = none) := hid (by
        obtain ⟨t, ht⟩ := HDR.out
        rw [oneD_lit false ht (by omega) (decide_eq_false (by omega)).symm, litD_name_none HNP.out (nameD_ix_none hm _ hat)])
      rw [Option.isSome_none]
      clear hat
      go_wp2_with fail
      refine rone_end (f := zeroF) rfl rfl rfl rfl (BoxAt.own HX0B.out (HB2.out) HT.out hne02) rfl (HB2.out.own (p := p2) (by simp) HT.out) (by simp) (fun hO => ?_)
      unfold ROnePost
      rw [HNONE.out]
      exact ⟨_, _, _, _, rfl, hO⟩
    · obtain rfl := hf f1 hat
      have HND := hid (nameD_ix_some hm (bs.drop p) hat)
      have HNS := hid (nameD_ok (show total L ≤ 4096 by have := HOK.out.2.2.1; have := HOK.out.2.1; omega) HOK.out.2.2.2 HND.out).2
      rw [Option.isSome_some]
      clear hat hf hm
      go_upto_region 27 with fail
      have HX05 := hid (BoxAt.own HX0B.out HB2.out HT.out hne02)
      have HX15 := hid (BoxAt.own HX1B.out HB2.out HT.out hne12)
      have HX25 := hid (show BoxAt (w4.setCell ⟨p2, 0, none⟩ (.string f.n)) p2 ⟨f.n, ⟨#[]⟩, false⟩ from by
        have := Blk.set_ HX2B.out 0 (.string f.n)
        simpa [BoxAt] using this)
      have HB5 := hid (HB2.out.own (p := p2) (by simp) HT.out)
      have HA5 := hid (Bs.turned HA4.out HT.out (fun ad e hm => by have h1 := HOFF.out ad e; have := List.mem_singleton.1 hm; omega))
      clear c0 c1 c2 y0 y1 y2 yf0 yf1 yf2 z0 z1 z2 zf0 zf1 d0 d1 d2 HX0B HX1B HX2B HB2 HT HA4 HX0C HX1C HX2C HB4
      generalize w4.setCell ⟨p2, 0, none⟩ (.string f.n) = w5 at HX05 HX15 HX25 HB5 HA5 ⊢
      have HAA5 := hid HA5.out
      have HTX := hid (rtext_any _ n c bs p w5 HA5.out hnc hn (by omega))
      go_wp2_with fail
      refine HTX.out.mono ?_
      intro e w6 hp
      unfold RtPost at hp
      obtain ⟨hb6, hp⟩ := hp
      have HX0B := hid (BoxAt.below HX05.out hb6)
      have HX1B := hid (BoxAt.below HX15.out hb6)
      have HX2B := hid (BoxAt.below HX25.out hb6)
      have HB2 := hid (HB5.out.below hb6)
      clear hb6 HX05 HX15 HX25 HB5 HA5 HTX
      obtain ⟨y0, y1, y2⟩ := BoxAt.c HX0B.out
      have yf0 := Blk.frozen HX0B.out 0
      have yf1 := Blk.frozen HX0B.out 1
      have yf2 := Blk.frozen HX0B.out 2
      obtain ⟨c0, c1, c2⟩ := BoxAt.c HX1B.out
      obtain ⟨z0, z1, z2⟩ := BoxAt.c HX2B.out
      have zf0 := Blk.frozen HX2B.out 0
      have zf1 := Blk.frozen HX2B.out 1
      rcases htx : textD (bs.drop p) with _ | ⟨v, r2⟩
      · rw [htx] at hp
        obtain ⟨s, i, rfl⟩ := hp
        have HNONE : Hid (oneD most L (bs.drop at_) = none) := hid (by
          obtain ⟨t, ht⟩ := HDR.out
          rw [oneD_lit false ht (by omega) (decide_eq_false (by omega)).symm, litD_val_none HNP.out HND.out htx])
        have HT := hid (show Turned [p2] w6 (w6.setCell ⟨p2, 1, none⟩ (.string s)) from (Turned.refl _ _).setCell (by simp) _)
        clear htx
        go_wp2_with fail
        refine rone_end (f := zeroF) rfl rfl rfl rfl (BoxAt.own HX0B.out (HB2.out) HT.out hne02) rfl (HB2.out.own (p := p2) (by simp) HT.out) (by simp) (fun hO => ?_)
        unfold ROnePost
        rw [HNONE.out]
        exact ⟨_, _, _, _, rfl, hO⟩
      · rw [htx] at hp
        obtain ⟨k2, hk2a, hk2b, rfl, rfl⟩ := hp
        have HK2 := hid (show at_ < k2 ∧ k2 ≤ bs.length by omega)
        have HSOME : Hid (oneD most L (bs.drop at_) = some (⟨f.n, ⟨v.toArray⟩, false⟩, bs.drop k2, false, most, L)) := hid (by
          obtain ⟨t, ht⟩ := HDR.out
          rw [oneD_lit false ht (by omega) (decide_eq_false (by omega)).symm, litD_some HNP.out HND.out htx]
          all_goals rfl)
        have hT : Turned [p2] w6 (w6.setCell ⟨p2, 1, none⟩ (.string ⟨v.toArray⟩)) := (Turned.refl _ _).setCell (by simp) _
        have HT := hid hT
        have HV := hid (show BoxAt (w6.setCell ⟨p2, 1, none⟩ (.string ⟨v.toArray⟩)) p2 ⟨f.n, ⟨v.toArray⟩, false⟩ from by
          have := Blk.set_ HX2B.out 1 (.string ⟨v.toArray⟩)
          simpa [BoxAt] using this)
        clear htx hT hk2a hk2b
        go_wp2_with fail
        refine rone_end (f := ⟨f.n, ⟨v.toArray⟩, false⟩) rfl rfl rfl rfl (BoxAt.own HX0B.out HB2.out HT.out hne02) rfl (HB2.out.own (p := p2) (by simp) HT.out) (by simp) (fun hO => ?_)
        unfold ROnePost
        rw [HSOME.out]
        exact ⟨k2, _, HK2.out.1, HK2.out.2, rfl, rfl, hO⟩
  · obtain rfl : m = 0 := by omega
    have HAA4 := hid HA2.out
    have HTX := hid (rtext_any _ n c bs p wb HA2.out hnc hn (by omega))
    go_wp2_with fail
    refine HTX.out.mono ?_
    intro e w4 hp
    unfold RtPost at hp
    obtain ⟨hb4, hp⟩ := hp
    have HX0C := hid (BoxAt.below HX0B.out hb4)
    have HX1C := hid (BoxAt.below HX1B.out hb4)
    have HX2C := hid (BoxAt.below HX2.out hb4)
    have HB4 := hid (HB2.out.below hb4)
    have HA4 := hid (HA2.out.below hb4)
    clear hb4 HTX HX0B HX1B HX2 HB2 HA2
    have HX0B := HX0C
    have HX1B := HX1C
    have HX2B := HX2C
    have HB2 := HB4
    obtain ⟨y0, y1, y2⟩ := BoxAt.c HX0B.out
    have yf0 := Blk.frozen HX0B.out 0
    have yf1 := Blk.frozen HX0B.out 1
    have yf2 := Blk.frozen HX0B.out 2
    obtain ⟨c0, c1, c2⟩ := BoxAt.c HX1B.out
    obtain ⟨z0, z1, z2⟩ := BoxAt.c HX2B.out
    have zf0 := Blk.frozen HX2B.out 0
    have zf1 := Blk.frozen HX2B.out 1
    rcases htx : textD (bs.drop p) with _ | ⟨u, r1⟩
    · rw [htx] at hp
      obtain ⟨s, i, rfl⟩ := hp
      have HNONE : Hid (oneD most L (bs.drop at_) = none) := hid (by
        obtain ⟨t, ht⟩ := HDR.out
        rw [oneD_lit false ht (by omega) (decide_eq_false (by omega)).symm, litD_name_none HNP.out (nameD_text_none hm htx)])
      have HT := hid (show Turned [p2] w4 (w4.setCell ⟨p2, 0, none⟩ (.string s)) from (Turned.refl _ _).setCell (by simp) _)
      clear htx
      go_wp2_with fail
      refine rone_end (f := zeroF) rfl rfl rfl rfl (BoxAt.own HX0B.out (HB2.out) HT.out hne02) rfl (HB2.out.own (p := p2) (by simp) HT.out) (by simp) (fun hO => ?_)
      unfold ROnePost
      rw [HNONE.out]
      exact ⟨_, _, _, _, rfl, hO⟩
    · rw [htx] at hp
      obtain ⟨q, hqa, hqb, rfl, rfl⟩ := hp
      have HND := hid (nameD_text_some (L := L) hm htx)
      have HNS := hid (nameD_ok (show total L ≤ 4096 by have := HOK.out.2.2.1; have := HOK.out.2.1; omega) HOK.out.2.2.2 HND.out).2
      have HT := hid (show Turned [p2] w4 (w4.setCell ⟨p2, 0, none⟩ (.string ⟨u.toArray⟩)) from (Turned.refl _ _).setCell (by simp) _)
      have hqn : q ≤ n := by have := HL.out; omega
      clear htx hm
      go_upto_region 27 with fail
      have HX05 := hid (BoxAt.own HX0B.out HB2.out HT.out hne02)
      have HX15 := hid (BoxAt.own HX1B.out HB2.out HT.out hne12)
      have HX25 := hid (show BoxAt (w4.setCell ⟨p2, 0, none⟩ (.string ⟨u.toArray⟩)) p2 ⟨⟨u.toArray⟩, ⟨#[]⟩, false⟩ from by
        have := Blk.set_ HX2B.out 0 (.string ⟨u.toArray⟩)
        simpa [BoxAt] using this)
      have HB5 := hid (HB2.out.own (p := p2) (by simp) HT.out)
      have HA5 := hid (Bs.turned HA4.out HT.out (fun ad e hm => by have h1 := HOFF.out ad e; have := List.mem_singleton.1 hm; omega))
      clear c0 c1 c2 y0 y1 y2 yf0 yf1 yf2 z0 z1 z2 zf0 zf1 HX0B HX1B HX2B HB2 HT HA4 HX0C HX1C HX2C HB4
      generalize w4.setCell ⟨p2, 0, none⟩ (.string ⟨u.toArray⟩) = w5 at HX05 HX15 HX25 HB5 HA5 ⊢
      have HAA5 := hid HA5.out
      have HTX := hid (rtext_any _ n c bs q w5 HA5.out hnc hn (by omega))
      go_wp2_with fail
      refine HTX.out.mono ?_
      intro e w6 hp
      unfold RtPost at hp
      obtain ⟨hb6, hp⟩ := hp
      have HX0B := hid (BoxAt.below HX05.out hb6)
      have HX1B := hid (BoxAt.below HX15.out hb6)
      have HX2B := hid (BoxAt.below HX25.out hb6)
      have HB2 := hid (HB5.out.below hb6)
      clear hb6 HX05 HX15 HX25 HB5 HA5 HTX
      obtain ⟨y0, y1, y2⟩ := BoxAt.c HX0B.out
      have yf0 := Blk.frozen HX0B.out 0
      have yf1 := Blk.frozen HX0B.out 1
      have yf2 := Blk.frozen HX0B.out 2
      obtain ⟨c0, c1, c2⟩ := BoxAt.c HX1B.out
      obtain ⟨z0, z1, z2⟩ := BoxAt.c HX2B.out
      have zf0 := Blk.frozen HX2B.out 0
      have zf1 := Blk.frozen HX2B.out 1
      rcases htx : textD (bs.drop q) with _ | ⟨v, r2⟩
      · rw [htx] at hp
        obtain ⟨s, i, rfl⟩ := hp
        have HNONE : Hid (oneD most L (bs.drop at_) = none) := hid (by
          obtain ⟨t, ht⟩ := HDR.out
          rw [oneD_lit false ht (by omega) (decide_eq_false (by omega)).symm, litD_val_none HNP.out HND.out htx])
        have HT := hid (show Turned [p2] w6 (w6.setCell ⟨p2, 1, none⟩ (.string s)) from (Turned.refl _ _).setCell (by simp) _)
        clear htx
        go_wp2_with fail
        refine rone_end (f := zeroF) rfl rfl rfl rfl (BoxAt.own HX0B.out (HB2.out) HT.out hne02) rfl (HB2.out.own (p := p2) (by simp) HT.out) (by simp) (fun hO => ?_)
        unfold ROnePost
        rw [HNONE.out]
        exact ⟨_, _, _, _, rfl, hO⟩
      · rw [htx] at hp
        obtain ⟨k2, hk2a, hk2b, rfl, rfl⟩ := hp
        have HK2 := hid (show at_ < k2 ∧ k2 ≤ bs.length by omega)
        have HSOME : Hid (oneD most L (bs.drop at_) = some (⟨⟨u.toArray⟩, ⟨v.toArray⟩, false⟩, bs.drop k2, false, most, L)) := hid (by
          obtain ⟨t, ht⟩ := HDR.out
          rw [oneD_lit false ht (by omega) (decide_eq_false (by omega)).symm, litD_some HNP.out HND.out htx]
          all_goals rfl)
        have hT : Turned [p2] w6 (w6.setCell ⟨p2, 1, none⟩ (.string ⟨v.toArray⟩)) := (Turned.refl _ _).setCell (by simp) _
        have HT := hid hT
        have HV := hid (show BoxAt (w6.setCell ⟨p2, 1, none⟩ (.string ⟨v.toArray⟩)) p2 ⟨⟨u.toArray⟩, ⟨v.toArray⟩, false⟩ from by
          have := Blk.set_ HX2B.out 1 (.string ⟨v.toArray⟩)
          simpa [BoxAt] using this)
        clear htx hT hk2a hk2b
        go_wp2_with fail
        refine rone_end (f := ⟨⟨u.toArray⟩, ⟨v.toArray⟩, false⟩) rfl rfl rfl rfl (BoxAt.own HX0B.out HB2.out HT.out hne02) rfl (HB2.out.own (p := p2) (by simp) HT.out) (by simp) (fun hO => ?_)
        unfold ROnePost
        rw [HSOME.out]
        exact ⟨k2, _, HK2.out.1, HK2.out.2, rfl, rfl, hO⟩
end Go.Proofs.YtdiejemhhcaicaaDoor
