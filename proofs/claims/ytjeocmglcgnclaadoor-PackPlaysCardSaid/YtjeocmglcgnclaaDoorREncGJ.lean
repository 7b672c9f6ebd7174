/- The reference's encoder: field, once (printed by gen_rfield.py). Conditions: at most 2^29 bytes a text. -/
import Derived.Test.YtjeocmglcgnclaaDoorREncFJ
namespace Go.Proofs.YtjeocmglcgnclaaDoor
open Go.RowKit
attribute [local go_sem] kd kdS

set_option maxHeartbeats 1000000 in
set_option maxRecDepth 100000 in
theorem rfield9_any (f : Fd) (B : Nat) (F : List Nat) (ge gt : Nat) (most told least : Int) (set : Bool) (L : List Fd) (w : World) (h : REnc w B F ge gt most told least set L) (hn : f.n.size ≤ 536870912) (hv : f.v.size ≤ 536870912) :
    Calls Tryd.prog 36 #[.pointer (some ⟨ge, 0, none⟩), f.val] w (RFPost (fieldP most L f).1 B F ge gt most told least set (fieldP most L f).2 w) := by
  obtain ⟨i0, hi0, hz0, hz1, hz2⟩ := info_parts u8_info
  have hi := hid hi0
  have hz := hid hz0
  have hsz := hid hz1
  have hby := hid hz2
  clear hi0 hz0 hz1 hz2
  have H := hid h
  have hLl := h.ok.len
  have hfa := findP_le f.n.data.toList f.v.data.toList 61
  have hfb := findK_le L f.n f.v L.length
  obtain ⟨x, hx⟩ : ∃ x, (findP f.n.data.toList f.v.data.toList 61).1 = x := ⟨_, rfl⟩
  obtain ⟨y, hy⟩ : ∃ y, (findP f.n.data.toList f.v.data.toList 61).2 = y := ⟨_, rfl⟩
  obtain ⟨u, hu⟩ : ∃ u, (findK L f.n f.v L.length).1 = u := ⟨_, rfl⟩
  obtain ⟨v, hv2⟩ : ∃ v, (findK L f.n f.v L.length).2 = v := ⟨_, rfl⟩
  have HBI : Hid (bothI L f = ixB x u) := hid (by unfold bothI; rw [hx, hu])
  have HNI : Hid (nameI L f = ixB y v) := hid (by unfold nameI; rw [hy, hv2])
  have HX : Hid (∀ w, Calls Tryd.prog 50 #[.string f.n, .string f.v] w fun e w' => e = .returned (.tuple #[.int .i64 x, .int .i64 y]) ∧ Below w.heap.size w w') := hid (fun w => by rw [← hx, ← hy]; exact rsfind_any f.n f.v w)
  have HK : Hid (∀ w, RT w B F gt most L → Calls Tryd.prog 51 #[.pointer (some ⟨gt, 0, none⟩), .string f.n, .string f.v] w fun e w' => e = .returned (.tuple #[.int .i64 u, .int .i64 v]) ∧ Below w.heap.size w w') := hid (fun w h => by rw [← hu, ← hv2]; exact rtfind_any f.n f.v h (by omega))
  rw [hx, hy] at hfa
  rw [hu, hv2] at hfb
  clear hx hy hu hv2 h
  go_enter Tryd.func36, Tryd.ntmps36
  go_upto_region 1 with fail
  obtain ⟨wa, hwa⟩ : ∃ wa, w.alloc (.cells #[.string f.n, .string f.v, .bool f.x] 23) = wa := ⟨_, rfl⟩
  have hFa : BoxAt wa w.heap.size f := by rw [← hwa]; exact Blk.new w _ _
  have hba : Below w.heap.size w wa := by rw [← hwa]; exact (Below.refl _ _).alloc (Nat.le_refl _) _
  rw [hwa]
  obtain ⟨bx, hbx⟩ : ∃ bx, w.heap.size = bx := ⟨_, rfl⟩
  rw [hbx] at hFa ⊢
  have HF := hid hFa
  have HB := hid hba
  obtain ⟨c0, c1, c2⟩ := BoxAt.c hFa
  clear hFa hba hwa hbx
  go_wp2_with fail
  refine (HX.out wa).mono ?_
  rintro e w1 ⟨rfl, hb1⟩
  have HF1 := hid (BoxAt.below HF.out hb1)
  have HB1 := hid (HB.out.trans (hb1.mono HB.out.size))
  clear hb1 c0 c1 c2 HF HB
  obtain ⟨c0, c1, c2⟩ := BoxAt.c HF1.out
  have e0 := (H.out.below HB1.out).blk.cell 0
  simp at e0
  go_wp2_with fail
  go_cut [7, 8] (fun s t wx => s = .int .i64 u ∧ t = .int .i64 v ∧ Below w1.heap.size w1 wx)
  case first =>
    (refine wp_mix ?_ ?_ ?_; (focus kernel_rfl); (focus kernel_rfl); intro KK hKK; go_wp2_with (first
          | (go_at_call 51; go_must (with_reducible refine (HK.out _ ((H.out.below HB1.out).tb.below (Below.refl w1.heap.size w1).drew)).mono ?_); rintro e w2 ⟨rfl, hb2⟩; have HB2 := hid ((Below.refl w1.heap.size w1).drew.trans hb2); clear hb2)
          | (with_reducible refine mix_nil ?_)
          | ((with_reducible refine mix_on ?_ ?_); (focus rfl); intro K hK; go_simp; (first | ((with_reducible refine hK _ _ ?_); clear hK K) | skip))
          | ((with_reducible refine mix_off ?_ ?_); (focus rfl); intro K hK; go_simp; (first | ((with_reducible refine hK _ _ ?_); clear hK K) | skip))
          | ((with_reducible refine mix_step ?_); intro K hK; go_simp; (first | ((with_reducible refine hK _ _ ?_); clear hK K) | skip))))
    go_meet
    exact ⟨rfl, rfl, HB2.out⟩
  case rest =>
  obtain ⟨rfl, rfl, hb2⟩ := hcut
  obtain ⟨w2, rfl⟩ : ∃ w2 : World, w2 = wc := ⟨_, rfl⟩
  have HF2 := hid (BoxAt.below HF1.out hb2)
  have HB2 := hid (HB1.out.trans (hb2.mono HB1.out.size))
  clear hb2 c0 c1 c2 e0
  clear HB1 HF1 HX HK
  go_upto_region 3 with fail
  go_cut [40] (fun s wx => s = .bool (decide (x = 0 ∧ 0 < u)) ∧ w2 = wx)
  case first =>
    by_cases hu : 0 < u
    · by_cases hx : x = 0
      · go_wp2_with fail
        go_meet
        exact ⟨by rw [decide_eq_true ⟨hx, hu⟩], rfl⟩
      · have hx1 : ((x : Int) == 0) = false := by simp; omega
        go_wp2_with fail
        go_meet
        exact ⟨by rw [decide_eq_false (fun h => hx h.1)], rfl⟩
    · go_wp2_with fail
      go_meet
      exact ⟨by rw [decide_eq_false (fun h => hu h.2)], rfl⟩
  case rest =>
  obtain ⟨rfl, rfl⟩ := hcut
  go_upto_if 40 with fail
  go_cut [5] (fun s wx => s = .int .i64 ((ixB x u : Nat) : Int) ∧ w2 = wx)
  case first =>
    by_cases hxu : x = 0 ∧ 0 < u
    · have hd := decide_eq_true hxu
      go_wp2_with fail
      go_meet
      exact ⟨by rw [ix_own hxu.1 hxu.2]; go_num, rfl⟩
    · have hd := decide_eq_false hxu
      go_wp2_with fail
      go_meet
      exact ⟨by rw [ix_stat hxu], rfl⟩
  case rest =>
  obtain ⟨rfl, rfl⟩ := hcut
  go_upto_region 5 with fail
  go_cut [48] (fun s wx => s = .bool (decide (y = 0 ∧ 0 < v)) ∧ w2 = wx)
  case first =>
    by_cases hu : 0 < v
    · by_cases hx : y = 0
      · go_wp2_with fail
        go_meet
        exact ⟨by rw [decide_eq_true ⟨hx, hu⟩], rfl⟩
      · have hx1 : ((y : Int) == 0) = false := by simp; omega
        go_wp2_with fail
        go_meet
        exact ⟨by rw [decide_eq_false (fun h => hx h.1)], rfl⟩
    · go_wp2_with fail
      go_meet
      exact ⟨by rw [decide_eq_false (fun h => hu h.2)], rfl⟩
  case rest =>
  obtain ⟨rfl, rfl⟩ := hcut
  go_upto_if 48 with fail
  go_cut [6] (fun s wx => s = .int .i64 ((ixB y v : Nat) : Int) ∧ w2 = wx)
  case first =>
    by_cases hxu : y = 0 ∧ 0 < v
    · have hd := decide_eq_true hxu
      go_wp2_with fail
      go_meet
      exact ⟨by rw [ix_own hxu.1 hxu.2]; go_num, rfl⟩
    · have hd := decide_eq_false hxu
      go_wp2_with fail
      go_meet
      exact ⟨by rw [ix_stat hxu], rfl⟩
  case rest =>
  obtain ⟨rfl, rfl⟩ := hcut
  obtain ⟨bo, hbo⟩ : ∃ bo, ixB x u = bo := ⟨_, rfl⟩
  obtain ⟨na, hna⟩ : ∃ na, ixB y v = na := ⟨_, rfl⟩
  have hbl : bo ≤ 4157 := by rw [← hbo]; exact ix_le (by omega) (by omega)
  have hnl : na ≤ 4157 := by rw [← hna]; exact ix_le (by omega) (by omega)
  have HBO : Hid (bothI L f = bo) := hid (by rw [HBI.out, hbo])
  have HNA : Hid (nameI L f = na) := hid (by rw [HNI.out, hna])
  rw [hbo, hna]
  clear hbo hna HBI HNI hfa hfb
  have HS2 := hid (show Below w.heap.size w w2 ∧ BoxAt w2 bx f from ⟨HB2.out, HF2.out⟩)
  have hsz2 := HB2.out.size
  obtain ⟨c0, c1, c2⟩ := BoxAt.c HF2.out
  clear HB2 HF2
  rcases hx : f.x with _ | _
  · rw [hx] at c2
    have HX := hid (show ¬ f.x = true by rw [hx]; simp)
    by_cases hb : 0 < bo
    · have HBZ := hid (show 0 < bothI L f by rw [HBO.out]; exact hb)
      go_wp2_with fail
      refine (rput_all 128 7 (bo : Int) w2 (by omega) (by omega)).mono ?_
      rintro e w3 ⟨A3, m3, k3, rfl, ho, hb3⟩
      have HB3 := hid (show FB w w3 bx f A3 m3 k3 (putR 128 7 (bo : Int)).1 from ⟨HS2.out.1.trans (hb3.mono hsz2), ho.mono hsz2, BoxAt.below HS2.out.2 hb3⟩)
      clear ho hb3 c0 c1 c2
      go_wp2_with fail
      go_ret
      exact RFPost.plain H.out HB3.out (by unfold fieldP; rw [if_neg HX.out, if_pos HBZ.out, HBO.out]) (by unfold fieldP; rw [if_neg HX.out, if_pos HBZ.out])
    · have HBZ := hid (show ¬ 0 < bothI L f by rw [HBO.out]; exact hb)
      by_cases hna0 : na = 0
      · subst hna0
        go_wp2_with fail
        refine (rput_all 64 6 (0 : Int) w2 (by omega) (by omega)).mono ?_
        rintro e w3 ⟨A3, m3, k3, rfl, ho, hb3⟩
        have HB3 := hid (show FB w w3 bx f A3 m3 k3 (putR 64 6 (0 : Int)).1 from ⟨HS2.out.1.trans (hb3.mono hsz2), ho.mono hsz2, BoxAt.below HS2.out.2 hb3⟩)
        have hm3 : m3 ≤ 7 := by have := own_len ho; have := putR_len 64 6 (0 : Int); omega
        clear ho hb3 c0 c1 c2
        obtain ⟨c0, c1, c2⟩ := BoxAt.c HB3.out.box
        rw [hx] at c2
        have hw3 := HB3.out.out.size
        go_upto_region 16 with (first
          | (go_at_call 52; go_must (refine (rput_text f.n _ (by omega)).mono ?_; rintro e wq ⟨Aq, mq, cq, rfl, hoq, hbq⟩; have HBQ := hid (HB3.out.below hbq); have hsq := HBQ.out.out.size; have hlq := own_len hoq; have HRQ := hid (Rd.of_own hoq); have hmq : mq ≤ 536870919 := (by have h3 := textP_len f.n.data.toList; have h4 := ba_len f.n; omega); clear hoq hbq hlq))
          | (at_builtin; go_must (refine wpList_app _ rfl _ _ _ rfl w.heap.size 5 i0 _ 1 1 Tryd.underlying29 hi.out hz.out hsz.out hby.out rfl (by omega) _ m3 _ rfl HBQ.out.row Aq mq cq ((textP f.n.data.toList).map bv) rfl HRQ.out (bv_one _) (by omega) (by omega) hsq ?_; intro A4 k4 w4 hown hg hat; have HB4 := hid (HBQ.out.app hown hg); clear hown hg hat)))
        clear c0 c1 c2 HBQ HRQ
        obtain ⟨c0, c1, c2⟩ := BoxAt.c HB4.out.box
        rw [hx] at c2
        have hw4 := HB4.out.out.size
        go_upto_region 17 with (first
          | (go_at_call 52; go_must (refine (rput_text f.v _ (by omega)).mono ?_; rintro e wv ⟨Ar, mr, cr, rfl, hor, hbr⟩; have HBR := hid (HB4.out.below hbr); have hsr := HBR.out.out.size; have hlr := own_len hor; have HRR := hid (Rd.of_own hor); have hmr : mr ≤ 536870919 := (by have h3 := textP_len f.v.data.toList; have h4 := ba_len f.v; omega); clear hor hbr hlr))
          | (at_builtin; go_must (refine wpList_app _ rfl _ _ _ rfl w.heap.size 5 i0 _ 1 1 Tryd.underlying29 hi.out hz.out hsz.out hby.out rfl (by omega) _ (m3 + mq) _ rfl HBR.out.row Ar mr cr ((textP f.v.data.toList).map bv) rfl HRR.out (bv_one _) (by omega) (by omega) hsr ?_; intro A5 k5 w5 hown hg hat; have HB5 := hid (HBR.out.app hown hg); clear hown hg hat)))
        clear c0 c1 c2 HBR HRR
        obtain ⟨c0, c1, c2⟩ := BoxAt.c HB5.out.box
        rw [hx] at c2
        have e0 := (H.out.below HB5.out.out).blk.cell 0
        simp at e0
        have HOK := hid H.out.ok
        have HADD := hid (show Calls Tryd.prog 53 #[.pointer (some ⟨gt, 0, none⟩), .agg #[.string f.n, .string f.v, .bool false]] w5.drew (RTPost (.tuple #[]) B F gt most (addL most L f) w5.drew) from by
          have h4 := radd_any (w := w5.drew) f ((H.out.below HB5.out.out).tb.below (Below.refl w5.heap.size w5).drew) (by have := HOK.out.2.1; have := HOK.out.2.2.1; omega) (by unfold Fd.size; omega) (by have := HOK.out.len; omega) (by have := (H.out.tb.ge gt H.out.tb.mem).1; have := (H.out.tb.ge gt H.out.tb.mem).2; have h5 := HB5.out.out.size; have h6 := (Below.refl w5.heap.size w5).drew.size; omega) HOK.out.1
          unfold Fd.val at h4
          rw [hx] at h4
          exact h4)
        go_wp2_with fail
        (refine wp_mix ?_ ?_ ?_; (focus kernel_rfl); (focus kernel_rfl); intro KK hKK; go_wp2_with (first
              | (go_at_call 53; go_must (with_reducible refine HADD.out.mono ?_); rintro e w8 ⟨F8, rfl, h8, ht8, hk8⟩; have HE8 := hid (fun (o' : List UInt8) (L2 : List Fd) (ho : o' = _) (hL : L2 = _) => RFPost.added (o' := o') (L2 := L2) H.out (HB5.out.below (Below.refl w5.heap.size w5).drew) h8 ht8 hk8 (HOK.out.add f) ho hL); clear h8 ht8 hk8)
              | (with_reducible refine mix_nil ?_)
              | ((with_reducible refine mix_on ?_ ?_); (focus rfl); intro K hK; go_simp; (first | ((with_reducible refine hK _ _ ?_); clear hK K) | skip))
              | ((with_reducible refine mix_off ?_ ?_); (focus rfl); intro K hK; go_simp; (first | ((with_reducible refine hK _ _ ?_); clear hK K) | skip))
              | ((with_reducible refine mix_step ?_); intro K hK; go_simp; (first | ((with_reducible refine hK _ _ ?_); clear hK K) | skip))))
        try go_wp2_with fail
        go_ret
        exact HE8.out _ _ (by unfold fieldP; rw [if_neg HX.out, if_neg HBZ.out]; unfold litP; rw [HNA.out, if_pos rfl]; simp only [List.append_assoc, Int.natCast_zero]) (by unfold fieldP; rw [if_neg HX.out, if_neg HBZ.out])
      · have hz1 : ((na : Int) == 0) = false := by simp; omega
        go_wp2_with fail
        refine (rput_all 64 6 (na : Int) w2 (by omega) (by omega)).mono ?_
        rintro e w3 ⟨A3, m3, k3, rfl, ho, hb3⟩
        have HB3 := hid (show FB w w3 bx f A3 m3 k3 (putR 64 6 (na : Int)).1 from ⟨HS2.out.1.trans (hb3.mono hsz2), ho.mono hsz2, BoxAt.below HS2.out.2 hb3⟩)
        have hm3 : m3 ≤ 7 := by have := own_len ho; have := putR_len 64 6 (na : Int); omega
        clear ho hb3 c0 c1 c2
        obtain ⟨c0, c1, c2⟩ := BoxAt.c HB3.out.box
        rw [hx] at c2
        have hw3 := HB3.out.out.size
        go_upto_region 17 with (first
          | (go_at_call 52; go_must (refine (rput_text f.v _ (by omega)).mono ?_; rintro e wq ⟨Aq, mq, cq, rfl, hoq, hbq⟩; have HBQ := hid (HB3.out.below hbq); have hsq := HBQ.out.out.size; have hlq := own_len hoq; have HRQ := hid (Rd.of_own hoq); have hmq : mq ≤ 536870919 := (by have h3 := textP_len f.v.data.toList; have h4 := ba_len f.v; omega); clear hoq hbq hlq))
          | (at_builtin; go_must (refine wpList_app _ rfl _ _ _ rfl w.heap.size 5 i0 _ 1 1 Tryd.underlying29 hi.out hz.out hsz.out hby.out rfl (by omega) _ m3 _ rfl HBQ.out.row Aq mq cq ((textP f.v.data.toList).map bv) rfl HRQ.out (bv_one _) (by omega) (by omega) hsq ?_; intro A5 k5 w5 hown hg hat; have HB5 := hid (HBQ.out.app hown hg); clear hown hg hat)))
        clear c0 c1 c2 HBQ HRQ
        obtain ⟨c0, c1, c2⟩ := BoxAt.c HB5.out.box
        rw [hx] at c2
        have e0 := (H.out.below HB5.out.out).blk.cell 0
        simp at e0
        have HOK := hid H.out.ok
        have HADD := hid (show Calls Tryd.prog 53 #[.pointer (some ⟨gt, 0, none⟩), .agg #[.string f.n, .string f.v, .bool false]] w5.drew (RTPost (.tuple #[]) B F gt most (addL most L f) w5.drew) from by
          have h4 := radd_any (w := w5.drew) f ((H.out.below HB5.out.out).tb.below (Below.refl w5.heap.size w5).drew) (by have := HOK.out.2.1; have := HOK.out.2.2.1; omega) (by unfold Fd.size; omega) (by have := HOK.out.len; omega) (by have := (H.out.tb.ge gt H.out.tb.mem).1; have := (H.out.tb.ge gt H.out.tb.mem).2; have h5 := HB5.out.out.size; have h6 := (Below.refl w5.heap.size w5).drew.size; omega) HOK.out.1
          unfold Fd.val at h4
          rw [hx] at h4
          exact h4)
        go_wp2_with fail
        (refine wp_mix ?_ ?_ ?_; (focus kernel_rfl); (focus kernel_rfl); intro KK hKK; go_wp2_with (first
              | (go_at_call 53; go_must (with_reducible refine HADD.out.mono ?_); rintro e w8 ⟨F8, rfl, h8, ht8, hk8⟩; have HE8 := hid (fun (o' : List UInt8) (L2 : List Fd) (ho : o' = _) (hL : L2 = _) => RFPost.added (o' := o') (L2 := L2) H.out (HB5.out.below (Below.refl w5.heap.size w5).drew) h8 ht8 hk8 (HOK.out.add f) ho hL); clear h8 ht8 hk8)
              | (with_reducible refine mix_nil ?_)
              | ((with_reducible refine mix_on ?_ ?_); (focus rfl); intro K hK; go_simp; (first | ((with_reducible refine hK _ _ ?_); clear hK K) | skip))
              | ((with_reducible refine mix_off ?_ ?_); (focus rfl); intro K hK; go_simp; (first | ((with_reducible refine hK _ _ ?_); clear hK K) | skip))
              | ((with_reducible refine mix_step ?_); intro K hK; go_simp; (first | ((with_reducible refine hK _ _ ?_); clear hK K) | skip))))
        try go_wp2_with fail
        go_ret
        exact HE8.out _ _ (by unfold fieldP; rw [if_neg HX.out, if_neg HBZ.out]; unfold litP; rw [HNA.out, if_neg hna0]; simp only [List.append_nil]) (by unfold fieldP; rw [if_neg HX.out, if_neg HBZ.out])
  · rw [hx] at c2
    have HX := hid (show f.x = true from hx)
    by_cases hb : 0 < bo
    all_goals
      by_cases hna0 : na = 0
      · subst hna0
        go_wp2_with fail
        refine (rput_all 16 4 (0 : Int) w2 (by omega) (by omega)).mono ?_
        rintro e w3 ⟨A3, m3, k3, rfl, ho, hb3⟩
        have HB3 := hid (show FB w w3 bx f A3 m3 k3 (putR 16 4 (0 : Int)).1 from ⟨HS2.out.1.trans (hb3.mono hsz2), ho.mono hsz2, BoxAt.below HS2.out.2 hb3⟩)
        have hm3 : m3 ≤ 7 := by have := own_len ho; have := putR_len 16 4 (0 : Int); omega
        clear ho hb3 c0 c1 c2
        obtain ⟨c0, c1, c2⟩ := BoxAt.c HB3.out.box
        rw [hx] at c2
        have hw3 := HB3.out.out.size
        go_upto_region 16 with (first
          | (go_at_call 52; go_must (refine (rput_text f.n _ (by omega)).mono ?_; rintro e wq ⟨Aq, mq, cq, rfl, hoq, hbq⟩; have HBQ := hid (HB3.out.below hbq); have hsq := HBQ.out.out.size; have hlq := own_len hoq; have HRQ := hid (Rd.of_own hoq); have hmq : mq ≤ 536870919 := (by have h3 := textP_len f.n.data.toList; have h4 := ba_len f.n; omega); clear hoq hbq hlq))
          | (at_builtin; go_must (refine wpList_app _ rfl _ _ _ rfl w.heap.size 5 i0 _ 1 1 Tryd.underlying29 hi.out hz.out hsz.out hby.out rfl (by omega) _ m3 _ rfl HBQ.out.row Aq mq cq ((textP f.n.data.toList).map bv) rfl HRQ.out (bv_one _) (by omega) (by omega) hsq ?_; intro A4 k4 w4 hown hg hat; have HB4 := hid (HBQ.out.app hown hg); clear hown hg hat)))
        clear c0 c1 c2 HBQ HRQ
        obtain ⟨c0, c1, c2⟩ := BoxAt.c HB4.out.box
        rw [hx] at c2
        have hw4 := HB4.out.out.size
        go_upto_region 17 with (first
          | (go_at_call 52; go_must (refine (rput_text f.v _ (by omega)).mono ?_; rintro e wv ⟨Ar, mr, cr, rfl, hor, hbr⟩; have HBR := hid (HB4.out.below hbr); have hsr := HBR.out.out.size; have hlr := own_len hor; have HRR := hid (Rd.of_own hor); have hmr : mr ≤ 536870919 := (by have h3 := textP_len f.v.data.toList; have h4 := ba_len f.v; omega); clear hor hbr hlr))
          | (at_builtin; go_must (refine wpList_app _ rfl _ _ _ rfl w.heap.size 5 i0 _ 1 1 Tryd.underlying29 hi.out hz.out hsz.out hby.out rfl (by omega) _ (m3 + mq) _ rfl HBR.out.row Ar mr cr ((textP f.v.data.toList).map bv) rfl HRR.out (bv_one _) (by omega) (by omega) hsr ?_; intro A5 k5 w5 hown hg hat; have HB5 := hid (HBR.out.app hown hg); clear hown hg hat)))
        clear c0 c1 c2 HBR HRR
        obtain ⟨c0, c1, c2⟩ := BoxAt.c HB5.out.box
        rw [hx] at c2
        go_wp2_with fail
        go_ret
        exact RFPost.plain H.out HB5.out (by unfold fieldP; rw [if_pos HX.out]; unfold litP; rw [HNA.out, if_pos rfl]; simp only [List.append_assoc, Int.natCast_zero]) (by unfold fieldP; rw [if_pos HX.out])
      · have hz1 : ((na : Int) == 0) = false := by simp; omega
        go_wp2_with fail
        refine (rput_all 16 4 (na : Int) w2 (by omega) (by omega)).mono ?_
        rintro e w3 ⟨A3, m3, k3, rfl, ho, hb3⟩
        have HB3 := hid (show FB w w3 bx f A3 m3 k3 (putR 16 4 (na : Int)).1 from ⟨HS2.out.1.trans (hb3.mono hsz2), ho.mono hsz2, BoxAt.below HS2.out.2 hb3⟩)
        have hm3 : m3 ≤ 7 := by have := own_len ho; have := putR_len 16 4 (na : Int); omega
        clear ho hb3 c0 c1 c2
        obtain ⟨c0, c1, c2⟩ := BoxAt.c HB3.out.box
        rw [hx] at c2
        have hw3 := HB3.out.out.size
        go_upto_region 17 with (first
          | (go_at_call 52; go_must (refine (rput_text f.v _ (by omega)).mono ?_; rintro e wq ⟨Aq, mq, cq, rfl, hoq, hbq⟩; have HBQ := hid (HB3.out.below hbq); have hsq := HBQ.out.out.size; have hlq := own_len hoq; have HRQ := hid (Rd.of_own hoq); have hmq : mq ≤ 536870919 := (by have h3 := textP_len f.v.data.toList; have h4 := ba_len f.v; omega); clear hoq hbq hlq))
          | (at_builtin; go_must (refine wpList_app _ rfl _ _ _ rfl w.heap.size 5 i0 _ 1 1 Tryd.underlying29 hi.out hz.out hsz.out hby.out rfl (by omega) _ m3 _ rfl HBQ.out.row Aq mq cq ((textP f.v.data.toList).map bv) rfl HRQ.out (bv_one _) (by omega) (by omega) hsq ?_; intro A5 k5 w5 hown hg hat; have HB5 := hid (HBQ.out.app hown hg); clear hown hg hat)))
        clear c0 c1 c2 HBQ HRQ
        obtain ⟨c0, c1, c2⟩ := BoxAt.c HB5.out.box
        rw [hx] at c2
        go_wp2_with fail
        go_ret
        exact RFPost.plain H.out HB5.out (by unfold fieldP; rw [if_pos HX.out]; unfold litP; rw [HNA.out, if_neg hna0]; simp only [List.append_nil]) (by unfold fieldP; rw [if_pos HX.out])
end Go.Proofs.YtjeocmglcgnclaaDoor
