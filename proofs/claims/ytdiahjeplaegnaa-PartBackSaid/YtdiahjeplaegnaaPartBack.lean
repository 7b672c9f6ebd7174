/- PartBack's walk. No condition. -/
import Derived.Test.YtdiahjeplaegnaaPartBack0
import Derived.Test.YtdiahjeplaegnaaZeros
namespace Go.Proofs.Ytdiahjeplaegnaa
open Go.RowKit
attribute [local go_sem] kd kdS
attribute [local go_sem ↓] sliced_word
attribute [local go_sem] offA_zero

theorem PartPost.of_sets {l : List (Int × Int)} {w w' : World} {e : Ending} (h : PartPost { sets := l } w e w') :
    ∃ (Ad : Option Addr) (cd : Nat) (As : Option Addr) (cs : Nat), e = .returned (.tuple #[.agg #[.slice Ad 0 cd, .int .i64 0, .int .i64 0, .int .i64 0, .int .i64 0, .slice As l.length cs, .bool false, .bool false, .bool false], .agg #[.bool false, .bool false, .int .i64 0]]) ∧ Sts w' As l.length l ∧ Above w As ∧ Below w.heap.size w w' := by
  obtain ⟨Ad, nd, cd, As, ns, cs, rfl, hd, hs, _, ha, hb⟩ := h
  obtain rfl : nd = 0 := hd.len.symm
  obtain rfl : ns = l.length := hs.len.symm
  exact ⟨Ad, cd, As, cs, rfl, hs, ha, hb⟩
theorem PartPost.of_step {n : Int} {w w' : World} {e : Ending} (h : PartPost { step := n } w e w') :
    ∃ (Ad : Option Addr) (cd : Nat) (As : Option Addr) (cs : Nat), e = .returned (.tuple #[.agg #[.slice Ad 0 cd, .int .i64 0, .int .i64 0, .int .i64 0, .int .i64 n, .slice As 0 cs, .bool false, .bool false, .bool false], .agg #[.bool false, .bool false, .int .i64 0]]) ∧ Below w.heap.size w w' := by
  obtain ⟨Ad, nd, cd, As, ns, cs, rfl, hd, hs, _, ha, hb⟩ := h
  obtain rfl : nd = 0 := hd.len.symm
  obtain rfl : ns = 0 := hs.len.symm
  exact ⟨Ad, cd, As, cs, rfl, hb⟩
theorem PartPost.of_code {n : Int} {w w' : World} {e : Ending} (h : PartPost { code := n } w e w') :
    ∃ (Ad : Option Addr) (cd : Nat) (As : Option Addr) (cs : Nat), e = .returned (.tuple #[.agg #[.slice Ad 0 cd, .int .i64 0, .int .i64 n, .int .i64 0, .int .i64 0, .slice As 0 cs, .bool false, .bool false, .bool false], .agg #[.bool false, .bool false, .int .i64 0]]) ∧ Below w.heap.size w w' := by
  obtain ⟨Ad, nd, cd, As, ns, cs, rfl, hd, hs, _, ha, hb⟩ := h
  obtain rfl : nd = 0 := hd.len.symm
  obtain rfl : ns = 0 := hs.len.symm
  exact ⟨Ad, cd, As, cs, rfl, hb⟩
theorem PartPost.of_last {s n : Int} {w w' : World} {e : Ending} (h : PartPost { last := s, code := n } w e w') :
    ∃ (Ad : Option Addr) (cd : Nat) (As : Option Addr) (cs : Nat), e = .returned (.tuple #[.agg #[.slice Ad 0 cd, .int .i64 0, .int .i64 n, .int .i64 s, .int .i64 0, .slice As 0 cs, .bool false, .bool false, .bool false], .agg #[.bool false, .bool false, .int .i64 0]]) ∧ Below w.heap.size w w' := by
  obtain ⟨Ad, nd, cd, As, ns, cs, rfl, hd, hs, _, ha, hb⟩ := h
  obtain rfl : nd = 0 := hd.len.symm
  obtain rfl : ns = 0 := hs.len.symm
  exact ⟨Ad, cd, As, cs, rfl, hb⟩
theorem PartPost.of_data {d : List UInt8} {pad : Int} {w w' : World} {e : Ending} (h : PartPost { d := d, pad := pad, e := true } w e w') :
    ∃ (Ad : Option Addr) (cd : Nat) (As : Option Addr) (cs : Nat), e = .returned (.tuple #[.agg #[.slice Ad d.length cd, .int .i64 pad, .int .i64 0, .int .i64 0, .int .i64 0, .slice As 0 cs, .bool true, .bool false, .bool false], .agg #[.bool false, .bool false, .int .i64 0]]) ∧ Bs w' Ad d.length d ∧ Below w.heap.size w w' := by
  obtain ⟨Ad, nd, cd, As, ns, cs, rfl, hd, hs, _, ha, hb⟩ := h
  obtain rfl : nd = d.length := hd.len.symm
  obtain rfl : ns = 0 := hs.len.symm
  exact ⟨Ad, cd, As, cs, rfl, hd, hb⟩
/-- A part and a fault laid into two new blocks. -/
structure Res (w : World) (p : Nat) (cs ds : Array Value) : Prop where
  part : Blk w p 28 cs
  fault : Blk w (p + 1) 30 ds
theorem Res.new (w : World) (cs ds : Array Value) : Res ((w.alloc (.cells cs 28)).alloc (.cells ds 30)) w.heap.size cs ds := by
  refine ⟨(Blk.new w _ _).alloc _, ?_⟩
  have := Blk.new (w.alloc (.cells cs 28)) 30 ds
  rw [World.size_alloc] at this
  exact this
theorem Res.below {w w' : World} {p : Nat} {cs ds : Array Value} (h : Res w p cs ds) (hb : Below w.heap.size w w') : Res w' p cs ds := ⟨h.part.below hb h.part.lt, h.fault.below hb h.fault.lt⟩
theorem two_below (w : World) (o1 o2 : Obj) : Below w.heap.size w ((w.alloc o1).alloc o2) := ((Below.refl _ _).alloc (Nat.le_refl _) _).alloc (by simp) _

def setOkB (x : Int × Int) : Bool := decide (0 ≤ x.1) && decide (x.1 ≤ 65535) && decide (0 ≤ x.2) && decide (x.2 < 4294967296)

set_option maxHeartbeats 8000000 in
set_option maxRecDepth 100000 in
theorem back_walk (A : Option Addr) (n c : Nat) (l : List (Int × Int)) (stream m : Int) (B : Option Addr) (nb_ cb : Nat) (b : List UInt8) (pad : Int) (w : World) (h : Sts w A n l) (h' : Bs w B nb_ b) (hn63 : n ≤ 140737488355328) (hm0 : -9223372036854775808 ≤ m) (hm1 : m ≤ 9223372036854775807) (hnb63 : nb_ ≤ 9223372036854775807) (hncb : nb_ ≤ cb) :
    Calls Try.prog 6 #[.slice A n c, .int .i64 stream, .int .i64 m, .slice B nb_ cb, .int .i64 pad] w fun e w' => e = .returned (.bool true) ∧ Below w.heap.size w w' := by
  have hlen := h.len
  have hlenb := h'.len
  have H := hid h
  have H' := hid h'
  clear h h'
  go_enter Try.func6, Try.ntmps6
  go_wp2_with fail
  refine (first_any w).mono ?_
  rintro e w1 ⟨rfl, hb1⟩
  have HB1 := hid hb1
  clear hb1
  by_cases hbad : (200 : Int) < n ∨ (200 : Int) < nb_ ∨ stream < 1 ∨ 2147483647 < stream ∨ m < 1 ∨ 2147483647 < m ∨ pad < 0 ∨ 255 < pad
  · have hb' : (200 : Int) < n ∨ ((n : Int) ≤ 200 ∧ (200 : Int) < nb_) ∨ ((n : Int) ≤ 200 ∧ (nb_ : Int) ≤ 200 ∧ stream < 1) ∨ ((n : Int) ≤ 200 ∧ (nb_ : Int) ≤ 200 ∧ 1 ≤ stream ∧ 2147483647 < stream) ∨ ((n : Int) ≤ 200 ∧ (nb_ : Int) ≤ 200 ∧ 1 ≤ stream ∧ stream ≤ 2147483647 ∧ m < 1) ∨ ((n : Int) ≤ 200 ∧ (nb_ : Int) ≤ 200 ∧ 1 ≤ stream ∧ stream ≤ 2147483647 ∧ 1 ≤ m ∧ 2147483647 < m) ∨ ((n : Int) ≤ 200 ∧ (nb_ : Int) ≤ 200 ∧ 1 ≤ stream ∧ stream ≤ 2147483647 ∧ 1 ≤ m ∧ m ≤ 2147483647 ∧ pad < 0) ∨ ((n : Int) ≤ 200 ∧ (nb_ : Int) ≤ 200 ∧ 1 ≤ stream ∧ stream ≤ 2147483647 ∧ 1 ≤ m ∧ m ≤ 2147483647 ∧ 0 ≤ pad ∧ 255 < pad) := by omega
    clear hbad
    rcases hb' with h1 | ⟨h1, h2⟩ | ⟨h1, h2, h3⟩ | ⟨h1, h2, h3, h4⟩ | ⟨h1, h2, h3, h4, h5⟩ | ⟨h1, h2, h3, h4, h5, h6⟩ | ⟨h1, h2, h3, h4, h5, h6, h7⟩ | ⟨h1, h2, h3, h4, h5, h6, h7, h8⟩
    all_goals
      go_wp2_with fail
      refine (first_any w1).mono ?_
      rintro e w2 ⟨rfl, hb2⟩
      have HB2 := hid (HB1.out.trans (hb2.mono HB1.out.size))
      clear hb2
      go_wp2_with fail
      go_ret
      exact ⟨rfl, HB2.out⟩
  obtain ⟨pn, rfl⟩ : ∃ pn : Nat, pad = pn := ⟨pad.toNat, by omega⟩
  have hn1 : (n : Int) ≤ 200 := by omega
  have hnb1 : (nb_ : Int) ≤ 200 := by omega
  have hs1 : 1 ≤ stream := by omega
  have hs2 : stream ≤ 2147483647 := by omega
  have hq1 : 1 ≤ m := by omega
  have hq2 : m ≤ 2147483647 := by omega
  have hp1 : (pn : Int) ≤ 255 := by omega
  clear hbad hm0 hm1
  go_wp2_with fail
  go_loop [11] (fun i => ∃ k : Nat, k ≤ n ∧ i = .int .i64 k ∧ ∀ x ∈ l.take k, setOk x) (fun i => n - (intOf i).toNat)
  case atStart => exact ⟨0, Nat.zero_le _, rfl, fun x hx => by simp at hx⟩
  case round =>
    obtain ⟨k, hk, rfl, hok⟩ := hrel
    have HOK := hid hok
    clear hok
    by_cases hlt : k < n
    · obtain ⟨b0, o0, x, rfl, hx, hc0, hc1⟩ := (show Sts w1 A n l from Rd.below H.out HB1.out).at_ hlt
      by_cases hxo : setOk x
      · have hxi := hxo
        obtain ⟨a0, a1, a2, a3⟩ := hxi
        have HXO := hid hxo
        have HX := hid hx
        clear hxo hx
        go_wp2_with fail
        go_round
        case rel => exact ⟨k + 1, by omega, by go_num, fun y hy => by
          rw [List.take_add_one, HX.out] at hy
          rcases List.mem_append.1 hy with h1 | h1
          · exact HOK.out y h1
          · have e : y = x := by simpa using h1
            rw [e]; exact HXO.out⟩
        case measure => simp [intOf]; omega
      · have hcase : x.1 < 0 ∨ (0 ≤ x.1 ∧ 65535 < x.1) ∨ (0 ≤ x.1 ∧ x.1 ≤ 65535 ∧ x.2 < 0) ∨ (0 ≤ x.1 ∧ x.1 ≤ 65535 ∧ 0 ≤ x.2 ∧ 4294967296 ≤ x.2) := by
          unfold setOk at hxo
          omega
        clear hxo hx
        rcases hcase with h1 | ⟨h1, h2⟩ | ⟨h1, h2, h3⟩ | ⟨h1, h2, h3, h4⟩
        all_goals
          go_wp2_with fail
          refine (first_any w1).mono ?_
          rintro e w2 ⟨rfl, hb2⟩
          have HB2 := hid (HB1.out.trans (hb2.mono HB1.out.size))
          clear hb2
          go_wp2_with fail
          go_ret
          exact ⟨rfl, HB2.out⟩
    · obtain rfl : k = n := by omega
      rw [List.take_of_length_le (by omega)] at HOK
      have HN := hid hlen
      have HNB := hid hlenb
      clear hlt hlen hlenb
      go_upto_region 11 with (first
        | (go_at_call 12; go_must (refine (settings_make A k c l w1 (Rd.below H.out HB1.out) (by omega)).mono ?_; unfold MadePost fv; rintro e xa ⟨Ma, mca, rfl, hbs, hc2, hb2⟩; have HSa := hid hbs; have HCa := hid hc2; have HXa := hid (HB1.out.trans (hb2.mono HB1.out.size)); have HXVa := hid hb2; clear hbs hc2 hb2))
        | (go_at_call 9; go_must (refine (read_any 4 0 0 Ma _ mca _ xa HSa.out HCa.out (by rw [setBs_len, HN.out]; omega)).mono ?_; rw [back_settings HOK.out]; intro e ya hp; obtain ⟨Ada, cda, Asa, csa, rfl, hst, hab, hb3⟩ := hp.of_sets; have HYa := hid (HXa.out.trans (hb3.mono HXa.out.size)); have HYVa := hid (HXVa.out.trans (hb3.mono HXVa.out.size)); have HST := hid hst; clear hst hab; clear hp hb3)))
      obtain ⟨Va, hV⟩ : ∃ Va, (ya.alloc (.cells #[.slice Ada 0 cda, .int .i64 0, .int .i64 0, .int .i64 0, .int .i64 0, .slice Asa l.length csa, .bool false, .bool false, .bool false] 28)).alloc (.cells #[.bool false, .bool false, .int .i64 0] 30) = Va := ⟨_, rfl⟩
      have HRa : Hid (Res Va ya.heap.size #[.slice Ada 0 cda, .int .i64 0, .int .i64 0, .int .i64 0, .int .i64 0, .slice Asa l.length csa, .bool false, .bool false, .bool false] #[.bool false, .bool false, .int .i64 0]) := hid (by rw [← hV]; exact Res.new _ _ _)
      have HYWa : Hid (Below ya.heap.size ya Va) := hid (by rw [← hV]; exact two_below _ _ _)
      have HBa := hid (HYa.out.trans (HYWa.out.mono HYa.out.size))
      have HVVa := hid (HYVa.out.trans (HYWa.out.mono HYVa.out.size))
      rw [hV]
      clear hV
      have HSTV := hid (Rd.below HST.out HYWa.out)
      generalize ya.heap.size = pa at HRa ⊢
      go_upto_region 12 with (first
        | (go_at_call 13; go_must (refine (update_make stream m Va).mono ?_; unfold MadePost fv; rintro e xb ⟨Mb, mcb, rfl, hbs, hc2, hb2⟩; have HSb := hid hbs; have HCb := hid hc2; have HXb := hid (HBa.out.trans (hb2.mono HBa.out.size)); have HXVb := hid hb2; clear hbs hc2 hb2))
        | (go_at_call 9; go_must (refine (read_any 8 0 stream Mb _ mcb _ xb HSb.out HCb.out (by rw [numB_len]; omega)).mono ?_; rw [back_update hq1 hq2]; intro e yb hp; obtain ⟨Adb, cdb, Asb, csb, rfl, hb3⟩ := hp.of_step; have HYb := hid (HXb.out.trans (hb3.mono HXb.out.size)); have HYVb := hid (HXVb.out.trans (hb3.mono HXVb.out.size)); clear hp hb3)))
      obtain ⟨Vb, hV⟩ : ∃ Vb, (yb.alloc (.cells #[.slice Adb 0 cdb, .int .i64 0, .int .i64 0, .int .i64 0, .int .i64 m, .slice Asb 0 csb, .bool false, .bool false, .bool false] 28)).alloc (.cells #[.bool false, .bool false, .int .i64 0] 30) = Vb := ⟨_, rfl⟩
      have HRb : Hid (Res Vb yb.heap.size #[.slice Adb 0 cdb, .int .i64 0, .int .i64 0, .int .i64 0, .int .i64 m, .slice Asb 0 csb, .bool false, .bool false, .bool false] #[.bool false, .bool false, .int .i64 0]) := hid (by rw [← hV]; exact Res.new _ _ _)
      have HYWb : Hid (Below yb.heap.size yb Vb) := hid (by rw [← hV]; exact two_below _ _ _)
      have HBb := hid (HYb.out.trans (HYWb.out.mono HYb.out.size))
      have HVVb := hid (HYVb.out.trans (HYWb.out.mono HYVb.out.size))
      rw [hV]
      clear hV
      generalize yb.heap.size = pb at HRb ⊢
      go_upto_region 13 with (first
        | (go_at_call 14; go_must (refine (rst_make stream m Vb).mono ?_; unfold MadePost fv; rintro e xc ⟨Mc, mcc, rfl, hbs, hc2, hb2⟩; have HSc := hid hbs; have HCc := hid hc2; have HXc := hid (HBb.out.trans (hb2.mono HBb.out.size)); have HXVc := hid hb2; clear hbs hc2 hb2))
        | (go_at_call 9; go_must (refine (read_any 3 0 stream Mc _ mcc _ xc HSc.out HCc.out (by rw [numB_len]; omega)).mono ?_; rw [back_rst (by omega) hq1 hq2]; intro e yc hp; obtain ⟨Adc, cdc, Asc, csc, rfl, hb3⟩ := hp.of_code; have HYc := hid (HXc.out.trans (hb3.mono HXc.out.size)); have HYVc := hid (HXVc.out.trans (hb3.mono HXVc.out.size)); clear hp hb3)))
      obtain ⟨Vc, hV⟩ : ∃ Vc, (yc.alloc (.cells #[.slice Adc 0 cdc, .int .i64 0, .int .i64 m, .int .i64 0, .int .i64 0, .slice Asc 0 csc, .bool false, .bool false, .bool false] 28)).alloc (.cells #[.bool false, .bool false, .int .i64 0] 30) = Vc := ⟨_, rfl⟩
      have HRc : Hid (Res Vc yc.heap.size #[.slice Adc 0 cdc, .int .i64 0, .int .i64 m, .int .i64 0, .int .i64 0, .slice Asc 0 csc, .bool false, .bool false, .bool false] #[.bool false, .bool false, .int .i64 0]) := hid (by rw [← hV]; exact Res.new _ _ _)
      have HYWc : Hid (Below yc.heap.size yc Vc) := hid (by rw [← hV]; exact two_below _ _ _)
      have HBc := hid (HYc.out.trans (HYWc.out.mono HYc.out.size))
      have HVVc := hid (HYVc.out.trans (HYWc.out.mono HYVc.out.size))
      rw [hV]
      clear hV
      generalize yc.heap.size = pc at HRc ⊢
      go_upto_region 14 with (first
        | (go_at_call 15; go_must (refine (goaway_make stream m Vc).mono ?_; unfold MadePost fv; rintro e xd ⟨Md, mcd, rfl, hbs, hc2, hb2⟩; have HSd := hid hbs; have HCd := hid hc2; have HXd := hid (HBc.out.trans (hb2.mono HBc.out.size)); have HXVd := hid hb2; clear hbs hc2 hb2))
        | (go_at_call 9; go_must (refine (read_any 7 0 0 Md _ mcd _ xd HSd.out HCd.out (by rw [List.length_append, numB_len, numB_len]; omega)).mono ?_; rw [back_goaway hs1 hs2 hq1 hq2]; intro e yd hp; obtain ⟨Add, cdd, Asd, csd, rfl, hb3⟩ := hp.of_last; have HYd := hid (HXd.out.trans (hb3.mono HXd.out.size)); have HYVd := hid (HXVd.out.trans (hb3.mono HXVd.out.size)); clear hp hb3)))
      obtain ⟨Vd, hV⟩ : ∃ Vd, (yd.alloc (.cells #[.slice Add 0 cdd, .int .i64 0, .int .i64 m, .int .i64 stream, .int .i64 0, .slice Asd 0 csd, .bool false, .bool false, .bool false] 28)).alloc (.cells #[.bool false, .bool false, .int .i64 0] 30) = Vd := ⟨_, rfl⟩
      have HRd : Hid (Res Vd yd.heap.size #[.slice Add 0 cdd, .int .i64 0, .int .i64 m, .int .i64 stream, .int .i64 0, .slice Asd 0 csd, .bool false, .bool false, .bool false] #[.bool false, .bool false, .int .i64 0]) := hid (by rw [← hV]; exact Res.new _ _ _)
      have HYWd : Hid (Below yd.heap.size yd Vd) := hid (by rw [← hV]; exact two_below _ _ _)
      have HBd := hid (HYd.out.trans (HYWd.out.mono HYd.out.size))
      have HVVd := hid (HYVd.out.trans (HYWd.out.mono HYVd.out.size))
      rw [hV]
      clear hV
      generalize yd.heap.size = pd at HRd ⊢
      have HRa := hid (((HRa.out.below HVVb.out).below HVVc.out).below HVVd.out)
      have HRb := hid ((HRb.out.below HVVc.out).below HVVd.out)
      have HRc := hid (HRc.out.below HVVd.out)
      have HSTV := hid (Rd.below (Rd.below (Rd.below HSTV.out HVVb.out) HVVc.out) HVVd.out)
      have za0 := HRa.out.fault.cell 0
      have zb0 := HRb.out.fault.cell 0
      have zc0 := HRc.out.fault.cell 0
      have zd0 := HRd.out.fault.cell 0
      have xa5 := HRa.out.part.cell 5
      have xa7 := HRa.out.part.cell 7
      have xb4 := HRb.out.part.cell 4
      have xc2 := HRc.out.part.cell 2
      have xd3 := HRd.out.part.cell 3
      have xd2 := HRd.out.part.cell 2
      simp at za0 zb0 zc0 zd0 xa5 xa7 xb4 xc2 xd3 xd2
      rw [HN.out] at xa5
      go_wp2_with fail
      have XA5 := hid xa5
      clear za0 zb0 zc0 zd0 xa5 xa7 xb4 xc2 xd3 xd2
      go_loopw [20] (fun i wr => ∃ j : Nat, j ≤ k ∧ i = .int .i64 j ∧ Below Vd.heap.size Vd wr) (fun i _ => k - (intOf i).toNat)
      case atStart => exact ⟨0, Nat.zero_le _, rfl, Below.refl _ _⟩
      case round =>
        obtain ⟨j, hj, rfl, hbr⟩ := hrel
        have HBR := hid hbr
        have xa5 := below_keep hbr _ _ XA5.out
        clear hbr
        by_cases hjk : j < k
        · obtain ⟨b0, o0, x, rfl, hx, hc0, hc1⟩ := (show Sts wr A k l from Rd.below H.out (HBd.out.trans (HBR.out.mono HBd.out.size))).at_ hjk
          obtain ⟨b1, o1, x', hA1, hx', hd0, hd1⟩ := (show Sts wr Asa k l from by rw [← HN.out]; exact Rd.below HSTV.out HBR.out).at_ hjk
          obtain rfl : x' = x := by rw [hx] at hx'; injection hx' with hx'; exact hx'.symm
          subst hA1
          clear hx hx'
          go_wp2_with fail
          (refine wp_mix ?_ ?_ ?_; (focus kernel_rfl); (focus kernel_rfl); intro KK hKK; go_wp2_with (first
                | (fail)
                | (with_reducible refine mix_nil ?_)
                | ((with_reducible refine mix_on ?_ ?_); (focus rfl); intro K hK; go_simp; (first | ((with_reducible refine hK _ _ ?_); clear hK K) | skip))
                | ((with_reducible refine mix_off ?_ ?_); (focus rfl); intro K hK; go_simp; (first | ((with_reducible refine hK _ _ ?_); clear hK K) | skip))
                | ((with_reducible refine mix_step ?_); intro K hK; go_simp; (first | ((with_reducible refine hK _ _ ?_); clear hK K) | skip))))
          go_roundw
          case rel => exact ⟨j + 1, by omega, by go_num, HBR.out.drew⟩
          case measure => simp [intOf]; omega
        · obtain rfl : j = k := by omega
          clear hjk xa5
          have HBX := hid (HBd.out.trans (HBR.out.mono HBd.out.size))
          have HB' := hid (H'.out.below HBX.out)
          have hu8 : IntKind.u8.wrap (pn : Int) = pn := IntWalk.u8_in _ (by omega)
          have HPB : Hid ([Value.int .u8 (pn : Int)] ++ b.map bv = (u8 pn :: b).map bv) := hid (by rw [bv_u8 (pn : Int) (by omega) (by omega)]; rfl)
          have HPL : Hid ((u8 pn :: b) ++ List.replicate pn 0 = padL pn b) := hid rfl
          have hol : ∀ a : Value, (wr.alloc (.cells #[a] 5)).ownsRow wr.heap.size 5 1 (.slice (some ⟨wr.heap.size, 0, none⟩) 1 1) 1 [a] := fun a => World.ownsRow_lit wr #[a] 1 (Nat.le_refl _) (by unfold maxLen; omega) rfl
          have HOL := hid hol
          obtain ⟨i0, hi0, hz0, hz1, hz2⟩ := info_parts u8_info
          have hi := hid hi0
          have hz := hid hz0
          have hsz := hid hz1
          have hby := hid hz2
          clear hi0 hz0 hz1 hz2 hol
          go_upto_region 22 with (first
            | (at_builtin; go_loud (refine wpList_app _ rfl _ _ _ rfl wr.heap.size 5 i0 _ 1 1 Try.underlying25 hi.out hz.out hsz.out hby.out rfl (by omega) _ 1 _ rfl (HOL.out _) B nb_ cb _ rfl (HB'.out.below ((Below.refl _ _).alloc (Nat.le_refl _) _)) (bv_one _) (by omega) (by omega) (by simp) ?_; intro Ae ce we ho hg _; have HOe := hid ho; have HBe := hid (below_app ((Below.refl _ _).alloc (Nat.le_refl wr.heap.size) _) (HOL.out _) hg (Nat.le_refl _) (by simp)); clear ho hg))
            | (at_builtin; (have hoe := HOe.out; rw [HPB.out] at hoe; obtain ⟨Af, cf, wf, hrun, hof, hgf⟩ := run_app_zeros we wr.heap.size 25 Ae (1 + nb_) ce pn (u8 pn :: b) hoe (by omega) HBe.out.size; rw [HPL.out] at hof; have HOf := hid hof; have HBf := hid (below_app HBe.out HOe.out hgf (Nat.le_refl _) HBe.out.size); have HRUN := hid hrun; clear hrun hof hgf hoe; go_loud (refine Lib.wpList_append_run _ rfl _ _ _ _ rfl _ _ rfl rfl _ _ HRUN.out ?_))))
          have HBF := hid (HBX.out.trans (HBf.out.mono HBX.out.size))
          have HLF : Hid ((padL pn b).length = 1 + nb_ + pn) := hid (by simp [padL, HNB.out]; omega)
          have HF := hid (Bs.of_own HOf.out)
          have hcf := own_le HOf.out
          have HBb := hid (H'.out.below HBF.out)
          clear HBe HOe HOf HRUN HOL hu8 HB'
          go_upto_region 23 with (go_at_call 9; go_must (refine (read_any 0 9 stream Af (1 + nb_ + pn) cf (padL pn b) wf HF.out hcf (by omega)).mono ?_; rw [back_data (by omega) (by omega)]; intro e ye hp; obtain ⟨Ade, cde, Ase, cse, rfl, hbd, hb3⟩ := hp.of_data; have HBD := hid hbd; have HYe := hid hb3; clear hp hbd hb3))
          obtain ⟨Ve, hV⟩ : ∃ Ve, (ye.alloc (.cells #[.slice Ade b.length cde, .int .i64 ((pn : Int) + 1), .int .i64 0, .int .i64 0, .int .i64 0, .slice Ase 0 cse, .bool true, .bool false, .bool false] 28)).alloc (.cells #[.bool false, .bool false, .int .i64 0] 30) = Ve := ⟨_, rfl⟩
          have HRe : Hid (Res Ve ye.heap.size #[.slice Ade b.length cde, .int .i64 ((pn : Int) + 1), .int .i64 0, .int .i64 0, .int .i64 0, .slice Ase 0 cse, .bool true, .bool false, .bool false] #[.bool false, .bool false, .int .i64 0]) := hid (by rw [← hV]; exact Res.new _ _ _)
          have HYW : Hid (Below ye.heap.size ye Ve) := hid (by rw [← hV]; exact two_below _ _ _)
          have HVe := hid (HYe.out.trans (HYW.out.mono HYe.out.size))
          have HDV := hid (HBD.out.below HYW.out)
          have HFV := hid (HF.out.below HVe.out)
          have HbV := hid (HBb.out.below HVe.out)
          have HWV := hid (HBF.out.trans (HVe.out.mono HBF.out.size))
          rw [hV]
          clear hV
          have hpe := HRe.out.fault.lt
          have hpw : w.heap.size ≤ ye.heap.size := Nat.le_trans HBF.out.size HYe.out.size
          generalize ye.heap.size = pe at HRe hpe hpw ⊢
          have x0 := HRe.out.part.cell 0
          have x1 := HRe.out.part.cell 1
          have x6 := HRe.out.part.cell 6
          have z0 := HRe.out.fault.cell 0
          simp at x0 x1 x6 z0
          have hbl : (b == b) = true := beq_self_eq_true b
          go_upto_region 25 with (go_at_call 16; go_must (refine (same_bytes Ade B b.length cde nb_ cb b b Ve HDV.out HbV.out).mono ?_; rw [hbl]; rintro e w9 ⟨rfl, rfl⟩))
          clear x0 x1 x6 z0
          obtain ⟨q, hq, hcut⟩ : ∃ q : Int, (q = 1 ∨ (pn = 0 ∧ q = 6)) ∧ readP 0 8 stream ((padL pn b).take pn) = connP q := by
            rw [back_cut (by omega) (by omega)]
            by_cases h0 : pn = 0
            · exact ⟨6, .inr ⟨h0, rfl⟩, if_pos h0⟩
            · exact ⟨1, .inl rfl, if_neg h0⟩
          have HQ := hid hq
          have HCUT := hid hcut
          clear hq hcut
          have hpc : pn ≤ 1 + nb_ + pn := by omega
          have hpf : (pn : Int) ≤ cf := by omega
          go_upto_region 26 with (go_at_call 9; go_must (refine (read_any 0 8 stream Af pn cf ((padL pn b).take pn) Ve (HFV.out.to hpc) (by omega) (by omega)).mono ?_; rw [HCUT.out]; intro e yf hp; obtain ⟨Adf, cdf, Asf, csf, rfl, hb3⟩ := hp.of_conn; have HYf := hid hb3; have hrf := HRe.out.below hb3; have HRf := hid hrf; have z0 := hrf.fault.cell 0; have z1 := hrf.fault.cell 1; have z2 := hrf.fault.cell 2; have zf0 := hrf.fault.frozen 0; have zf1 := hrf.fault.frozen 1; have zf2 := hrf.fault.frozen 2; simp at z0 z1 z2; clear hp hb3 hrf))
          have hfb := ((HRf.out.fault.set_ 0 (.bool true)).set_ 1 (.bool true)).set_ 2 (.int .i64 q)
          have hwb : Below w.heap.size w (((yf.setCell ⟨pe + 1, 0, none⟩ (.bool true)).setCell ⟨pe + 1, 1, none⟩ (.bool true)).setCell ⟨pe + 1, 2, none⟩ (.int .i64 q)) := (((HWV.out.trans (HYf.out.mono HWV.out.size)).setCell (p := ⟨pe + 1, 0, none⟩) (by simp; omega) _).setCell (p := ⟨pe + 1, 1, none⟩) (by simp; omega) _).setCell (p := ⟨pe + 1, 2, none⟩) (by simp; omega) _
          clear z0 z1 z2 zf0 zf1 zf2
          generalize (((yf.setCell ⟨pe + 1, 0, none⟩ (.bool true)).setCell ⟨pe + 1, 1, none⟩ (.bool true)).setCell ⟨pe + 1, 2, none⟩ (.int .i64 q)) = wz at hfb hwb ⊢
          have HFB := hid hfb
          have HWB := hid hwb
          clear hfb hwb
          rcases HQ.out with hq1 | ⟨hp0, hq6⟩
          · subst hq1
            go_wp2_with (go_at_call 7; refine (first_any wz).mono ?_; rintro e wy ⟨rfl, hby⟩; have HWY := hid (HWB.out.trans (hby.mono HWB.out.size)); have hf := HFB.out.below hby HFB.out.lt; have z0 := hf.cell 0; have z1 := hf.cell 1; have z2 := hf.cell 2; simp at z0 z1 z2; clear hby hf)
            go_ret
            exact ⟨rfl, HWY.out⟩
          · subst hq6
            have hp00 : (pn : Int) = 0 := by omega
            go_wp2_with (go_at_call 7; refine (first_any wz).mono ?_; rintro e wy ⟨rfl, hby⟩; have HWY := hid (HWB.out.trans (hby.mono HWB.out.size)); have hf := HFB.out.below hby HFB.out.lt; have z0 := hf.cell 0; have z1 := hf.cell 1; have z2 := hf.cell 2; simp at z0 z1 z2; clear hby hf)
            go_ret
            exact ⟨rfl, HWY.out⟩
end Go.Proofs.Ytdiahjeplaegnaa
