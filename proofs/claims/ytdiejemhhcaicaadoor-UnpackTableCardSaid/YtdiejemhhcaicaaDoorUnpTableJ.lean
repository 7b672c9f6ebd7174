/- The law UnpackTable walked. No condition but the rows' length. (Printed by gen_table8.py.) -/
import Derived.Test.YtdiejemhhcaicaaDoorRwsJ
import Derived.Test.YtdiejemhhcaicaaDoorExactJ
import Derived.Test.YtdiejemhhcaicaaDoorUnpTwoJ
import Derived.Test.YtdiejemhhcaicaaDoorGu
namespace Go.Proofs.YtdiejemhhcaicaaDoor
open Go.RowKit
attribute [local go_sem] kd kdS if_min if_max if_minN if_maxN

set_option maxHeartbeats 16000000 in
set_option maxRecDepth 100000 in
theorem table8_walk (A : Option Addr) (n c : Nat) (rs : List Row) (room : Int) (w : World) (hs : Rws w A n rs) (hn : n ≤ 140737488355328) :
    Calls Tryd.prog 6 #[.slice A n c, .int .i64 room] w fun e w' => e = .returned (.bool true) ∧ Below w.heap.size w w' := by
  have HS := hid hs
  have HLN := hid hs.len
  clear hs
  go_enter Tryd.func6, Tryd.ntmps6
  go_wp2_with fail
  refine (first8_any w).mono ?_
  rintro e w1 ⟨rfl, hb1⟩
  have HB1 := hid hb1
  clear hb1
  have HS1 := hid (HS.out.below HB1.out)
  go_wp2_with fail
  go_loop [5, 6] (fun s i => ∃ k : Nat, k ≤ n ∧ k ≤ 50 ∧ i = .int .i64 k ∧ s = .int .i64 (rowSum rs k)) (fun _ i => 50 - (intOf i).toNat)
  case atStart => exact ⟨0, Nat.zero_le _, by omega, rfl, rfl⟩
  case round =>
    obtain ⟨k, hk, hk1, rfl, rfl⟩ := hrel
    have hsl := rowSum_le rs k
    by_cases hkn : k < n ∧ k < 50
    · obtain ⟨hk2, hk3⟩ := hkn
      obtain ⟨b, o, rfl, hc⟩ := HS1.out.at_ (by omega)
      obtain ⟨x, hx⟩ : ∃ x, rs[k]? = some x := ⟨rs[k]'(by rw [HLN.out]; omega), List.getElem?_eq_getElem _⟩
      have hcx := hc k x hx
      have hrs := rowSum_succ hx
      obtain ⟨q, hq⟩ : ∃ q : Nat, min (x.n : Int) 20001 = q := ⟨min x.n 20001, by omega⟩
      have hrq : rowSum rs (k + 1) = rowSum rs k + q := by rw [hrs]; omega
      have HRQ := hid hrq
      clear hc hx hrs hrq
      go_wp2_with fail
      go_round
      case rel => exact ⟨k + 1, by omega, by omega, by go_num, by rw [HRQ.out]; go_num⟩
      case measure => simp [intOf]; omega
    · have hend : n ≤ k ∨ 50 ≤ k := by omega
      clear hkn
      by_cases hkn : k < n
      · have hk100 : k = 50 := by omega
        subst hk100
        go_wp2_with (go_at_call 8; go_must (refine (first8_any _).mono ?_; rintro e w3 ⟨rfl, hb3⟩; have HB3 := hid (HB1.out.trans (hb3.mono HB1.out.size)); clear hb3))
        go_ret
        exact ⟨rfl, HB3.out⟩
      · obtain rfl : k = n := by omega
        by_cases hbig : 20000 < rowSum rs k
        · have hbg : (20000 : Int) < (rowSum rs k : Nat) := by omega
          go_wp2_with (go_at_call 8; go_must (refine (first8_any _).mono ?_; rintro e w3 ⟨rfl, hb3⟩; have HB3 := hid (HB1.out.trans (hb3.mono HB1.out.size)); clear hb3))
          go_ret
          exact ⟨rfl, HB3.out⟩
        have hbg : ((rowSum rs k : Nat) : Int) ≤ 20000 := by omega
        by_cases hrm : room < 0
        · go_wp2_with (go_at_call 8; go_must (refine (first8_any _).mono ?_; rintro e w3 ⟨rfl, hb3⟩; have HB3 := hid (HB1.out.trans (hb3.mono HB1.out.size)); clear hb3))
          go_ret
          exact ⟨rfl, HB3.out⟩
        have hr0 : 0 ≤ room := by omega
        go_wp2_with fail
        refine (decNew_any w1).mono ?_
        rintro e w2 ⟨Fa, ga, ta, rfl, h2, hb2⟩
        have H2 := hid h2
        have HB2 := hid hb2
        clear h2 hb2
        go_wp2_with fail
        refine (decNew_any w2).mono ?_
        rintro e w3 ⟨Fb, gb, tb, rfl, h3, hb3⟩
        have HI := hid (show Two w w3 ga ta gb tb false 4096 [] false 4096 [] w1.heap.size w2.heap.size Fa Fb from ⟨H2.out.below hb3, h3, fun q hq hm => by have := (H2.out.ge_ q hq).2; have := (h3.ge_ q hm).1; omega, (HB1.out.trans (HB2.out.mono HB1.out.size)).trans (hb3.mono (Nat.le_trans HB1.out.size HB2.out.size)), HB1.out.size, Nat.le_trans HB1.out.size HB2.out.size⟩)
        clear h3 hb3 H2 HB2 HS1 HB1
        generalize w1.heap.size = Ba at HI
        generalize w2.heap.size = Bb at HI
        go_wp2_with fail
        go_loopw [9] (fun i wr => ∃ (k2 : Nat) (dead : Bool) (most : Int) (L : List Fd) (Fa Fb : List Nat), k2 ≤ k ∧ i = .int .i64 k2 ∧ Two w wr ga ta gb tb dead most L dead most L Ba Bb Fa Fb) (fun i _ => k - (intOf i).toNat)
        case atStart => exact ⟨0, _, _, _, _, _, Nat.zero_le _, rfl, HI.out⟩
        case round =>
          obtain ⟨k2, dead, most, L, Fa, Fb, hk2, rfl, hinv⟩ := hrel
          have HT := hid hinv
          clear hinv HI
          have hmn := rowSum_mono rs hk2
          by_cases hkn2 : k2 < k
          · obtain ⟨b, o, rfl, hc⟩ := HS.out.at_ (by omega)
            obtain ⟨x, hx⟩ : ∃ x, rs[k2]? = some x := ⟨rs[k2]'(by rw [HLN.out]; omega), List.getElem?_eq_getElem _⟩
            have HC := hid (hc k2 x hx)
            have hcx := below_keep HT.out.out _ _ HC.out
            have hrs := rowSum_succ hx
            have hmn2 := rowSum_mono rs (show k2 + 1 ≤ k by omega)
            obtain ⟨hbx, hbc⟩ := HS.out.body x (List.mem_of_getElem? hx)
            have HBX := hid hbx
            have hxn : x.n ≤ 20000 := by omega
            have HXL := hid (show x.l.length ≤ 20000 by have := hbx.len; omega)
            clear hc hx hbx hrs hmn2
            go_wp2_with (go_at_call 12; go_must (refine (decDead_any _ Fa ga ta _ _ _ _ HT.out.a).mono ?_; rintro e w4 ⟨rfl, rfl⟩))
            refine (decode_any room Ba Fa ga ta dead most L x.A x.n x.c x.l _ HT.out.a (HBX.out.below HT.out.out) (by omega)).mono ?_
            intro e w3 hp
            obtain ⟨A3, n3, c3, F3, rfl, ho3, hT3, _⟩ := HT.out.decoded hp
            have HLT := hid HT.out.lt
            have HO3 := hid ho3
            have HT3 := hid hT3
            have HOK := hid HT.out.a.ok
            have hcx3 := below_keep hT3.out _ _ HC.out
            clear hp ho3 hT3 hcx
            go_wp2_with fail
            refine (decode_any 2147483647 Bb Fb gb tb dead most L x.A x.n x.c x.l w3 HT3.out.b (HBX.out.below HT3.out.out) (by omega)).mono ?_
            intro e w4 hp
            obtain ⟨A4, n4, c4, F4, rfl, ho4, hT4, ht4⟩ := HT3.out.flip.decoded hp
            have hx4 := row_kept HLT.out ht4 HO3.out
            have hy4 : Fs w4 A4 n4 _ := Rd.of_own ho4
            have HT4 := hid hT4.flip
            clear hp ho4 hT4 ht4 hcx3 HT HT3 HO3 HLT HC HBX
            have hw := four_ways x.l room dead most L HXL.out HOK.out
            obtain ⟨d', hd'⟩ : ∃ d', decT x.l dead most L = d' := ⟨_, rfl⟩
            rw [hd'] at HT4 hw
            clear hd'
            obtain ⟨d', m', L'⟩ := d'
            dsimp only at HT4 hw
            obtain ⟨u, hu⟩ : ∃ u, decO x.l room dead most L = u := ⟨_, rfl⟩
            obtain ⟨v, hv⟩ : ∃ v, decO x.l 2147483647 dead most L = v := ⟨_, rfl⟩
            rw [hu] at hx4 hw ⊢
            rw [hv] at hy4 hw ⊢
            clear hu hv HOK HXL
            have htk := HT4.out.a.ok
            have hsz1 : ((total L' : Nat) : Int) ≤ m' := by have := htk.2.2.1; omega
            have hsz2 : m' ≤ 4096 := by have := htk.2.1; omega
            clear htk
            rcases hw with ⟨rfl, rfl, rfl, rfl⟩ | ⟨rfl, rfl, rfl, rfl⟩ | ⟨l, rfl, hl1, hl2, hl3, rfl, rfl, rfl⟩ | ⟨l, rfl, hl1, hl2, hl3, rfl, rfl, rfl⟩
            · dsimp only at hx4 hy4 ⊢
              obtain rfl : 0 = n3 := hx4.len
              obtain rfl : 0 = n4 := hy4.len
              have HX4 := hid hx4
              have HY4 := hid hy4
              clear hx4 hy4
              go_upto_region 24 with (first
      | (go_at_call 12; (refine (decDead_any _ F3 ga ta _ _ _ _ HT4.out.a).mono ?_; rintro e w5 ⟨rfl, rfl⟩))
      | (go_at_call 12; (refine (decDead_any _ F4 gb tb _ _ _ _ HT4.out.b).mono ?_; rintro e w5 ⟨rfl, rfl⟩))
      | (go_at_call 17; (refine (decTable_any _ F3 ga ta _ _ _ _ HT4.out.a).mono ?_; rintro e w5 ⟨rfl, rfl⟩))
      | (go_at_call 17; (refine (decTable_any _ F4 gb tb _ _ _ _ HT4.out.b).mono ?_; rintro e w5 ⟨rfl, rfl⟩))
      | (go_at_call 21; (refine (len_tb HT4.out.a.tb).mono ?_; rintro e w5 ⟨rfl, rfl⟩))
      | (go_at_call 21; (refine (len_tb HT4.out.b.tb).mono ?_; rintro e w5 ⟨rfl, rfl⟩))
      | (go_at_call 18; (refine (size_tb HT4.out.a.tb).mono ?_; rintro e w5 ⟨rfl, rfl⟩))
      | (go_at_call 18; (refine (size_tb HT4.out.b.tb).mono ?_; rintro e w5 ⟨rfl, rfl⟩))
      | (go_at_call 19; (refine (most_tb HT4.out.a.tb).mono ?_; rintro e w5 ⟨rfl, rfl⟩)))
              go_upto_region 26 with (go_at_call 15; go_must (refine (exact_any A3 0 c3 A4 0 c4 [] _ HX4.out HY4.out (by omega)).mono ?_; rintro e w6 ⟨rfl, hb6⟩; have HT6 := hid (HT4.out.below hb6); have HX6 := hid (HX4.out.below hb6); clear hb6))
              go_upto_region 28 with fail
              go_wp2_with (first
      | (go_at_call 12; (refine (decDead_any _ F3 ga ta _ _ _ _ HT6.out.a).mono ?_; rintro e w5 ⟨rfl, rfl⟩))
      | (go_at_call 12; (refine (decDead_any _ F4 gb tb _ _ _ _ HT6.out.b).mono ?_; rintro e w5 ⟨rfl, rfl⟩))
      | (go_at_call 17; (refine (decTable_any _ F3 ga ta _ _ _ _ HT6.out.a).mono ?_; rintro e w5 ⟨rfl, rfl⟩))
      | (go_at_call 17; (refine (decTable_any _ F4 gb tb _ _ _ _ HT6.out.b).mono ?_; rintro e w5 ⟨rfl, rfl⟩))
      | (go_at_call 21; (refine (len_tb HT6.out.a.tb).mono ?_; rintro e w5 ⟨rfl, rfl⟩))
      | (go_at_call 21; (refine (len_tb HT6.out.b.tb).mono ?_; rintro e w5 ⟨rfl, rfl⟩))
      | (go_at_call 18; (refine (size_tb HT6.out.a.tb).mono ?_; rintro e w5 ⟨rfl, rfl⟩))
      | (go_at_call 18; (refine (size_tb HT6.out.b.tb).mono ?_; rintro e w5 ⟨rfl, rfl⟩))
      | (go_at_call 19; (refine (most_tb HT6.out.a.tb).mono ?_; rintro e w5 ⟨rfl, rfl⟩)))
              go_roundw
              case rel => exact ⟨k2 + 1, _, _, _, _, _, by omega, by go_num, HT6.out⟩
              case measure => simp [intOf]; omega
            · dsimp only at hx4 hy4 ⊢
              obtain rfl : 0 = n3 := hx4.len
              obtain rfl : 0 = n4 := hy4.len
              have HX4 := hid hx4
              have HY4 := hid hy4
              clear hx4 hy4
              go_upto_region 24 with (first
      | (go_at_call 12; (refine (decDead_any _ F3 ga ta _ _ _ _ HT4.out.a).mono ?_; rintro e w5 ⟨rfl, rfl⟩))
      | (go_at_call 12; (refine (decDead_any _ F4 gb tb _ _ _ _ HT4.out.b).mono ?_; rintro e w5 ⟨rfl, rfl⟩))
      | (go_at_call 17; (refine (decTable_any _ F3 ga ta _ _ _ _ HT4.out.a).mono ?_; rintro e w5 ⟨rfl, rfl⟩))
      | (go_at_call 17; (refine (decTable_any _ F4 gb tb _ _ _ _ HT4.out.b).mono ?_; rintro e w5 ⟨rfl, rfl⟩))
      | (go_at_call 21; (refine (len_tb HT4.out.a.tb).mono ?_; rintro e w5 ⟨rfl, rfl⟩))
      | (go_at_call 21; (refine (len_tb HT4.out.b.tb).mono ?_; rintro e w5 ⟨rfl, rfl⟩))
      | (go_at_call 18; (refine (size_tb HT4.out.a.tb).mono ?_; rintro e w5 ⟨rfl, rfl⟩))
      | (go_at_call 18; (refine (size_tb HT4.out.b.tb).mono ?_; rintro e w5 ⟨rfl, rfl⟩))
      | (go_at_call 19; (refine (most_tb HT4.out.a.tb).mono ?_; rintro e w5 ⟨rfl, rfl⟩)))
              go_upto_region 26 with (go_at_call 15; go_must (refine (exact_any A3 0 c3 A4 0 c4 [] _ HX4.out HY4.out (by omega)).mono ?_; rintro e w6 ⟨rfl, hb6⟩; have HT6 := hid (HT4.out.below hb6); have HX6 := hid (HX4.out.below hb6); clear hb6))
              go_upto_region 28 with fail
              go_wp2_with (first
      | (go_at_call 12; (refine (decDead_any _ F3 ga ta _ _ _ _ HT6.out.a).mono ?_; rintro e w5 ⟨rfl, rfl⟩))
      | (go_at_call 12; (refine (decDead_any _ F4 gb tb _ _ _ _ HT6.out.b).mono ?_; rintro e w5 ⟨rfl, rfl⟩))
      | (go_at_call 17; (refine (decTable_any _ F3 ga ta _ _ _ _ HT6.out.a).mono ?_; rintro e w5 ⟨rfl, rfl⟩))
      | (go_at_call 17; (refine (decTable_any _ F4 gb tb _ _ _ _ HT6.out.b).mono ?_; rintro e w5 ⟨rfl, rfl⟩))
      | (go_at_call 21; (refine (len_tb HT6.out.a.tb).mono ?_; rintro e w5 ⟨rfl, rfl⟩))
      | (go_at_call 21; (refine (len_tb HT6.out.b.tb).mono ?_; rintro e w5 ⟨rfl, rfl⟩))
      | (go_at_call 18; (refine (size_tb HT6.out.a.tb).mono ?_; rintro e w5 ⟨rfl, rfl⟩))
      | (go_at_call 18; (refine (size_tb HT6.out.b.tb).mono ?_; rintro e w5 ⟨rfl, rfl⟩))
      | (go_at_call 19; (refine (most_tb HT6.out.a.tb).mono ?_; rintro e w5 ⟨rfl, rfl⟩)))
              go_roundw
              case rel => exact ⟨k2 + 1, _, _, _, _, _, by omega, by go_num, HT6.out⟩
              case measure => simp [intOf]; omega
            · dsimp only at hx4 hy4 ⊢
              obtain rfl : 0 = n3 := hx4.len
              have hl4 := hy4.len
              have HX4 := hid hx4
              have HY4 := hid hy4
              clear hx4 hy4
              go_upto_region 24 with (first
      | (go_at_call 12; (refine (decDead_any _ F3 ga ta _ _ _ _ HT4.out.a).mono ?_; rintro e w5 ⟨rfl, rfl⟩))
      | (go_at_call 12; (refine (decDead_any _ F4 gb tb _ _ _ _ HT4.out.b).mono ?_; rintro e w5 ⟨rfl, rfl⟩))
      | (go_at_call 17; (refine (decTable_any _ F3 ga ta _ _ _ _ HT4.out.a).mono ?_; rintro e w5 ⟨rfl, rfl⟩))
      | (go_at_call 17; (refine (decTable_any _ F4 gb tb _ _ _ _ HT4.out.b).mono ?_; rintro e w5 ⟨rfl, rfl⟩))
      | (go_at_call 21; (refine (len_tb HT4.out.a.tb).mono ?_; rintro e w5 ⟨rfl, rfl⟩))
      | (go_at_call 21; (refine (len_tb HT4.out.b.tb).mono ?_; rintro e w5 ⟨rfl, rfl⟩))
      | (go_at_call 18; (refine (size_tb HT4.out.a.tb).mono ?_; rintro e w5 ⟨rfl, rfl⟩))
      | (go_at_call 18; (refine (size_tb HT4.out.b.tb).mono ?_; rintro e w5 ⟨rfl, rfl⟩))
      | (go_at_call 19; (refine (most_tb HT4.out.a.tb).mono ?_; rintro e w5 ⟨rfl, rfl⟩)))
              go_upto_region 26 with (go_at_call 20; go_must (refine (rtotal_any A4 n4 c4 l _ HY4.out (by omega) (by omega)).mono ?_; rintro e w6 ⟨rfl, hb6⟩; have HT6 := hid (HT4.out.below hb6); clear hb6))
              go_upto_region 28 with fail
              go_wp2_with (first
      | (go_at_call 12; (refine (decDead_any _ F3 ga ta _ _ _ _ HT6.out.a).mono ?_; rintro e w5 ⟨rfl, rfl⟩))
      | (go_at_call 12; (refine (decDead_any _ F4 gb tb _ _ _ _ HT6.out.b).mono ?_; rintro e w5 ⟨rfl, rfl⟩))
      | (go_at_call 17; (refine (decTable_any _ F3 ga ta _ _ _ _ HT6.out.a).mono ?_; rintro e w5 ⟨rfl, rfl⟩))
      | (go_at_call 17; (refine (decTable_any _ F4 gb tb _ _ _ _ HT6.out.b).mono ?_; rintro e w5 ⟨rfl, rfl⟩))
      | (go_at_call 21; (refine (len_tb HT6.out.a.tb).mono ?_; rintro e w5 ⟨rfl, rfl⟩))
      | (go_at_call 21; (refine (len_tb HT6.out.b.tb).mono ?_; rintro e w5 ⟨rfl, rfl⟩))
      | (go_at_call 18; (refine (size_tb HT6.out.a.tb).mono ?_; rintro e w5 ⟨rfl, rfl⟩))
      | (go_at_call 18; (refine (size_tb HT6.out.b.tb).mono ?_; rintro e w5 ⟨rfl, rfl⟩))
      | (go_at_call 19; (refine (most_tb HT6.out.a.tb).mono ?_; rintro e w5 ⟨rfl, rfl⟩)))
              go_roundw
              case rel => exact ⟨k2 + 1, _, _, _, _, _, by omega, by go_num, HT6.out⟩
              case measure => simp [intOf]; omega
            · dsimp only at hx4 hy4 ⊢
              have hl4 := hx4.len
              have hl5 := hy4.len
              have HX4 := hid hx4
              have HY4 := hid hy4
              clear hx4 hy4
              go_upto_region 24 with (first
      | (go_at_call 12; (refine (decDead_any _ F3 ga ta _ _ _ _ HT4.out.a).mono ?_; rintro e w5 ⟨rfl, rfl⟩))
      | (go_at_call 12; (refine (decDead_any _ F4 gb tb _ _ _ _ HT4.out.b).mono ?_; rintro e w5 ⟨rfl, rfl⟩))
      | (go_at_call 17; (refine (decTable_any _ F3 ga ta _ _ _ _ HT4.out.a).mono ?_; rintro e w5 ⟨rfl, rfl⟩))
      | (go_at_call 17; (refine (decTable_any _ F4 gb tb _ _ _ _ HT4.out.b).mono ?_; rintro e w5 ⟨rfl, rfl⟩))
      | (go_at_call 21; (refine (len_tb HT4.out.a.tb).mono ?_; rintro e w5 ⟨rfl, rfl⟩))
      | (go_at_call 21; (refine (len_tb HT4.out.b.tb).mono ?_; rintro e w5 ⟨rfl, rfl⟩))
      | (go_at_call 18; (refine (size_tb HT4.out.a.tb).mono ?_; rintro e w5 ⟨rfl, rfl⟩))
      | (go_at_call 18; (refine (size_tb HT4.out.b.tb).mono ?_; rintro e w5 ⟨rfl, rfl⟩))
      | (go_at_call 19; (refine (most_tb HT4.out.a.tb).mono ?_; rintro e w5 ⟨rfl, rfl⟩)))
              go_upto_region 26 with (go_at_call 15; go_must (refine (exact_any A3 n3 c3 A4 n4 c4 l _ HX4.out HY4.out (by omega)).mono ?_; rintro e w6 ⟨rfl, hb6⟩; have HT6 := hid (HT4.out.below hb6); have HX6 := hid (HX4.out.below hb6); clear hb6))
              go_upto_region 28 with (go_at_call 20; go_must (refine (rtotal_any A3 n3 c3 l _ HX6.out (by omega) (by omega)).mono ?_; rintro e w7 ⟨rfl, hb7⟩; have HT7 := hid (HT6.out.below hb7); clear hb7))
              go_wp2_with (first
      | (go_at_call 12; (refine (decDead_any _ F3 ga ta _ _ _ _ HT7.out.a).mono ?_; rintro e w5 ⟨rfl, rfl⟩))
      | (go_at_call 12; (refine (decDead_any _ F4 gb tb _ _ _ _ HT7.out.b).mono ?_; rintro e w5 ⟨rfl, rfl⟩))
      | (go_at_call 17; (refine (decTable_any _ F3 ga ta _ _ _ _ HT7.out.a).mono ?_; rintro e w5 ⟨rfl, rfl⟩))
      | (go_at_call 17; (refine (decTable_any _ F4 gb tb _ _ _ _ HT7.out.b).mono ?_; rintro e w5 ⟨rfl, rfl⟩))
      | (go_at_call 21; (refine (len_tb HT7.out.a.tb).mono ?_; rintro e w5 ⟨rfl, rfl⟩))
      | (go_at_call 21; (refine (len_tb HT7.out.b.tb).mono ?_; rintro e w5 ⟨rfl, rfl⟩))
      | (go_at_call 18; (refine (size_tb HT7.out.a.tb).mono ?_; rintro e w5 ⟨rfl, rfl⟩))
      | (go_at_call 18; (refine (size_tb HT7.out.b.tb).mono ?_; rintro e w5 ⟨rfl, rfl⟩))
      | (go_at_call 19; (refine (most_tb HT7.out.a.tb).mono ?_; rintro e w5 ⟨rfl, rfl⟩)))
              go_roundw
              case rel => exact ⟨k2 + 1, _, _, _, _, _, by omega, by go_num, HT7.out⟩
              case measure => simp [intOf]; omega
          · obtain rfl : k2 = k := by omega
            go_wp2_with (go_at_call 8; go_must (refine (first8_any _).mono ?_; rintro e w3 ⟨rfl, hb3⟩; have HB3 := hid (HT.out.out.trans (hb3.mono HT.out.out.size)); clear hb3))
            go_ret
            exact ⟨rfl, HB3.out⟩
end Go.Proofs.YtdiejemhhcaicaaDoor
