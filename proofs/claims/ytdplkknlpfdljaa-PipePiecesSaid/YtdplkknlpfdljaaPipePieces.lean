/- The law PipePieces walked. -/
import Derived.Test.YtdplkknlpfdljaaPipeInv
namespace Go.Proofs.Ytdplkknlpfdljaa
open Go.RowKit
attribute [local go_sem] kd kdS if_min if_max if_minN if_maxN
attribute [local go_sem ↓] sliced_word
attribute [local go_sem] offA_zero

set_option maxHeartbeats 4000000 in
set_option maxRecDepth 100000 in
theorem pieces_walk (room : Int) (A : Option Addr) (n c : Nat) (l : List UInt8) (A1 : Option Addr) (n1 c1 : Nat) (l1 : List Int) (A2 : Option Addr) (n2 c2 : Nat) (l2 : List Int) (w : World) (hs : Bs w A n l) (hc : n ≤ c) (hs1 : Is w A1 n1 l1) (hs2 : Is w A2 n2 l2) :
    Calls Try.prog 3 #[.int .i64 room, .slice A n c, .slice A1 n1 c1, .slice A2 n2 c2] w fun e w' => e = .returned (.bool true) ∧ Below w.heap.size w w' := by
  have HS := hid hs
  have HS1 := hid hs1
  have HS2 := hid hs2
  clear hs hs1 hs2
  by_cases hbad : 3000 < n ∨ room < 1 ∨ 3000 < room ∨ 300 < n1 ∨ 300 < n2
  · go_enter Try.func3, Try.ntmps3
    go_wp2_with fail
    refine (first_any w).mono ?_
    rintro e w1 ⟨rfl, hb1⟩
    have HB1 := hid hb1
    clear hb1
    go_wp2_with (go_at_call 7; (with_reducible refine (first_any _).mono ?_); rintro e w2 ⟨rfl, hb2⟩; have HB2 := hid hb2; clear hb2)
    all_goals first | (exfalso; omega) | skip
    all_goals
      go_ret
      exact ⟨rfl, HB1.out.trans (HB2.out.mono HB1.out.size)⟩
  · obtain ⟨r, rfl⟩ : ∃ r : Nat, room = r := ⟨room.toNat, by omega⟩
    have hn : n ≤ 3000 := by omega
    have hn1 : n1 ≤ 300 := by omega
    have hn2 : n2 ≤ 300 := by omega
    have hr0 : 1 ≤ r := by omega
    have hr1 : r ≤ 3000 := by omega
    clear hbad
    obtain ⟨i0, hi0, hz0, hz1, hz2⟩ := info_parts u8_info
    have hi := hid hi0
    have hz := hid hz0
    have hsz := hid hz1
    have hby := hid hz2
    clear hi0 hz0 hz1 hz2
    go_enter Try.func3, Try.ntmps3
    go_wp2_with fail
    refine (first_any w).mono ?_
    rintro e w1 ⟨rfl, hb1⟩
    have HB1 := hid hb1
    clear hb1
    go_wp2_with fail
    refine (new_any r w1).mono ?_
    rw [show max (r : Int) 0 = r by omega]
    rintro e w2 ⟨rfl, hp2, hb2⟩
    have hwg : w.heap.size ≤ w1.heap.size := HB1.out.size
    generalize hg : w1.heap.size = g at hp2 hwg ⊢
    have HP2 := hid hp2
    have HB2 := hid (HB1.out.trans (hb2.mono HB1.out.size))
    clear hp2 hb2 hg
    go_wp2_with fail
    refine (new_any r w2).mono ?_
    rw [show max (r : Int) 0 = r by omega]
    rintro e w3 ⟨rfl, hq3, hb3⟩
    have hgh : g < w2.heap.size := HP2.out.blk.lt
    generalize hh : w2.heap.size = h at hq3 hgh ⊢
    have HQ3 := hid hq3
    have HP3 := hid (HP2.out.below hb3)
    have HB3 := hid (HB2.out.trans (hb3.mono HB2.out.size))
    clear hq3 hb3 hh
    go_wp2_with fail
    have HI3 := hid (PInv.start (l := l) HB3.out HP3.out HQ3.out hwg (by omega) (Nat.ne_of_lt hgh))
    have hln := HS.out.len
    clear HP2 HP3 HQ3 HB3 HB2 HB1
    go_wp2_with fail
    go_loopw [11, 12, 13] (fun at_ got i wr => ∃ a m k : Nat, ∃ GA gc, a ≤ n ∧ k ≤ 300 ∧ at_ = .int .i64 a ∧ got = .slice GA m gc ∧ i = .int .i64 k ∧ PInv w wr g h r l a GA m gc) (fun _ _ i _ => 300 - (intOf i).toNat)
    case atStart => exact ⟨0, 0, 0, none, 0, Nat.zero_le _, by omega, rfl, rfl, rfl, HI3.out⟩
    case round =>
      obtain ⟨a, m, k, GA, gc, ha, hk, rfl, rfl, rfl, hinv⟩ := hrel
      have HI := hid hinv
      clear hinv
      obtain ⟨hma, hmr, hb, gl, hown⟩ := HI.out.facts (by omega)
      have HB := hid hb
      clear hb hown
      by_cases hend : n1 ≤ k ∧ n2 ≤ k
      · clear HI3
        obtain ⟨z0, z1⟩ := hend
        go_wp2_with (first | (go_at_call 10; go_loud (refine (PInv.take HI.out (by omega) (by omega) _).mono ?_; rintro v w6 ⟨A6, t6, c6, gl6, xs6, rfl, hx6, hm6, hs6, ho6, hb6, ha6, hcl6⟩; have HX6 := hid hx6; have HO6 := hid ho6; have HCL6 := hid hcl6; clear hx6 ho6 hcl6 hb6)) | (at_builtin; go_loud (refine wpList_app _ rfl _ _ _ rfl w.heap.size 5 i0 _ 1 1 Try.underlying22 hi.out hz.out hsz.out hby.out rfl (by omega) _ m _ rfl HO6.out A6 t6 c6 _ rfl HX6.out (bv_one xs6) (by omega) (by omega) hs6 ?_; intro A7 c7 w7 ho7 hg7 hc7; have HI := hid (HCL6.out A7 c7 w7 ho7 hg7 hc7); clear ho7 hg7 hc7)))
        have hat : m + t6 = a := ha6 (by omega)
        clear ha6 HCL6 HO6 HX6 hm6
        generalize m + t6 = mt at HI hat ⊢
        subst hat
        refine (first_any _).mono ?_
        rintro e w8 ⟨rfl, hb8⟩
        have HI8 := hid (HI.out.below hb8)
        clear hb8
        obtain ⟨PA, pc, hd1, hd2, hd3, hd4⟩ := HI8.out.done (by omega)
        have HD1 := hid hd1
        have HD2 := hid hd2
        have HD3 := hid hd3
        have HD4 := hid hd4
        clear hd1 hd2 hd3 hd4
        go_wp2_with fail
        refine (same_bytes _ _ mt _ mt _ (l.take mt) (l.take mt) _ HD1.out ((HS.out.below HD4.out).to (by omega))).mono ?_
        rw [beq_self_eq_true]
        rintro e w9 ⟨rfl, rfl⟩
        go_wp2_with fail
        refine (len_any _ _ _ _ _ _ _ _ _ _ HD2.out).mono ?_
        rintro e w9 ⟨rfl, rfl⟩
        go_wp2_with fail
        refine (free_any _ _ _ _ _ _ _ _ _ _ HD2.out (by omega)).mono ?_
        rw [show (r : Int) - ((0 : Nat) : Int) = r by omega]
        rintro e w9 ⟨rfl, hb9⟩
        have HD5 := hid (HD3.out.below hb9)
        have HD6 := hid (HD4.out.trans (hb9.mono HD4.out.size))
        clear hb9
        go_wp2_with fail
        refine (len_any _ _ _ _ _ _ _ _ _ _ HD5.out).mono ?_
        rintro e w10 ⟨rfl, rfl⟩
        go_wp2_with fail
        refine (in_any _ _ _ _ _ _ _ _ _ _ HD5.out).mono ?_
        rintro e w10 ⟨rfl, rfl⟩
        go_wp2_with fail
        go_ret
        exact ⟨rfl, HD6.out⟩
      · by_cases hk1 : k < n1
        · obtain ⟨b1, o1, x, rfl, hx, hx1⟩ := HS1.out.at_ hk1
          have hx1 := below_keep (HB.out.mono (Nat.le_refl _)) _ _ hx1
          clear hx
          by_cases hk2 : k < n2
          · obtain ⟨b2, o2, y, rfl, hy, hy0⟩ := HS2.out.at_ hk2
            have hy1 := below_keep (HB.out.mono (Nat.le_refl _)) _ _ hy0
            have HY := hid hy0
            clear hy hy0
            by_cases hx0 : 0 ≤ x
            · skip
              obtain ⟨e, he⟩ : ∃ e : Nat, min ((a : Int) + min 3000 x) (n : Int) = (e : Int) := ⟨(min ((a : Int) + min 3000 x) (n : Int)).toNat, by omega⟩
              have hw := IntWalk.i64_in ((a : Int) + min 3000 x) (by omega)
              have hae : a ≤ e := by omega
              have hen : e ≤ n := by omega
              have hsl := ((HS.out.below HB.out).to hen).off (k := a) (cap := c) hae (by omega)
              have HX := hid hsl
              clear hsl
              go_wp2_with (first | (go_at_call 9; go_loud (refine (PInv.put HI.out (by omega) (by omega) (by omega) (e := e) HX.out (by omega) (by omega) (by omega)).mono ?_; rintro v w5 ⟨q, rfl, hq, hi5⟩; have HI := hid hi5; clear hi5; obtain ⟨hma, hmr, hb5, _⟩ := HI.out.facts (by omega); have hy1 := below_keep (hb5.mono (Nat.le_refl _)) _ _ HY.out; clear hb5)) | (go_at_call 10; go_loud (refine (PInv.take HI.out (by omega) (by omega) _).mono ?_; rintro v w6 ⟨A6, t6, c6, gl6, xs6, rfl, hx6, hm6, hs6, ho6, hb6, ha6, hcl6⟩; have HX6 := hid hx6; have HO6 := hid ho6; have HCL6 := hid hcl6; clear hx6 ho6 hcl6 hb6)) | (at_builtin; go_loud (refine wpList_app _ rfl _ _ _ rfl w.heap.size 5 i0 _ 1 1 Try.underlying22 hi.out hz.out hsz.out hby.out rfl (by omega) _ m _ rfl HO6.out A6 t6 c6 _ rfl HX6.out (bv_one xs6) (by omega) (by omega) hs6 ?_; intro A7 c7 w7 ho7 hg7 hc7; have HI := hid (HCL6.out A7 c7 w7 ho7 hg7 hc7); clear ho7 hg7 hc7)))
              all_goals
                go_roundw
                case rel => exact ⟨_, _, k + 1, _, _, by omega, by omega, by go_num, rfl, by go_num, HI.out⟩
                case measure => simp [intOf]; omega
            · skip
              go_wp2_with (first | (go_at_call 10; go_loud (refine (PInv.take HI.out (by omega) (by omega) _).mono ?_; rintro v w6 ⟨A6, t6, c6, gl6, xs6, rfl, hx6, hm6, hs6, ho6, hb6, ha6, hcl6⟩; have HX6 := hid hx6; have HO6 := hid ho6; have HCL6 := hid hcl6; clear hx6 ho6 hcl6 hb6)) | (at_builtin; go_loud (refine wpList_app _ rfl _ _ _ rfl w.heap.size 5 i0 _ 1 1 Try.underlying22 hi.out hz.out hsz.out hby.out rfl (by omega) _ m _ rfl HO6.out A6 t6 c6 _ rfl HX6.out (bv_one xs6) (by omega) (by omega) hs6 ?_; intro A7 c7 w7 ho7 hg7 hc7; have HI := hid (HCL6.out A7 c7 w7 ho7 hg7 hc7); clear ho7 hg7 hc7)))
              all_goals
                go_roundw
                case rel => exact ⟨_, _, k + 1, _, _, by omega, by omega, by go_num, rfl, by go_num, HI.out⟩
                case measure => simp [intOf]; omega
          · by_cases hx0 : 0 ≤ x
            · skip
              obtain ⟨e, he⟩ : ∃ e : Nat, min ((a : Int) + min 3000 x) (n : Int) = (e : Int) := ⟨(min ((a : Int) + min 3000 x) (n : Int)).toNat, by omega⟩
              have hw := IntWalk.i64_in ((a : Int) + min 3000 x) (by omega)
              have hae : a ≤ e := by omega
              have hen : e ≤ n := by omega
              have hsl := ((HS.out.below HB.out).to hen).off (k := a) (cap := c) hae (by omega)
              have HX := hid hsl
              clear hsl
              go_wp2_with (go_at_call 9; go_loud (refine (PInv.put HI.out (by omega) (by omega) (by omega) (e := e) HX.out (by omega) (by omega) (by omega)).mono ?_; rintro v w5 ⟨q, rfl, hq, hi5⟩; have HI := hid hi5; clear hi5; obtain ⟨hma, hmr, hb5, _⟩ := HI.out.facts (by omega); clear hb5))
              all_goals
                go_roundw
                case rel => exact ⟨_, _, k + 1, _, _, by omega, by omega, by go_num, rfl, by go_num, HI.out⟩
                case measure => simp [intOf]; omega
            · skip
              go_wp2_with fail
              all_goals
                go_roundw
                case rel => exact ⟨_, _, k + 1, _, _, by omega, by omega, by go_num, rfl, by go_num, HI.out⟩
                case measure => simp [intOf]; omega
        · have hk2 : k < n2 := by omega
          obtain ⟨b2, o2, y, rfl, hy, hy0⟩ := HS2.out.at_ hk2
          have hy1 := below_keep (HB.out.mono (Nat.le_refl _)) _ _ hy0
          clear hy hy0
          go_wp2_with (first | (go_at_call 10; go_loud (refine (PInv.take HI.out (by omega) (by omega) _).mono ?_; rintro v w6 ⟨A6, t6, c6, gl6, xs6, rfl, hx6, hm6, hs6, ho6, hb6, ha6, hcl6⟩; have HX6 := hid hx6; have HO6 := hid ho6; have HCL6 := hid hcl6; clear hx6 ho6 hcl6 hb6)) | (at_builtin; go_loud (refine wpList_app _ rfl _ _ _ rfl w.heap.size 5 i0 _ 1 1 Try.underlying22 hi.out hz.out hsz.out hby.out rfl (by omega) _ m _ rfl HO6.out A6 t6 c6 _ rfl HX6.out (bv_one xs6) (by omega) (by omega) hs6 ?_; intro A7 c7 w7 ho7 hg7 hc7; have HI := hid (HCL6.out A7 c7 w7 ho7 hg7 hc7); clear ho7 hg7 hc7)))
          all_goals
            go_roundw
            case rel => exact ⟨_, _, k + 1, _, _, by omega, by omega, by go_num, rfl, by go_num, HI.out⟩
            case measure => simp [intOf]; omega
end Go.Proofs.Ytdplkknlpfdljaa
