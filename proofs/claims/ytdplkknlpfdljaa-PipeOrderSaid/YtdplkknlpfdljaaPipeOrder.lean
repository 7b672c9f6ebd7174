/- The law PipeOrder walked. -/
import Derived.Test.YtdplkknlpfdljaaPipeThree
import Derived.Test.YtdplkknlpfdljaaPipePlays
namespace Go.Proofs.Ytdplkknlpfdljaa
open Go.RowKit
attribute [local go_sem] kd kdS if_min if_max if_minN if_maxN
attribute [local go_sem ↓] sliced_word
attribute [local go_sem] offA_zero

set_option maxHeartbeats 4000000 in
set_option maxRecDepth 100000 in
theorem order_walk (room : Int) (A : Option Addr) (n c : Nat) (fs : List Pc) (w : World) (hs : Pcs w A n fs) (hn : n ≤ 140737488355328) (hr : room ≤ 9223372036854775807) :
    Calls Try.prog 5 #[.int .i64 room, .slice A n c] w fun e w' => e = .returned (.bool true) ∧ Below w.heap.size w w' := by
  have HS := hid hs
  clear hs
  obtain ⟨i0, hi0, hz0, hz1, hz2⟩ := info_parts u8_info
  have hi := hid hi0
  have hz := hid hz0
  have hsz := hid hz1
  have hby := hid hz2
  clear hi0 hz0 hz1 hz2
  go_enter Try.func5, Try.ntmps5
  go_wp2_with fail
  refine (first_any w).mono ?_
  rintro e w1 ⟨rfl, hb1⟩
  have HB1 := hid hb1
  clear hb1
  go_wp2_with fail
  refine (new_any room w1).mono ?_
  rintro e w2 ⟨rfl, hp2, hb2⟩
  have hwg : w.heap.size ≤ w1.heap.size := HB1.out.size
  generalize hg : w1.heap.size = g at hp2 hwg ⊢
  have HP2 := hid hp2
  have HB2 := hid (HB1.out.trans (hb2.mono HB1.out.size))
  clear hp2 hb2 hg
  go_wp2_with fail
  refine (few_any A n c fs w2 (HS.out.below HB2.out) hn).mono ?_
  rintro e w3 ⟨rfl, rfl⟩
  by_cases hbad : fewB fs = false ∨ room < 0
  · rcases hfb : fewB fs with _ | _
    · clear hbad
      go_wp2_with (go_at_call 7; go_must (refine (first_any _).mono ?_; rintro e w6 ⟨rfl, hb6⟩; have HB6 := hid hb6; clear hb6))
      go_ret
      exact ⟨rfl, HB2.out.trans (HB6.out.mono HB2.out.size)⟩
    · have hrm : room < 0 := by
        rcases hbad with h | h
        · rw [hfb] at h; cases h
        · exact h
      clear hbad
      go_wp2_with (go_at_call 7; go_must (refine (first_any _).mono ?_; rintro e w6 ⟨rfl, hb6⟩; have HB6 := hid hb6; clear hb6))
      go_ret
      exact ⟨rfl, HB2.out.trans (HB6.out.mono HB2.out.size)⟩
  · have hf : fewB fs = true := by
      rcases h : fewB fs with _ | _
      · exact absurd (.inl h) hbad
      · rfl
    obtain ⟨r, rfl⟩ : ∃ r : Nat, room = r := ⟨room.toNat, by omega⟩
    have hle := fewB_le hf
    have hlen := HS.out.len
    have hp3 := HP2.out
    rw [show max (r : Int) 0 = r by omega] at hp3
    have HI3 : Hid (O3 w w2 g r (.slice none 0 0) 0 [] (.slice none 0 0) 0 [] (.slice none 0 0) 0 [] (.slice none 0 0) 0 [] 0 0) := by
      have na : ∀ v : Value, Apart (.slice none 0 0) v := fun v b hb => by simp [Value.ownBlock] at hb
      exact hid ⟨HB2.out, World.ownsRow_nil _ _ _ _, World.ownsRow_nil _ _ _ _, World.ownsRow_nil _ _ _ _, ⟨none, 0, rfl, hp3.rebase hwg⟩, na _, na _, na _, na _, na _, na _⟩
    rw [hf]
    clear hf hbad HP2 HB2 HB1 hp3
    go_wp2_with fail
    go_loopw [6, 7, 8] (fun in_ out_ i wr => ∃ k im ic om oc pn : Nat, ∃ IA OA P il ol pl, k ≤ n ∧ in_ = .slice IA im ic ∧ out_ = .slice OA om oc ∧ i = .int .i64 k ∧ O3 w wr g r (.slice IA im ic) im il (.slice OA om oc) om ol (.slice none 0 0) 0 [] P pn pl im om ∧ ol ++ pl = il ∧ im ≤ fewSum fs k) (fun _ _ i _ => n - (intOf i).toNat)
    case atStart => exact ⟨0, 0, 0, 0, 0, 0, none, none, _, [], [], [], Nat.zero_le _, rfl, rfl, rfl, HI3.out, rfl, Nat.zero_le _⟩
    case round =>
      obtain ⟨k, im, ic, om, oc, pn, IA, OA, P, il, ol, pl, hk, rfl, rfl, rfl, hinv, hpl, him⟩ := hrel
      have HI := hid hinv
      clear hinv HI3
      by_cases hkn : k < n
      · obtain ⟨b, o, rfl, hc⟩ := HS.out.at_ (by omega)
        obtain ⟨x, hx⟩ : ∃ x, fs[k]? = some x := ⟨fs[k]'(by omega), List.getElem?_eq_getElem _⟩
        obtain ⟨h0, h1, h3⟩ := hc k x hx
        have HW1 := hid h1
        have h0 := below_keep HI.out.b _ _ h0
        have h1 := below_keep HI.out.b _ _ h1
        have h3 := below_keep HI.out.b _ _ h3
        have hsum := fewSum_succ hx
        have hsum2 := fewSum_mono fs (k := k + 1) (by omega)
        obtain ⟨hbx, hbc⟩ := HS.out.body x (List.mem_of_getElem? hx)
        have HBX := hid hbx
        clear hc hx hbx
        by_cases hk0 : x.k = 0
        · rw [hk0] at h0
          have hnx : x.n ≤ 20000 := by omega
          go_wp2_with fail
          refine (copy_any x.A x.n x.c x.l wr (HBX.out.below HI.out.b) (by omega)).mono ?_
          rintro e w4 ⟨VA, vc, rfl, hV, hb4⟩
          have H4 := hid (HI.out.fresh hb4 hV)
          have hvc := own_le hV
          have HV4 := hid (Bs.of_own hV)
          clear hV hb4
          obtain ⟨q1, q2, q3, q4, q5⟩ := H4.out.lens
          have hlens := congrArg List.length hpl
          rw [List.length_append, q1, q2, q4] at hlens
          go_wp2_with fail
          refine (H4.out.put HV4.out hvc (by omega) (by omega) (by omega) (by omega)).mono ?_
          have hql := putN_le x.n r pn
          generalize hqq : putN x.n r pn = q at hql ⊢
          rintro e w5 ⟨rfl, P5, hi5⟩
          have H5 := hid hi5
          have HV5 := hid (show Rd w5 1 VA q ((x.l.take q).map bv) from (Bs.of_own hi5.rV).to hql)
          have hw5 := hi5.b.size
          clear hi5
          go_wp2_with (at_builtin; go_loud (refine wpList_app _ rfl _ _ _ rfl w.heap.size 5 i0 _ 1 1 Try.underlying22 hi.out hz.out hsz.out hby.out rfl (by omega) _ im _ rfl H5.out.rI VA q vc _ rfl HV5.out (bv_one _) (by omega) (by omega) hw5 ?_; intro A6 c6 w6 ho6 hg6 hc6; have H6 := hid (H5.out.appI (by rw [List.map_append]; exact ho6) hg6 hc6); clear ho6 hg6 hc6))
          go_loopw [11] (fun kk wv => ∃ (j : Nat) (vl : List UInt8), j ≤ x.n ∧ kk = .int .i64 j ∧ O3 w wv g r (.slice A6 (im + q) c6) (im + q) (il ++ x.l.take q) (.slice OA om oc) om ol (.slice VA x.n vc) x.n vl P5 (pn + q) (pl ++ x.l.take q) (im + q) om) (fun kk _ => x.n - (intOf kk).toNat)
          case atStart => exact ⟨0, x.l, Nat.zero_le _, rfl, H6.out⟩
          case round =>
            obtain ⟨j, vl, hj, rfl, hinv⟩ := hrel
            have H7 := hid hinv
            clear hinv
            by_cases hjn : j < x.n
            · obtain ⟨vb, cap, hv, _, hvlt⟩ := H7.out.rV.form (by omega)
              injection hv with hv1 hv2 hv3
              subst hv1 hv3
              obtain ⟨y, hy⟩ : ∃ y, vl[j]? = some y := ⟨vl[j]'(by have := H7.out.lens.2.2.1; omega), List.getElem?_eq_getElem _⟩
              have hcell := H7.out.rV.cellAt j (by omega)
              rw [List.getElem?_map, hy, Option.map_some] at hcell
              unfold bv at hcell
              have hfz := H7.out.rV.frozenAt j
              go_wp2_with fail
              obtain ⟨vl', hf⟩ := H7.out.flip j y
              go_roundw
              case rel => exact ⟨j + 1, vl', by omega, by go_num, hf⟩
              case measure => simp [intOf]; omega
            · obtain rfl : j = x.n := by omega
              have hlk := H7.out.lens
              have happ : ol ++ (pl ++ x.l.take q) = il ++ x.l.take q := by rw [← List.append_assoc, hpl]
              have HA := hid happ
              have hfit : (pn : Int) + q ≤ r := by have := hlk.2.2.2.2; omega
              have HH := hid H7.out
              clear H7 H6 H5 H4 HV5 HV4 happ hlk
              have hs1 : (im : Int) + q - om = pn + q := by omega
              have hs2 : (r : Int) - (pn + q) = r - pn - q := by omega
              go_wp2_with (first
                | (go_at_call 24; go_must (refine (O3.beginsC HH.out HA.out).mono ?_; rintro e w9 ⟨rfl, hb9⟩; have HH := hid (HH.out.below hb9); clear hb9))
                | (go_at_call 12; go_must (refine (O3.lenC HH.out).mono ?_; rintro e w9 ⟨rfl, rfl⟩))
                | (go_at_call 14; go_must (refine (O3.inC HH.out).mono ?_; rintro e w9 ⟨rfl, rfl⟩))
                | (go_at_call 22; go_must (refine (O3.outC HH.out).mono ?_; rintro e w9 ⟨rfl, rfl⟩))
                | (go_at_call 13; go_must (refine (O3.freeC HH.out hr).mono ?_; rintro e w9 ⟨rfl, hb9⟩; have HH := hid (HH.out.below hb9); clear hb9)))
              go_roundw
              case rel => exact ⟨k + 1, im + q, c6, om, oc, pn + q, A6, OA, P5, _, ol, _, by omega, rfl, rfl, by go_num, HH.out.noV, HA.out, by omega⟩
              case measure => simp [intOf]; omega
        · have hk0b : ¬ x.k = 0 := hk0
          have hkb : ((x.k : Int) == 0) = false := by
            rw [beq_eq_false_iff_ne]
            exact hk0
          have hpn : pn ≤ 20000 := by
            have h9 := HI.out.lens
            have := congrArg List.length hpl
            rw [List.length_append, h9.1, h9.2.1, h9.2.2.2.1] at this
            omega
          have hl9 : om + pn = im := by
            have h9 := HI.out.lens
            have := congrArg List.length hpl
            rw [List.length_append, h9.1, h9.2.1, h9.2.2.2.1] at this
            exact this
          clear hk0
          go_wp2_with fail
          refine (HI.out.look x.f (by omega)).mono ?_
          have htp := lookN_le x.f pn
          generalize htt : lookN x.f pn = t at htp ⊢
          have HT := hid htt
          clear htt
          rintro e w4 ⟨VA, vc, rfl, hi4, hg4⟩
          have H4 := hid hi4
          clear hi4
          go_wp2_with fail
          refine (copy_any VA t vc (pl.take t) w4 (Bs.of_own H4.out.rV) (by omega)).mono ?_
          rintro e w5 ⟨YA, yc, rfl, hY, hb5⟩
          have H5 := hid (H4.out.below hb5)
          have HY := hid (Bs.of_own hY)
          have hyo : ∀ ad, YA = some ad → w4.heap.size ≤ ad.block := fun ad e => by subst e; exact (hY.lt ad.block rfl).1
          have HYO := hid hyo
          clear hY hb5 hyo
          go_wp2_with fail
          go_loopw [14] (fun kk wv => ∃ (j : Nat) (vl : List UInt8), j ≤ t ∧ kk = .int .i64 j ∧ O3 w wv g r (.slice IA im ic) im il (.slice OA om oc) om ol (.slice VA t vc) t vl P pn pl im om ∧ Bs wv YA t (pl.take t)) (fun kk _ => t - (intOf kk).toNat)
          case atStart => exact ⟨0, pl.take t, Nat.zero_le _, rfl, H5.out, HY.out⟩
          case round =>
            obtain ⟨j, vl, hj, rfl, hinv, hy7⟩ := hrel
            have H7 := hid hinv
            have HY7 := hid hy7
            clear hinv hy7
            by_cases hjn : j < t
            · obtain ⟨vb, cap, hv, _, hvlt⟩ := H4.out.rV.form (by omega)
              injection hv with hv1 hv2 hv3
              subst hv1 hv3
              obtain ⟨y, hy⟩ : ∃ y, vl[j]? = some y := ⟨vl[j]'(by have := H7.out.lens.2.2.1; omega), List.getElem?_eq_getElem _⟩
              have hcell := H7.out.rV.cellAt j (by omega)
              rw [List.getElem?_map, hy, Option.map_some] at hcell
              unfold bv at hcell
              have hfz := H7.out.rV.frozenAt j
              go_wp2_with fail
              obtain ⟨vl', hf⟩ := H7.out.flip j y
              go_roundw
              case rel => exact ⟨j + 1, vl', by omega, by go_num, hf, HY7.out.turned ((Turned.refl [vb] _).setCell (by simp) _) (fun ad e => by have := HYO.out ad e; simp; omega)⟩
              case measure => simp [intOf]; omega
            · have h1 := below_keep H7.out.b _ _ HW1.out
              clear H5 HY
              go_wp2_with fail
              refine (H7.out.take x.f (by omega) (by omega) (by omega)).mono ?_
              rw [HT.out]
              rintro e w8 ⟨ZA, zc, P8, rfl, hz8, hi8, ht8⟩
              have H8 := hid hi8
              have HZ8 := hid hz8
              have HY8 := hid (HY7.out.turned ht8 (fun ad e => by have := HYO.out ad e; simp; omega))
              clear hi8 hz8 ht8 H7 HY7
              go_wp2_with fail
              refine (same_bytes _ _ _ _ _ _ _ _ _ HZ8.out HY8.out).mono ?_
              rw [beq_self_eq_true]
              rintro e w9 ⟨rfl, rfl⟩
              obtain ⟨pm, hpm⟩ : ∃ pm, pn = pm + t := ⟨pn - t, by omega⟩
              have h8 := H8.out.swap
              rw [show pn - t = pm by omega] at h8
              have H9 := hid h8
              have hw9 := h8.b.size
              have hfit : (pm : Int) ≤ r := h8.lens.2.2.2.2
              clear h8 H8
              have hs1 : (im : Int) - (om + t) = pm := by omega
              have HA : Hid ((ol ++ pl.take t) ++ pl.drop t = il) := by
                rw [List.append_assoc, List.take_append_drop]
                exact hid hpl
              go_wp2_with (at_builtin; go_loud (refine wpList_app _ rfl _ _ _ rfl w.heap.size 5 i0 _ 1 1 Try.underlying22 hi.out hz.out hsz.out hby.out rfl (by omega) _ om _ rfl H9.out.rI ZA t zc _ rfl HZ8.out (bv_one _) (by omega) (by omega) hw9 ?_; intro A6 c6 w6 ho6 hg6 hc6; have HH := hid ((H9.out.appI (by rw [List.map_append]; exact ho6) hg6 hc6).swap); clear ho6 hg6 hc6))
              go_wp2_with (first
                | (go_at_call 24; go_must (refine (O3.beginsC HH.out HA.out).mono ?_; rintro e w9 ⟨rfl, hb9⟩; have HH := hid (HH.out.below hb9); clear hb9))
                | (go_at_call 12; go_must (refine (O3.lenC HH.out).mono ?_; rintro e w9 ⟨rfl, rfl⟩))
                | (go_at_call 14; go_must (refine (O3.inC HH.out).mono ?_; rintro e w9 ⟨rfl, rfl⟩))
                | (go_at_call 22; go_must (refine (O3.outC HH.out).mono ?_; rintro e w9 ⟨rfl, rfl⟩))
                | (go_at_call 13; go_must (refine (O3.freeC HH.out hr).mono ?_; rintro e w9 ⟨rfl, hb9⟩; have HH := hid (HH.out.below hb9); clear hb9)))
              go_roundw
              case rel => exact ⟨k + 1, im, ic, om + t, c6, pm, IA, A6, P8, _, _, _, by omega, rfl, rfl, by go_num, HH.out.noV, HA.out, by omega⟩
              case measure => simp [intOf]; omega
      · have h9 := HI.out.lens
        have hlk : om + pn = im := by
          have := congrArg List.length hpl
          rw [List.length_append, h9.1, h9.2.1, h9.2.2.2.1] at this
          exact this
        have him2 : im ≤ 20000 := by
          have h8 := fewSum_mono fs (k := k) (by omega)
          omega
        clear h9
        go_wp2_with fail
        refine (first_any _).mono ?_
        rintro e w4 ⟨rfl, hb4⟩
        have H4 := hid (HI.out.below hb4).swap
        clear hb4
        have ht : lookN ((im : Int) + 1) pn = pn := by
          have := lookN_int ((im : Int) + 1) pn
          omega
        have HT := hid ht
        clear ht
        have hw4 := H4.out.b.size
        go_wp2_with (first
          | (go_at_call 10; go_must (refine (H4.out.take _ (by omega) (by omega) (by omega)).mono ?_; rw [HT.out]; rintro e w5 ⟨ZA, zc, P5, rfl, hz5, hi5, ht5⟩; have H5 := hid hi5; have HZ5 := hid hz5; have hw5 := hi5.b.size; clear hi5 hz5 ht5))
          | (at_builtin; go_loud (refine wpList_appG _ rfl _ _ _ rfl w.heap.size 5 i0 _ 1 1 Try.underlying22 hi.out hz.out hsz.out hby.out rfl (by omega) _ om _ rfl H5.out.rI ZA pn zc _ rfl HZ5.out (bv_one _) (by omega) (by omega) hw5 ?_; intro A6 c6 w6 ho6 hg6 hc6; have H6 := hid (H5.out.appI (by rw [List.map_append]; exact ho6) hg6 hc6); clear ho6 hg6 hc6)))
        have HX : Hid (Bs w6 A6 im il) := by
          have h := Bs.of_own H6.out.rI
          have hl := HI.out.lens.2.2.2.1
          rw [hlk, List.take_of_length_le (by omega), hpl] at h
          exact hid h
        have HY := hid (Bs.of_own H6.out.rO)
        have HZ := hid H6.out.b
        refine (same_bytes _ _ _ _ _ _ _ _ _ HX.out HY.out).mono ?_
        rw [beq_self_eq_true]
        rintro e w7 ⟨rfl, rfl⟩
        go_wp2_with fail
        go_ret
        exact ⟨rfl, HZ.out⟩
end Go.Proofs.Ytdplkknlpfdljaa
