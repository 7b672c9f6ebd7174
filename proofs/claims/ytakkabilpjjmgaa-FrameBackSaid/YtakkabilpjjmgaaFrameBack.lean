/- FrameBack's walk. Conditions: at most 2^47 frames. -/
import Derived.Test.YtakkabilpjjmgaaFrameBk
namespace Go.Proofs.Ytakkabilpjjmgaa
open Go.RowKit
attribute [local go_sem] kd kdS if_min if_max if_minN if_maxN
attribute [local go_sem ↓] sliced_word

theorem fewB_each {fs : List Fr} (h : fewB fs = true) : fs.length ≤ 100 ∧ ∀ x ∈ fs, x.n ≤ 40000 := by
  unfold fewB at h
  simp at h
  obtain ⟨h1, h2⟩ := h
  refine ⟨h1, fun x hx => ?_⟩
  unfold fewSum at h2
  rw [List.take_of_length_le h1] at h2
  have : ∀ l : List Fr, x ∈ l → min x.n 40001 ≤ (l.map fun x => min x.n 40001).sum := by
    intro l
    induction l with
    | nil => intro h; cases h
    | cons g l ih =>
      intro h
      simp only [List.map_cons, List.sum_cons]
      rcases List.mem_cons.1 h with rfl | h
      · omega
      · have := ih h; omega
  have := this fs hx
  omega
theorem enc_le {fs : List Fr} (ho : ∀ x ∈ fs, OkF x) (hn : ∀ x ∈ fs, x.n ≤ 40000) : (enc fs).length ≤ fs.length * 40009 := by
  induction fs with
  | nil => simp [enc]
  | cons x fs ih =>
    rw [enc_cons, List.length_append, (ho x (by simp)).size, List.length_cons, Nat.add_mul]
    have := ih (fun y hy => ho y (by simp [hy])) (fun y hy => hn y (by simp [hy]))
    have := hn x (by simp)
    omega

set_option maxHeartbeats 4000000 in
set_option maxRecDepth 100000 in
theorem back_walk (A : Option Addr) (n c : Nat) (fs : List Fr) (size room : Int) (w : World) (h : Frs w A n fs) (hn : n ≤ 140737488355328) (hs1 : size ≤ 9223372036854775807) (hr1 : room ≤ 9223372036854775807) :
    Calls Try.prog 7 #[.slice A n c, .int .i64 size, .int .i64 room] w fun e w' => e = .returned (.bool true) ∧ Below w.heap.size w w' := by
  have H := hid h
  have hlen := h.len
  clear h
  obtain ⟨i0, hi0, hz0, hz1, hz2⟩ := info_parts u8_info
  have hi := hid hi0
  have hz := hid hz0
  have hsz := hid hz1
  have hby := hid hz2
  clear hi0 hz0 hz1 hz2
  go_enter Try.func7, Try.ntmps7
  go_wp2_with fail
  refine (first_any w).mono ?_
  rintro e w1 ⟨rfl, hb1⟩
  have HB1 := hid hb1
  clear hb1
  go_wp2_with fail
  refine (few_any A n c fs w1 (H.out.below HB1.out) hn).mono ?_
  rintro e w2 ⟨rfl, rfl⟩
  by_cases hbad : ¬ (fewB fs = true ∧ 1 ≤ size ∧ 0 ≤ room)
  · rcases hfew : fewB fs with _ | _
    · clear hbad
      go_wp2_with fail
      refine (first_any w1).mono ?_
      rintro e w2 ⟨rfl, hb2⟩
      have HB2 := hid hb2
      clear hb2
      go_wp2_with fail
      go_ret
      exact ⟨rfl, HB1.out.trans (HB2.out.mono HB1.out.size)⟩
    · have hc : size < 1 ∨ (1 ≤ size ∧ room < 0) := by
        rw [hfew] at hbad
        simp at hbad
        omega
      clear hbad hfew
      rcases hc with h1 | ⟨h1, h2⟩
      all_goals
        go_wp2_with fail
        refine (first_any w1).mono ?_
        rintro e w2 ⟨rfl, hb2⟩
        have HB2 := hid hb2
        clear hb2
        go_wp2_with fail
        go_ret
        exact ⟨rfl, HB1.out.trans (HB2.out.mono HB1.out.size)⟩
  obtain ⟨hfew, hsize, hroom⟩ := Classical.not_not.1 hbad
  clear hbad
  rw [hfew]
  obtain ⟨hn2, hx0⟩ := fewB_each hfew
  rw [hlen] at hn2
  have HXN := hid hx0
  clear hx0 hfew
  go_wp2_with fail
  go_loopw [7, 9] (fun v i wr => ∃ (k : Nat) (A7 : Option Addr) (c7 : Nat), k ≤ n ∧ i = .int .i64 k ∧ v = .slice A7 (enc (fs.take k)).length c7 ∧ wr.ownsRow w.heap.size 5 1 (.slice A7 (enc (fs.take k)).length c7) (enc (fs.take k)).length ((enc (fs.take k)).map bv) ∧ (∀ x ∈ fs.take k, OkF x) ∧ Below w.heap.size w wr) (fun _ i _ => n - (intOf i).toNat)
  case atStart => exact ⟨0, none, 0, Nat.zero_le _, rfl, rfl, World.ownsRow_nil _ _ _ _, (fun x hx => by simp at hx), HB1.out⟩
  case round =>
    obtain ⟨k, A7, c7, hk, rfl, rfl, hown, hok, hb⟩ := hrel
    have HO := hid hown
    have HOK := hid hok
    have HB := hid hb
    have hel := enc_le hok (fun x hx => HXN.out x (List.mem_of_mem_take hx))
    have htl : (fs.take k).length = k := by rw [List.length_take]; omega
    rw [htl] at hel
    have hel2 : (enc (fs.take k)).length ≤ 4000900 := by omega
    clear hown hok htl hel
    by_cases hlt : k < n
    · have hfr := H.out.below hb
      obtain ⟨b, o, rfl, hc⟩ := hfr.at_ (by omega)
      obtain ⟨x, hx⟩ : ∃ x, fs[k]? = some x := ⟨fs[k]'(by omega), List.getElem?_eq_getElem _⟩
      obtain ⟨c0, c1, c2, c3⟩ := hc k x hx
      have HBX := hid (hfr.body x (List.mem_of_getElem? hx))
      have hxn := HXN.out x (List.mem_of_getElem? hx)
      have HX := hid hx
      clear hfr hc hx hb
      go_wp2_with fail
      refine (put_any x.k x.f x.s x.A x.n x.c x.l wr HBX.out).mono ?_
      rintro e w3 ⟨A3, n3, c3', rfl, hown3, hb3⟩
      have HO3 := hid hown3
      have HB3 := hid (HB.out.trans (hb3.mono HB.out.size))
      have HOW := hid (own_below HO.out hb3)
      clear hown3 hb3 c0 c1 c2 c3
      by_cases herr : putErr x.k x.f x.s x.l = 0
      · have HE := hid herr
        rw [herr]
        have hokx : OkF x := ⟨herr, HBX.out.len⟩
        have hn3 : n3 = 9 + x.n := by
          have := (Bs.of_own HO3.out).len
          have e := hokx.size
          unfold fB at e
          omega
        subst hn3
        have HBS := hid (Bs.of_own HO3.out)
        have hwz := HB3.out.size
        clear herr
        go_wp2_with (at_builtin; go_loud (refine wpList_app _ rfl _ _ _ rfl w.heap.size 5 i0 _ 1 1 Try.underlying25 hi.out hz.out hsz.out hby.out rfl (by omega) _ _ _ rfl HOW.out A3 (9 + x.n) c3' _ rfl HBS.out (bv_one _) (by omega) (by omega) hwz ?_; intro A5 c5 w5 hown5 hg5 hat5; have HO5 := hid hown5; have HB5 := hid (below_app HB3.out HOW.out hg5 (Nat.le_refl _) hwz); clear hown5 hg5 hat5))
        have hts : (enc (fs.take (k + 1))).length = (enc (fs.take k)).length + (9 + x.n) := enc_take_succ HX.out hokx
        have hte : enc (fs.take (k + 1)) = enc (fs.take k) ++ putBytes x.k x.f x.s x.l := by
          rw [List.take_add_one, HX.out, enc_append]
          simp [enc, fB]
        go_roundw
        case rel => exact ⟨k + 1, A5, c5, by omega, by go_num, by rw [hts], by rw [hts, hte, List.map_append]; exact HO5.out, fun y hy => by
          rw [List.take_add_one, HX.out] at hy
          rcases List.mem_append.1 hy with h1 | h1
          · exact HOK.out y h1
          · have e : y = x := by simpa using h1
            rw [e]; exact hokx, HB5.out⟩
        case measure => simp [intOf]; omega
      · have HE := hid herr
        have heb : (putErr x.k x.f x.s x.l == 0) = false := beq_eq_false_iff_ne.2 herr
        clear herr
        go_wp2_with fail
        refine (first_any w3).mono ?_
        rintro e w4 ⟨rfl, hb4⟩
        have HB4 := hid (HB3.out.trans (hb4.mono HB3.out.size))
        clear hb4
        go_wp2_with fail
        go_ret
        exact ⟨rfl, HB4.out⟩
    · have hkn : k = n := by omega
      subst hkn
      clear hlt hb
      rw [List.take_of_length_le (by omega)] at HO HOK hel2
      rw [List.take_of_length_le (by omega)]
      go_wp2_with fail
      go_loopw [8] (fun i w' => ∃ j : Nat, j ≤ k ∧ i = .int .i64 j ∧ (∀ q x, q < j → fs[q]? = some x → (x.n : Int) ≤ room) ∧ w' = wr) (fun i _ => k - (intOf i).toNat)
      case atStart => exact ⟨0, Nat.zero_le _, rfl, (fun q x hq => by omega), rfl⟩
      case round =>
        obtain ⟨j, hj, rfl, hle, rfl⟩ := hrel
        have HLE := hid hle
        clear hle
        have hcase : (∃ x, fs[j]? = some x ∧ j < k ∧ (x.n : Int) ≤ room) ∨ (j = k ∨ ∃ x, fs[j]? = some x ∧ j < k ∧ room < (x.n : Int)) := by
          by_cases hjk : j < k
          · obtain ⟨x, hx⟩ : ∃ x, fs[j]? = some x := ⟨fs[j]'(by omega), List.getElem?_eq_getElem _⟩
            by_cases hr : (x.n : Int) ≤ room
            · exact .inl ⟨x, hx, hjk, hr⟩
            · exact .inr (.inr ⟨x, hx, hjk, by omega⟩)
          · exact .inr (.inl (by omega))
        rcases hcase with ⟨x, hx, hjk, hr⟩ | hcase
        · obtain ⟨b, o, rfl, hc⟩ := (H.out.below HB.out).at_ (by omega)
          obtain ⟨c0, c1, c2, c3⟩ := hc j x hx
          have HX := hid hx
          clear hc hx c0 c1 c2
          go_wp2_with fail
          go_roundw
          case rel => exact ⟨j + 1, by omega, by go_num, fun q y hq hy => by
            rcases Nat.lt_or_ge q j with h1 | h1
            · exact HLE.out q y h1 hy
            · have e : q = j := by omega
              subst e
              rw [HX.out] at hy
              injection hy with hy
              subst hy
              exact hr, trivial⟩
          case measure => simp [intOf]; omega
        · have HLT := hid (show j = k ∨ ∃ x, fs[j]? = some x ∧ room < (x.n : Int) from hcase.imp id (fun ⟨x, hx, _, hr⟩ => ⟨x, hx, hr⟩))
          rcases hcase with hjk | ⟨x, hx, hjk, hr⟩
          focus
            have hkj : k ≤ j := by omega
            clear hjk
            go_wp2_with fail
          rotate_left
          focus
            obtain ⟨b, o, rfl, hc⟩ := (H.out.below HB.out).at_ (by omega)
            obtain ⟨c0, c1, c2, c3⟩ := hc j x hx
            clear hc hx c0 c1 c2
            go_wp2_with fail
          rotate_left
          all_goals
            have HM := hid (show Many fs room j from ⟨by omega, HLE.out, HLT.out.imp (fun h => by omega) id⟩)
            have hcap := own_le HO.out
            have hjk2 : j ≤ fs.length := by omega
            clear HLE HLT
            refine (parNew_any room wr).mono ?_
            rintro e w5 ⟨rfl, hp5, hb5⟩
            have HI5 := hid (show BK w w5 wr.heap.size room A7 (enc fs).length (enc fs) (At fs 0 0) from ⟨HB.out.trans (hb5.mono HB.out.size), HB.out.size, ⟨none, 0, by rw [At_zero]; exact hp5⟩, (Bs.of_own HO.out).below hb5, fun ad e => by
              subst e
              have := (HO.out.lt ad.block rfl).2
              simp
              omega⟩)
            clear hp5 hb5
            generalize wr.heap.size = ga at HI5 ⊢
            generalize hlb : (enc fs).length = lb at HI5 hcap hel2 ⊢
            have HLB := hid hlb
            clear hlb HO HB
            go_wp2_with fail
            go_loopw [13, 14, 15] (fun g la a wv => ∃ (got m p : Nat) (le : Int), got ≤ j ∧ g = .int .i64 got ∧ la = .int .i64 le ∧ a = .int .i64 p ∧ (enc (fs.take got)).length + m = p ∧ p ≤ lb ∧ nextE room (At fs got m) = le ∧ le ≠ 0 ∧ BK w wv ga room A7 lb (enc fs) (At fs got m)) (fun _ _ a _ => lb - (intOf a).toNat)
            case atStart => exact ⟨0, 0, 0, 4, Nat.zero_le _, rfl, rfl, rfl, rfl, Nat.zero_le _, by rw [At_zero]; rfl, by decide, HI5.out⟩
            case round =>
              obtain ⟨got, m, p, le, hgj, rfl, rfl, rfl, hp, hpl, hle, hle0, hinv⟩ := hrel
              have HI := hid hinv
              have HP := hid hp
              have HLE := hid hle
              clear hinv hp hle HI5
              by_cases hlt : p < lb
              · obtain ⟨q, hq, hq1, hq2⟩ : ∃ q : Nat, min size ((lb : Int) - p) = q ∧ 1 ≤ q ∧ p + q ≤ lb := ⟨(min size ((lb : Int) - p)).toNat, by omega, by omega, by omega⟩
                have hwq : IntKind.i64.wrap ((lb : Int) - p) = (lb : Int) - p := IntWalk.i64_in _ (by omega)
                have hml : m ≤ 4000900 := by have := HP.out; omega
                clear HLE hle0
                go_wp2_with fail
                refine (HI.out.feed (A1 := offA A7 p c7 1) (n1 := q) (c1 := c7 - p) (l1 := ((enc fs).drop p).take q) ((HI.out.bs.off (k := p) (cap := c7) (by omega) hcap).to (k := q) (by omega)) (by rw [At_len (by rw [HLB.out, HP.out]; exact hpl)]; omega)).mono ?_
                rintro e w6 ⟨rfl, hi6⟩
                rw [At_feed fs got m q rfl HP.out.symm] at hi6
                have HI6 := hid hi6
                clear hi6 HI
                have HPQ := hid (show (enc (fs.take got)).length + (m + q) = p + q by have := HP.out; omega)
                clear HP hq hwq
                go_wp2_with fail
                go_loopw [13, 14, 17] (fun g la kk wv => ∃ (got2 m2 i : Nat) (le : Int), i ≤ got2 ∧ got2 ≤ j ∧ g = .int .i64 got2 ∧ la = .int .i64 le ∧ kk = .int .i64 i ∧ (enc (fs.take got2)).length + m2 = p + q ∧ BK w wv ga room A7 lb (enc fs) (At fs got2 m2)) (fun _ _ kk _ => fs.length + 1 - (intOf kk).toNat)
                case atStart => exact ⟨got, m + q, 0, _, Nat.zero_le _, hgj, rfl, rfl, rfl, HPQ.out, HI6.out⟩
                case round =>
                  obtain ⟨got2, m2, i, le2, hig, hgj2, rfl, rfl, rfl, hp2, hinv⟩ := hrel
                  have HI7 := hid hinv
                  have HP2 := hid hp2
                  clear hinv hp2 HI6 HPQ
                  have hik : i ≤ k := by omega
                  go_wp2_with fail
                  refine (HI7.out.next (by rw [At_len (by rw [HLB.out, HP2.out]; exact hq2)]; have := HP2.out; omega)).mono ?_
                  intro e w8 hn8
                  unfold fv at hn8
                  rcases hn8 with ⟨h0, rfl, hi8⟩ | ⟨h0, A1, c1, mm, hmm, hm9, rfl, hb8, hi8⟩
                  · generalize hE : nextE room (At fs got2 m2) = er at h0 ⊢
                    have HE := hid hE
                    have HE0 := hid h0
                    have HI8 := hid hi8
                    have heb : (er == 0) = false := beq_eq_false_iff_ne.2 h0
                    clear hE h0 hi8
                    go_wp2_with fail
                    go_roundw
                    case rel => exact ⟨got2, m2, p + q, er, hgj2, rfl, rfl, by go_num, HP2.out, hq2, HE.out, HE0.out, HI8.out.below ((Below.refl _ _).alloc (Nat.le_refl _) _)⟩
                    case measure => simp [intOf]; omega
                  · obtain ⟨x, hx⟩ := bk_next HOK.out HM.out hgj2 (by rw [HLB.out, HP2.out]; exact hq2) h0
                    have hlt2 := hx.lt
                    obtain rfl : mm = x.n := by have := hx.len; omega
                    rw [hx.body] at hb8
                    rw [hx.rest] at hi8
                    rw [hx.kind, hx.flags, hx.str]
                    have HX := hid hx
                    have HI8 := hid hi8
                    have HB8 := hid hb8
                    clear hx hi8 hb8 h0 hmm hm9
                    go_wp2_with fail
                    obtain ⟨w9, hw9⟩ : ∃ w9, w8.alloc (.cells #[.int .i64 x.k, .int .i64 x.f, .int .i64 x.s, .slice A1 x.n c1] 30) = w9 := ⟨_, rfl⟩
                    have hK9 : Blk w9 w8.heap.size 30 #[.int .i64 x.k, .int .i64 x.f, .int .i64 x.s, .slice A1 x.n c1] := by rw [← hw9]; exact Blk.new w8 _ _
                    have hb9 : Below w8.heap.size w8 w9 := by rw [← hw9]; exact (Below.refl _ _).alloc (Nat.le_refl _) _
                    rw [hw9]
                    have HI9 := hid (HI8.out.below hb9)
                    have HB9 := hid (HB8.out.below hb9)
                    have HK9 := hid hK9
                    clear hw9 hb9 hK9 HI8 HB8
                    generalize w8.heap.size = hx9 at HK9 ⊢
                    obtain ⟨b', o', hA, hc⟩ := (H.out.below HI9.out.below_).at_ (by omega)
                    have hc9 := hc got2 x HX.out.at_
                    have HY := hid ((H.out.below HI9.out.below_).body x (List.mem_of_getElem? HX.out.at_))
                    have LX : Hid (∀ w', Below w9.heap.size w9 w' → (Instr.loadAt 30 (.pointer (some ⟨hx9, 0, none⟩))).run Try.prog w' = .ok (fv x.k x.f x.s A1 x.n c1) w') := hid fun w' hw => by
                      have hk2 := HK9.out.below hw HK9.out.lt
                      have z0 := hk2.cell 0
                      have z1 := hk2.cell 1
                      have z2 := hk2.cell 2
                      have z3 := hk2.cell 3
                      simp at z0 z1 z2 z3
                      clear hc9 hA hc
                      go_simp
                    have LY : Hid (∀ w', Below w9.heap.size w9 w' → (Instr.loadAt 30 (.pointer (some ⟨b', o' + got2 * 4, none⟩))).run Try.prog w' = .ok (fv x.k x.f x.s x.A x.n x.c) w') := hid fun w' hw =>
                      load_frame (below_keep hw _ _ hc9.1) (below_keep hw _ _ hc9.2.1) (below_keep hw _ _ hc9.2.2.1) (below_keep hw _ _ hc9.2.2.2)
                    clear hc9 hc
                    first | (subst hA) | (injection hA with hA; injection hA with hA1 hA2; subst hA1; subst hA2)
                    have HSB := hid (show Below w9.heap.size w9 w9.drew from (Below.refl _ _).drew)
                    have hgk : got2 < k := by omega
                    have hjg : decide (j ≤ got2) = false := by simp; omega
                    (refine wp_mixC (Below w9.heap.size w9) ?_ ?_ (HSB.out) ?_; (focus kernel_rfl); (focus kernel_rfl); intro KK hKK; go_wp2_with (first
                                                            | (first
                      | ((with_reducible refine mixS_load LX.out ?_ ?_ ?_); (focus rfl); (focus rfl))
                      | ((with_reducible refine mixS_load LY.out ?_ ?_ ?_); (focus rfl); (focus rfl))
                      | (go_at_call 13; go_must (refine (same_any x.k x.f x.s x.k x.f x.s A1 x.A x.n c1 x.n x.c x.l x.l _ (HB9.out.below HSB.out) (HY.out.below HSB.out)).mono ?_; rw [sameB_self]; rintro e w12 ⟨rfl, hb12⟩; have HSB := hid (HSB.out.trans (hb12.mono HSB.out.size)); clear hb12))
                      | ((with_reducible refine And.intro ?_ ?_); (focus (exact HSB.out))))
                                                            | (with_reducible refine mix_nil ?_)
                                                            | ((with_reducible refine mixS_on ?_ ?_); (focus rfl); intro K K' hK hK'; go_simp)
                                                            | ((with_reducible refine mixS_off ?_ ?_); (focus rfl); intro K hK; go_simp)
                                                            | ((with_reducible refine mixS_step ?_); intro K K' hK hK'; go_simp)))
                    go_roundw
                    case rel => exact ⟨got2 + 1, m2 - (9 + x.n), i + 1, 0, by omega, hlt2, by go_num, rfl, by go_num, by rw [HX.out.pos]; exact HP2.out, HI9.out.below HSB.out⟩
                    case measure => simp [intOf]; omega
              · obtain ⟨hgot, hend⟩ := bk_end HOK.out HM.out hgj (by rw [HP.out, HLB.out]; omega) (by rw [HLE.out]; exact hle0)
                rw [HLE.out] at hend
                rcases hend with ⟨he1, he2, he3⟩ | ⟨he1, he2, he3⟩
                · first | (exfalso; omega; done) | skip
                  all_goals
                    have HL0 := hid he2
                    subst he3
                    subst hgot
                    clear he1 he2 HLE hle0
                    have hgk : k ≤ got := by omega
                    have hgk2 : ((got : Int) == (k : Int)) = true := by simp; omega
                    go_wp2_with fail
                    refine (first_any wr).mono ?_
                    rintro e w10 ⟨rfl, hb10⟩
                    have HI10 := hid (HI.out.below hb10)
                    clear hb10
                    go_wp2_with fail
                    refine (HI10.out.left).mono ?_
                    rintro e w11 ⟨rfl, rfl⟩
                    rw [HL0.out]
                    go_wp2_with fail
                    go_ret
                    exact ⟨rfl, HI10.out.below_⟩
                · first | (exfalso; omega) | skip
                  all_goals
                    have HN := hid he3
                    subst he2
                    subst hgot
                    have hgk : got < k := by omega
                    have hml : m ≤ 4000900 := by have := HP.out; omega
                    have HAL := hid (At_len (fs := fs) (got := got) (m := m) (by rw [HLB.out, HP.out]; exact hpl))
                    clear he3 HLE hle0 he1
                    go_wp2_with fail
                    have h3 : Bs (wr.alloc (.cells #[.int .u8 1, .int .u8 2, .int .u8 3] 5)) (some ⟨wr.heap.size, 0, none⟩) 3 last3 := rd_new (size := 1) (cs := #[.int .u8 1, .int .u8 2, .int .u8 3]) rfl rfl
                    refine ((HI.out.below ((Below.refl _ _).alloc (Nat.le_refl _) _)).feed h3 (by rw [HAL.out]; omega)).mono ?_
                    rintro e w10 ⟨rfl, hi10⟩
                    have HI10 := hid hi10
                    clear hi10 h3
                    go_wp2_with fail
                    refine (HI10.out.next (by rw [List.length_append, HAL.out]; simp [last3]; omega)).mono ?_
                    rw [HN.out]
                    intro e w11 hn
                    rcases hn with ⟨_, rfl, hi11⟩ | ⟨h0, _⟩
                    rotate_left
                    · exact absurd h0 (by decide)
                    have HI11 := hid hi11
                    clear hi11
                    unfold fv
                    go_wp2_with fail
                    refine (first_any _).mono ?_
                    rintro e w12 ⟨rfl, hb12⟩
                    have HI12 := hid ((HI11.out.below ((Below.refl _ _).alloc (Nat.le_refl _) _)).below hb12)
                    clear hb12
                    go_wp2_with fail
                    go_ret
                    exact ⟨rfl, HI12.out.below_⟩
end Go.Proofs.Ytakkabilpjjmgaa
