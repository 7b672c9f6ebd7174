/- The law TunnelOrder walked. Condition: at most 2^47 calls. -/
import Derived.Test.YtefhadfcipifmaaTunOrd
import Derived.Deep.DeepCutAuto
import Derived.Deep.CutBlock
namespace Go.Proofs.Ytefhadfcipifmaa
open Go.RowKit
attribute [local go_sem] kd kdS if_min if_max if_minN if_maxN
attribute [local go_sem ↓] sliced_word
attribute [local go_sem] offA_zero

/-- What holds at the round's head and behind its switch: the nine variables, at most S bytes each way in. -/
def ORel (W : World) (tb : Nat) (bf : Int) (S : Nat) (in_ out_ came_ sent_ shuts_ over_ eof_ ended_ : Value) (wr : World) : Prop :=
  ∃ (am ac bm bc cm cc dm dc sh : Nat) (IA OA CA DA : Option Addr) (σ : TV) (K : List Nat) (al bl cl dl : List UInt8) (ov eo en : Bool),
    in_ = .slice IA am ac ∧ out_ = .slice OA bm bc ∧ came_ = .slice CA cm cc ∧ sent_ = .slice DA dm dc ∧ shuts_ = .int .i64 sh ∧ over_ = .bool ov ∧ eof_ = .bool eo ∧ ended_ = .bool en ∧
    OI W wr tb σ K (.slice IA am ac) am al (.slice OA bm bc) bm bl (.slice CA cm cc) cm cl (.slice DA dm dc) dm dl ∧ OL bf σ al bl cl dl sh ov eo en ∧ am ≤ S ∧ cm ≤ S

set_option maxHeartbeats 40000000 in
set_option maxRecDepth 100000 in
theorem order_walk (bf : Int) (A : Option Addr) (n c : Nat) (fs : List Tc) (w : World) (hs : Tcs w A n fs) (hn : n ≤ 140737488355328) :
    Calls Try.prog 6 #[.int .i64 bf, .slice A n c] w fun e w' => e = .returned (.bool true) ∧ Below w.heap.size w w' := by
  have HS := hid hs
  clear hs
  obtain ⟨i0, hi0, hz0, hz1, hz2⟩ := info_parts u8_info
  have hi := hid hi0
  have hz := hid hz0
  have hsz := hid hz1
  have hby := hid hz2
  clear hi0 hz0 hz1 hz2
  by_cases hbad : fewB fs = false ∨ bf < 1 ∨ 65535 < bf
  · rcases hfb : fewB fs with _ | _
    · have HF := hid (few_any A n c fs)
      rw [hfb] at HF
      clear hbad hfb
      go_enter Try.func6, Try.ntmps6
      go_wp2_with fail
      refine (first_any w).mono ?_
      rintro e w1 ⟨rfl, hb1⟩
      have HB1 := hid hb1
      clear hb1
      go_wp2_with fail
      refine (HF.out w1 (HS.out.below (HB1.out.mono (Nat.le_refl _))) hn).mono ?_
      rintro e w3 ⟨rfl, hb3⟩
      have HB3 := hid (HB1.out.trans (hb3.mono HB1.out.size))
      clear hb3 HB1
      go_wp2_with (go_at_call 7; go_must (refine (first_any _).mono ?_; rintro e w6 ⟨rfl, hb6⟩; have HB6 := hid hb6; clear hb6))
      all_goals
        go_ret
        exact ⟨rfl, HB3.out.trans (HB6.out.mono HB3.out.size)⟩
    · have HF := hid (few_any A n c fs)
      rw [hfb] at HF
      have hb : bf < 1 ∨ 65535 < bf := by
        rcases hbad with h | h
        · rw [hfb] at h; cases h
        · exact h
      clear hbad hfb
      go_enter Try.func6, Try.ntmps6
      go_wp2_with fail
      refine (first_any w).mono ?_
      rintro e w1 ⟨rfl, hb1⟩
      have HB1 := hid hb1
      clear hb1
      go_wp2_with fail
      refine (HF.out w1 (HS.out.below (HB1.out.mono (Nat.le_refl _))) hn).mono ?_
      rintro e w3 ⟨rfl, hb3⟩
      have HB3 := hid (HB1.out.trans (hb3.mono HB1.out.size))
      clear hb3 HB1
      by_cases hlo : bf < 1
      · clear hb
        go_wp2_with (go_at_call 7; go_must (refine (first_any _).mono ?_; rintro e w6 ⟨rfl, hb6⟩; have HB6 := hid hb6; clear hb6))
        all_goals
          go_ret
          exact ⟨rfl, HB3.out.trans (HB6.out.mono HB3.out.size)⟩
      · have hhi : 65535 < bf := by omega
        clear hb
        go_wp2_with (go_at_call 7; go_must (refine (first_any _).mono ?_; rintro e w6 ⟨rfl, hb6⟩; have HB6 := hid hb6; clear hb6))
        all_goals
          go_ret
          exact ⟨rfl, HB3.out.trans (HB6.out.mono HB3.out.size)⟩
  · have hf : fewB fs = true := by
      rcases h : fewB fs with _ | _
      · exact absurd (.inl h) hbad
      · rfl
    have hlo : 1 ≤ bf := by omega
    have hhi : bf ≤ 65535 := by omega
    have hle := fewB_le hf
    have HF := hid (few_any A n c fs)
    rw [hf] at HF
    clear hf hbad
    go_enter Try.func6, Try.ntmps6
    go_wp2_with fail
    refine (first_any w).mono ?_
    rintro e w1 ⟨rfl, hb1⟩
    have HB1 := hid hb1
    clear hb1
    go_wp2_with fail
    refine (HF.out w1 (HS.out.below (HB1.out.mono (Nat.le_refl _))) hn).mono ?_
    rintro e w3 ⟨rfl, hb3⟩
    have HB3 := hid (HB1.out.trans (hb3.mono HB1.out.size))
    clear hb3 HB1
    go_wp2_with fail
    go_must (refine (ti_new 1 1 1 0 _ _ _ 80 bf HB3.out (by omega)).mono ?_)
    rintro e w2 ⟨tb, rfl, ht⟩
    have HT2 := hid ht
    clear ht HB3
    go_wp2_with fail
    go_must (refine (ti_dial _ 0 HT2.out rfl).mono ?_)
    rintro e w3 ⟨rfl, ht, _⟩
    have HT3 := hid ht
    clear ht HT2
    go_wp2_with fail
    go_must (refine (ti_opened 0 HT3.out rfl).mono ?_)
    rintro e w4 ⟨rfl, ht, _⟩
    have HI4 : Hid (ORel w tb bf 0 (.slice none 0 0) (.slice none 0 0) (.slice none 0 0) (.slice none 0 0) (.int .i64 0) (.bool false) (.bool false) (.bool false) w4) :=
      hid ⟨0, 0, 0, 0, 0, 0, 0, 0, 0, none, none, none, none, _, _, [], [], [], [], false, false, false, rfl, rfl, rfl, rfl, rfl, rfl, rfl, rfl, ⟨ht, Rw.nil _ _ _, Rw.nil _ _ _, Rw.nil _ _ _, Rw.nil _ _ _, apart_nil _, apart_nil _, apart_nil _, apart_nil _, apart_nil _, apart_nil _⟩, ⟨rfl, rfl, rfl, rfl, rfl, rfl, rfl, Nat.le_refl _, Nat.le_refl _, ⟨[], rfl, rfl⟩, ⟨[], rfl, rfl⟩⟩, Nat.le_refl _, Nat.le_refl _⟩
    clear ht HT3 HF
    have hlen := HS.out.len
    have hle1 := hle.1
    have hle2 := hid hle.2
    clear hle
    go_wp2_with fail
    go_loopw [6, 7, 8, 9, 10, 11, 12, 13, 14] (fun in_ out_ came_ sent_ sh_ ov_ eo_ en_ i wr => ∃ k : Nat, k ≤ n ∧ i = .int .i64 k ∧ ORel w tb bf (fewSum fs k) in_ out_ came_ sent_ sh_ ov_ eo_ en_ wr) (fun _ _ _ _ _ _ _ _ i _ => n - (intOf i).toNat)
    case atStart => exact ⟨0, Nat.zero_le _, rfl, HI4.out⟩
    case round =>
      obtain ⟨k, hk, rfl, am, ac, bm, bc, cm, cc, dm, dc, sh, IA, OA, CA, DA, σ, K, al, bl, cl, dl, ov, eo, en, rfl, rfl, rfl, rfl, rfl, rfl, rfl, rfl, hinv, hL, ham, hcm⟩ := hrel
      have HI := hid hinv
      have HL := hid hL
      clear hinv hL HI4
      by_cases hkn : k < n
      · obtain ⟨b, o, rfl, hc⟩ := (HS.out.below (HI.out.low.mono (Nat.le_refl _))).at_ (by omega)
        obtain ⟨x, hx⟩ : ∃ x, fs[k]? = some x := ⟨fs[k]'(by omega), List.getElem?_eq_getElem _⟩
        obtain ⟨h0, h1, h2, h3, h4, h5⟩ := hc k x hx
        have HSUM := hid (fewSum_succ hx)
        have hsum2 := fewSum_mono fs (k := k + 1) (by omega)
        obtain ⟨hbx, hbc⟩ := HS.out.body x (List.mem_of_getElem? hx)
        have hnx : x.n ≤ 200000 := by have := HSUM.out; have := hle2.out; omega
        have HBX := hid hbx
        have HK2 := hid hsum2
        clear hc hx hbx hsum2
        go_upto_region 16 with fail
        obtain ⟨wa, hwa⟩ : ∃ wa, wr.alloc (.cells x.cells.toArray 50) = wa := ⟨_, rfl⟩
        have hCP : CP wa (wr.heap.size :: K) wr.heap.size x := by rw [← hwa]; exact ⟨Blk.new wr _ _, List.mem_cons_self⟩
        have hIA := HI.out.add (w' := wa) (by rw [← hwa]; exact (Below.refl _ _).alloc (Nat.le_refl _) _) (Nat.le_refl _) (by rw [← hwa]; simp)
        have hwe : wr.alloc (.cells #[.int .i64 x.k, .int .i64 x.f, .int .i64 x.t, .slice x.A x.n x.c, .string x.ip, .bool x.en] 50) = wa := hwa
        rw [hwe]
        clear hwe hwa HI h0 h1 h2 h3 h4 h5
        generalize wr.heap.size = ob at hCP hIA ⊢
        generalize ob :: K = K at hCP hIA
        have hlist := hle2.out
        have hk1' := HK2.out
        have hsm := HSUM.out
        have HI := hid hIA
        have HC := hid hCP
        obtain ⟨q0, q1, q3, q5⟩ := hCP.c
        clear hCP hIA hlist hk1' hsm
        have hamx : am ≤ 200000 := by have := HSUM.out; have := HK2.out; have := hle2.out; omega
        have hcmx : cm ≤ 200000 := by have := HSUM.out; have := HK2.out; have := hle2.out; omega
        go_upto_block 2 with fail
        go_cut [6, 7, 8, 9, 10, 11, 12, 13, 16, 17, 18, 19, 20, 21, 22, 23] from 47 to 298 (fun in_ out_ came_ sent_ sh_ ov_ eo_ en_ _ _ _ _ _ _ _ _ wx => ORel w tb bf (fewSum fs (k + 1)) in_ out_ came_ sent_ sh_ ov_ eo_ en_ wx)
        case first =>
          by_cases hk0 : x.k = 0
          · as_aux_lemma =>
              rw [hk0] at q0
              go_wp2_with fail
              go_must (refine (o_acc HI.out HC.out HL.out (HL.out.few (by have := HI.out.a.len; omega) (by have := HI.out.c.len; omega) (by omega) hhi) HBX.out hbc (by omega)).mono ?_)
              rintro e w5 ⟨q, σ5, rfl, hq, hqz, h5, hc5, hL5⟩
              obtain ⟨q0, q1, q3, q5⟩ := hc5.c
              have HOI := hid h5
              have HO := hid h5.a.own
              have hw5 := h5.low.size
              have HX := hid (show Rd w5 1 x.A q ((x.l.take q).map bv) from ((HBX.out.below (h5.low.mono (Nat.le_refl _))).to hq))
              have HC := hid hc5
              have HL5 := hid hL5
              clear h5 hc5 hL5 HI HL
              have hqc : q ≤ x.c := by omega
              rcases ov with _ | _ <;> rcases en with _ | _ <;> rcases hen : x.en with _ | _

              all_goals
                rw [hen] at q5
                first
                  | (obtain rfl : q = 0 := hqz (.inl rfl))
                  | (obtain rfl : q = 0 := hqz (.inr rfl))
                  | skip
                clear hqz
                have HEN := hid hen
                clear hen
                go_wp2_with (at_builtin; go_loud (refine wpList_app _ rfl _ _ _ rfl w.heap.size 5 i0 _ 1 1 Try.underlying22 hi.out hz.out hsz.out hby.out rfl (by omega) _ am _ rfl HO.out x.A _ x.c _ rfl HX.out (bv_one _) (by omega) (by omega) hw5 ?_; intro A7 c7 w7 ho7 hg7 hc7; obtain ⟨K7, hK7, h7, hcp7⟩ := HOI.out.app ho7 hg7 hc7; have hc7' := hcp7 HC.out; obtain ⟨q0, q1, q3, q5⟩ := hc7'.c; rw [HEN.out] at q5; have H7 := hid h7; have HC7 := hid hc7'; clear ho7 hg7 hc7 hK7 h7 hcp7 hc7'))
                go_meet
                have hl7 := HL5.out
                rw [HEN.out] at hl7
                exact ⟨_, _, _, _, _, _, _, _, _, _, _, _, _, _, _, _, _, _, _, _, _, _, rfl, rfl, rfl, rfl, rfl, rfl, rfl, rfl, H7.out, hl7, by (have := HSUM.out; omega), by (have := HSUM.out; omega)⟩
          · skip
            by_cases hk3 : x.k = 3
            · as_aux_lemma =>
                rw [hk3] at q0
                go_wp2_with fail
                go_must (refine (o_write x.f HI.out HC.out HL.out (HL.out.few (by have := HI.out.a.len; omega) (by have := HI.out.c.len; omega) (by omega) hhi)).mono ?_)
                have hfit := HI.out.ti.fits
                rintro e w5 ⟨A5, k5, c5, b5, σ5, xs, rfl, hx5, hk5, hz5, hs5, h5, hc5, hL5⟩
                obtain ⟨q0, q1, q3, q5⟩ := hc5.c
                have hb5 : bm ≤ am := by have := HL.out.lens.1; have := HI.out.a.len; have := HI.out.b.len; omega
                have HOI := hid h5.swap
                have HO := hid h5.b.own
                have hw5 := h5.low.size
                have HX := hid (show Rd w5 1 A5 k5 (xs.map bv) from hx5)
                have HC := hid hc5
                have HL5 := hid hL5
                clear h5 hc5 hL5 HI HL hx5
                rcases b5 with _ | _
                · clear hs5
                  rcases ov with _ | _
                  · clear hz5
                    go_wp2_with (at_builtin; go_loud (refine wpList_app _ rfl _ _ _ rfl w.heap.size 5 i0 _ 1 1 Try.underlying22 hi.out hz.out hsz.out hby.out rfl (by omega) _ bm _ rfl HO.out A5 _ c5 _ rfl HX.out (bv_one _) (by omega) (by omega) hw5 ?_; intro A7 c7 w7 ho7 hg7 hc7; obtain ⟨K7, hK7, h7, hcp7⟩ := HOI.out.app ho7 hg7 hc7; have hc7' := hcp7 HC.out; obtain ⟨q0, q1, q3, q5⟩ := hc7'.c; have H7 := hid h7; have HC7 := hid hc7'; clear ho7 hg7 hc7 hK7 h7 hcp7 hc7'))
                    go_meet
                    exact ⟨_, _, _, _, _, _, _, _, _, _, _, _, _, _, _, _, _, _, _, _, _, _, rfl, rfl, rfl, rfl, rfl, rfl, rfl, rfl, H7.out.swap, HL5.out, by (have := HSUM.out; omega), by (have := HSUM.out; omega)⟩
                  · obtain ⟨rfl, _⟩ := hz5 rfl
                    go_wp2_with (at_builtin; go_loud (refine wpList_app _ rfl _ _ _ rfl w.heap.size 5 i0 _ 1 1 Try.underlying22 hi.out hz.out hsz.out hby.out rfl (by omega) _ bm _ rfl HO.out A5 _ c5 _ rfl HX.out (bv_one _) (by omega) (by omega) hw5 ?_; intro A7 c7 w7 ho7 hg7 hc7; obtain ⟨K7, hK7, h7, hcp7⟩ := HOI.out.app ho7 hg7 hc7; have hc7' := hcp7 HC.out; obtain ⟨q0, q1, q3, q5⟩ := hc7'.c; have H7 := hid h7; have HC7 := hid hc7'; clear ho7 hg7 hc7 hK7 h7 hcp7 hc7'))
                    go_meet
                    exact ⟨_, _, _, _, _, _, _, _, _, _, _, _, _, _, _, _, _, _, _, _, _, _, rfl, rfl, rfl, rfl, rfl, rfl, rfl, rfl, H7.out.swap, HL5.out, by (have := HSUM.out; omega), by (have := HSUM.out; omega)⟩
                · obtain ⟨rfl, hl5, rfl⟩ := hs5 rfl
                  obtain rfl : ov = false := by
                    rcases ov with _ | _
                    · rfl
                    · exact absurd (hz5 rfl).2 (by decide)
                  subst hl5
                  clear hz5 hs5
                  go_wp2_with (at_builtin; go_loud (refine wpList_app _ rfl _ _ _ rfl w.heap.size 5 i0 _ 1 1 Try.underlying22 hi.out hz.out hsz.out hby.out rfl (by omega) _ bm _ rfl HO.out A5 _ c5 _ rfl HX.out (bv_one _) (by omega) (by omega) hw5 ?_; intro A7 c7 w7 ho7 hg7 hc7; obtain ⟨K7, hK7, h7, hcp7⟩ := HOI.out.app ho7 hg7 hc7; have hc7' := hcp7 HC.out; obtain ⟨q0, q1, q3, q5⟩ := hc7'.c; have H7 := hid h7; have HC7 := hid hc7'; clear ho7 hg7 hc7 hK7 h7 hcp7 hc7'))
                  go_meet
                  exact ⟨_, _, _, _, _, _, _, _, _, _, _, _, _, _, _, _, _, _, _, _, _, _, rfl, rfl, rfl, rfl, rfl, rfl, rfl, rfl, H7.out.swap, HL5.out, by (have := HSUM.out; omega), by (have := HSUM.out; omega)⟩
            · skip
              by_cases hk4 : x.k = 4
              · as_aux_lemma =>
                  rw [hk4] at q0
                  go_wp2_with fail
                  go_must (refine (o_del HI.out HC.out HL.out (HL.out.few (by have := HI.out.a.len; omega) (by have := HI.out.c.len; omega) (by omega) hhi) HBX.out hbc (by omega)).mono ?_)
                  rintro e w5 ⟨q, σ5, rfl, hq, hqz, h5, hc5, hL5⟩
                  obtain ⟨q0, q1, q3, q5⟩ := hc5.c
                  have HOI := hid h5.swap3
                  have HO := hid h5.c.own
                  have hw5 := h5.low.size
                  have HX := hid (show Rd w5 1 x.A q ((x.l.take q).map bv) from ((HBX.out.below (h5.low.mono (Nat.le_refl _))).to hq))
                  have HC := hid hc5
                  have HL5 := hid hL5
                  clear h5 hc5 hL5 HI HL
                  have hqc : q ≤ x.c := by omega
                  rcases ov with _ | _ <;> rcases eo with _ | _
                  all_goals
                    first
                      | (obtain rfl : q = 0 := hqz (.inl rfl))
                      | (obtain rfl : q = 0 := hqz (.inr rfl))
                      | skip
                    clear hqz
                    go_wp2_with (at_builtin; go_loud (refine wpList_app _ rfl _ _ _ rfl w.heap.size 5 i0 _ 1 1 Try.underlying22 hi.out hz.out hsz.out hby.out rfl (by omega) _ cm _ rfl HO.out x.A _ x.c _ rfl HX.out (bv_one _) (by omega) (by omega) hw5 ?_; intro A7 c7 w7 ho7 hg7 hc7; obtain ⟨K7, hK7, h7, hcp7⟩ := HOI.out.app ho7 hg7 hc7; have hc7' := hcp7 HC.out; obtain ⟨q0, q1, q3, q5⟩ := hc7'.c; have H7 := hid h7; have HC7 := hid hc7'; clear ho7 hg7 hc7 hK7 h7 hcp7 hc7'))
                    go_meet
                    exact ⟨_, _, _, _, _, _, _, _, _, _, _, _, _, _, _, _, _, _, _, _, _, _, rfl, rfl, rfl, rfl, rfl, rfl, rfl, rfl, H7.out.swap3, HL5.out, by (have := HSUM.out; omega), by (have := HSUM.out; omega)⟩
              · skip
                by_cases hk5 : x.k = 5
                · as_aux_lemma =>
                    rw [hk5] at q0
                    go_wp2_with fail
                    go_must (refine (o_eof HI.out HC.out HL.out).mono ?_)
                    rintro e w5 ⟨b5, σ5, rfl, hb5, h5, hc5, hL5⟩
                    have H5 := hid h5
                    have HL5 := hid hL5
                    clear h5 hc5 hL5 HI HL HC q0 q1 q3 q5
                    rcases b5 with _ | _
                    · clear hb5
                      rcases eo with _ | _
                      all_goals
                        go_wp2_with fail
                        go_meet
                        exact ⟨_, _, _, _, _, _, _, _, _, _, _, _, _, _, _, _, _, _, _, _, _, _, rfl, rfl, rfl, rfl, rfl, rfl, rfl, rfl, H5.out, HL5.out, by (have := HSUM.out; omega), by (have := HSUM.out; omega)⟩
                    · obtain ⟨rfl, rfl⟩ := hb5 rfl
                      clear hb5
                      go_wp2_with fail
                      go_meet
                      exact ⟨_, _, _, _, _, _, _, _, _, _, _, _, _, _, _, _, _, _, _, _, _, _, rfl, rfl, rfl, rfl, rfl, rfl, rfl, rfl, H5.out, HL5.out, by (have := HSUM.out; omega), by (have := HSUM.out; omega)⟩
                · skip
                  by_cases hk6 : x.k = 6
                  · as_aux_lemma =>
                      rw [hk6] at q0
                      go_wp2_with fail
                      go_must (refine (o_ready x.f HI.out HC.out HL.out (HL.out.few (by have := HI.out.a.len; omega) (by have := HI.out.c.len; omega) (by omega) hhi)).mono ?_)
                      rintro e w5 ⟨A5, k5, c5, d5, s5, K5, rfl, hk5, hz5, hd5, hr5, h5, hc5⟩
                      have H5 := hid h5
                      have HC5 := hid hc5
                      have HR5 := hid hr5
                      clear h5 hc5 hr5 HI HC q0 q1 q3 q5
                      rcases s5 with _ | _
                      · rcases d5 with _ | _
                        · clear hd5 hz5
                          rcases ov with _ | _
                          all_goals
                            go_wp2_with fail
                            go_meet
                            exact ⟨_, _, _, _, _, _, _, _, _, _, _, _, _, _, _, _, _, _, _, _, _, _, rfl, rfl, rfl, rfl, rfl, rfl, rfl, rfl, H5.out, HL.out, by (have := HSUM.out; omega), by (have := HSUM.out; omega)⟩
                        · obtain ⟨rfl, _⟩ := hd5 rfl
                          clear hd5
                          obtain rfl : ov = false := by
                            rcases ov with _ | _
                            · rfl
                            · exact absurd (hz5 rfl).1 (by decide)
                          clear hz5
                          go_wp2_with fail
                          go_meet
                          exact ⟨_, _, _, _, _, _, _, _, _, _, _, _, _, _, _, _, _, _, _, _, _, _, rfl, rfl, rfl, rfl, rfl, rfl, rfl, rfl, H5.out, HL.out, by (have := HSUM.out; omega), by (have := HSUM.out; omega)⟩
                      · obtain rfl : ov = false := by
                          rcases ov with _ | _
                          · rfl
                          · exact absurd (hz5 rfl).2 (by decide)
                        clear hz5
                        have hdm : dm + k5 ≤ cm := by
                          have h1 := (HL.out.lens.2.2.2.1 rfl).2
                          have h2 := HL.out.lens.2.1
                          have := H5.out.c.len
                          have := H5.out.d.len
                          omega
                        rcases d5 with _ | _
                        · clear hd5
                          go_wp2_with fail
                          go_must (refine (o_sent k5 false H5.out HC5.out HL.out (HL.out.few (by have := H5.out.a.len; omega) (by have := H5.out.c.len; omega) (by omega) hhi) hk5).mono ?_)
                          rintro e w6 ⟨σ6, rfl, h6, hc6, hk6, hL6⟩
                          have HOI := hid h6.swap4
                          have HO := hid h6.d.own
                          have hw5 := h6.low.size
                          have HX := hid (show Rd w6 1 A5 k5 ((σ.dn.take k5).map bv) from Bs.of_own (HR5.out.kept hk6).own)
                          have HC := hid hc6
                          have HL6 := hid hL6
                          clear h6 hc6 hk6 hL6 H5 HC5 HR5 HL
                          go_wp2_with (at_builtin; go_loud (refine wpList_app _ rfl _ _ _ rfl w.heap.size 5 i0 _ 1 1 Try.underlying22 hi.out hz.out hsz.out hby.out rfl (by omega) _ dm _ rfl HO.out A5 _ c5 _ rfl HX.out (bv_one _) (by omega) (by omega) hw5 ?_; intro A7 c7 w7 ho7 hg7 hc7; obtain ⟨K7, hK7, h7, hcp7⟩ := HOI.out.app ho7 hg7 hc7; have hc7' := hcp7 HC.out; obtain ⟨q0, q1, q3, q5⟩ := hc7'.c; have H7 := hid h7; have HC7 := hid hc7'; clear ho7 hg7 hc7 hK7 h7 hcp7 hc7'))
                          go_meet
                          exact ⟨_, _, _, _, _, _, _, _, _, _, _, _, _, _, _, _, _, _, _, _, _, _, rfl, rfl, rfl, rfl, rfl, rfl, rfl, rfl, H7.out.swap4, HL6.out, by (have := HSUM.out; omega), by (have := HSUM.out; omega)⟩
                        · obtain ⟨rfl, hcm⟩ := hd5 rfl
                          clear hd5
                          go_wp2_with fail
                          go_must (refine (o_sent k5 true H5.out HC5.out HL.out (HL.out.few (by have := H5.out.a.len; omega) (by have := H5.out.c.len; omega) (by omega) hhi) hk5).mono ?_)
                          rintro e w6 ⟨σ6, rfl, h6, hc6, hk6, hL6⟩
                          have HOI := hid h6.swap4
                          have HO := hid h6.d.own
                          have hw5 := h6.low.size
                          have HX := hid (show Rd w6 1 A5 k5 ((σ.dn.take k5).map bv) from Bs.of_own (HR5.out.kept hk6).own)
                          have HC := hid hc6
                          have HL6 := hid hL6
                          subst hcm
                          clear h6 hc6 hk6 hL6 H5 HC5 HR5 HL
                          go_wp2_with (at_builtin; go_loud (refine wpList_app _ rfl _ _ _ rfl w.heap.size 5 i0 _ 1 1 Try.underlying22 hi.out hz.out hsz.out hby.out rfl (by omega) _ dm _ rfl HO.out A5 _ c5 _ rfl HX.out (bv_one _) (by omega) (by omega) hw5 ?_; intro A7 c7 w7 ho7 hg7 hc7; obtain ⟨K7, hK7, h7, hcp7⟩ := HOI.out.app ho7 hg7 hc7; have hc7' := hcp7 HC.out; obtain ⟨q0, q1, q3, q5⟩ := hc7'.c; have H7 := hid h7; have HC7 := hid hc7'; clear ho7 hg7 hc7 hK7 h7 hcp7 hc7'))
                          go_meet
                          exact ⟨_, _, _, _, _, _, _, _, _, _, _, _, _, _, _, _, _, _, _, _, _, _, rfl, rfl, rfl, rfl, rfl, rfl, rfl, rfl, H7.out.swap4, HL6.out, by (have := HSUM.out; omega), by (have := HSUM.out; omega)⟩
                  · skip
                    by_cases hk8 : x.k = 8
                    · as_aux_lemma =>
                        rw [hk8] at q0
                        go_wp2_with fail
                        go_must (refine (o_ready x.f HI.out HC.out HL.out (HL.out.few (by have := HI.out.a.len; omega) (by have := HI.out.c.len; omega) (by omega) hhi)).mono ?_)
                        rintro e w5 ⟨A5, k5, c5, d5, s5, K5, rfl, hk5, hz5, hd5, hr5, h5, hc5⟩
                        have H5 := hid h5
                        have HC5 := hid hc5
                        have HR5 := hid hr5
                        clear h5 hc5 hr5 HI HC q0 q1 q3 q5
                        rcases s5 with _ | _
                        · rcases d5 with _ | _
                          · clear hd5 hz5
                            rcases ov with _ | _
                            all_goals
                              go_wp2_with fail
                              go_meet
                              exact ⟨_, _, _, _, _, _, _, _, _, _, _, _, _, _, _, _, _, _, _, _, _, _, rfl, rfl, rfl, rfl, rfl, rfl, rfl, rfl, H5.out, HL.out, by (have := HSUM.out; omega), by (have := HSUM.out; omega)⟩
                          · obtain ⟨rfl, _⟩ := hd5 rfl
                            clear hd5
                            obtain rfl : ov = false := by
                              rcases ov with _ | _
                              · rfl
                              · exact absurd (hz5 rfl).1 (by decide)
                            clear hz5
                            go_wp2_with fail
                            go_meet
                            exact ⟨_, _, _, _, _, _, _, _, _, _, _, _, _, _, _, _, _, _, _, _, _, _, rfl, rfl, rfl, rfl, rfl, rfl, rfl, rfl, H5.out, HL.out, by (have := HSUM.out; omega), by (have := HSUM.out; omega)⟩
                        · obtain rfl : ov = false := by
                            rcases ov with _ | _
                            · rfl
                            · exact absurd (hz5 rfl).2 (by decide)
                          clear hz5
                          have hdm : dm + k5 ≤ cm := by
                            have h1 := (HL.out.lens.2.2.2.1 rfl).2
                            have h2 := HL.out.lens.2.1
                            have := H5.out.c.len
                            have := H5.out.d.len
                            omega
                          rcases d5 with _ | _
                          · clear hd5
                            go_wp2_with fail
                            go_must (refine (o_sent k5 false H5.out HC5.out HL.out (HL.out.few (by have := H5.out.a.len; omega) (by have := H5.out.c.len; omega) (by omega) hhi) hk5).mono ?_)
                            rintro e w6 ⟨σ6, rfl, h6, hc6, hk6, hL6⟩
                            have HOI := hid h6.swap4
                            have HO := hid h6.d.own
                            have hw5 := h6.low.size
                            have HX := hid (show Rd w6 1 A5 k5 ((σ.dn.take k5).map bv) from Bs.of_own (HR5.out.kept hk6).own)
                            have HC := hid hc6
                            have HL6 := hid hL6
                            clear h6 hc6 hk6 hL6 H5 HC5 HR5 HL
                            go_wp2_with (at_builtin; go_loud (refine wpList_app _ rfl _ _ _ rfl w.heap.size 5 i0 _ 1 1 Try.underlying22 hi.out hz.out hsz.out hby.out rfl (by omega) _ dm _ rfl HO.out A5 _ c5 _ rfl HX.out (bv_one _) (by omega) (by omega) hw5 ?_; intro A7 c7 w7 ho7 hg7 hc7; obtain ⟨K7, hK7, h7, hcp7⟩ := HOI.out.app ho7 hg7 hc7; have hc7' := hcp7 HC.out; obtain ⟨q0, q1, q3, q5⟩ := hc7'.c; have H7 := hid h7; have HC7 := hid hc7'; clear ho7 hg7 hc7 hK7 h7 hcp7 hc7'))
                            go_meet
                            exact ⟨_, _, _, _, _, _, _, _, _, _, _, _, _, _, _, _, _, _, _, _, _, _, rfl, rfl, rfl, rfl, rfl, rfl, rfl, rfl, H7.out.swap4, HL6.out, by (have := HSUM.out; omega), by (have := HSUM.out; omega)⟩
                          · obtain ⟨rfl, hcm⟩ := hd5 rfl
                            clear hd5
                            go_wp2_with fail
                            go_must (refine (o_sent k5 true H5.out HC5.out HL.out (HL.out.few (by have := H5.out.a.len; omega) (by have := H5.out.c.len; omega) (by omega) hhi) hk5).mono ?_)
                            rintro e w6 ⟨σ6, rfl, h6, hc6, hk6, hL6⟩
                            have HOI := hid h6.swap4
                            have HO := hid h6.d.own
                            have hw5 := h6.low.size
                            have HX := hid (show Rd w6 1 A5 k5 ((σ.dn.take k5).map bv) from Bs.of_own (HR5.out.kept hk6).own)
                            have HC := hid hc6
                            have HL6 := hid hL6
                            subst hcm
                            clear h6 hc6 hk6 hL6 H5 HC5 HR5 HL
                            go_wp2_with (at_builtin; go_loud (refine wpList_app _ rfl _ _ _ rfl w.heap.size 5 i0 _ 1 1 Try.underlying22 hi.out hz.out hsz.out hby.out rfl (by omega) _ dm _ rfl HO.out A5 _ c5 _ rfl HX.out (bv_one _) (by omega) (by omega) hw5 ?_; intro A7 c7 w7 ho7 hg7 hc7; obtain ⟨K7, hK7, h7, hcp7⟩ := HOI.out.app ho7 hg7 hc7; have hc7' := hcp7 HC.out; obtain ⟨q0, q1, q3, q5⟩ := hc7'.c; have H7 := hid h7; have HC7 := hid hc7'; clear ho7 hg7 hc7 hK7 h7 hcp7 hc7'))
                            go_meet
                            exact ⟨_, _, _, _, _, _, _, _, _, _, _, _, _, _, _, _, _, _, _, _, _, _, rfl, rfl, rfl, rfl, rfl, rfl, rfl, rfl, H7.out.swap4, HL6.out, by (have := HSUM.out; omega), by (have := HSUM.out; omega)⟩
                    · skip
                      by_cases hk7 : x.k = 7
                      · as_aux_lemma =>
                          rw [hk7] at q0
                          go_wp2_with fail
                          go_must (refine (o_close HI.out HL.out (HL.out.few (by have := HI.out.a.len; omega) (by have := HI.out.c.len; omega) (by omega) hhi)).mono ?_)
                          rintro e w5 ⟨σ5, rfl, h5, hL5⟩
                          have H5 := hid h5
                          have HL5 := hid hL5
                          clear h5 hL5 HI HL HC q0 q1 q3 q5
                          go_wp2_with fail
                          go_meet
                          exact ⟨_, _, _, _, _, _, _, _, _, _, _, _, _, _, _, _, _, _, _, _, _, _, rfl, rfl, rfl, rfl, rfl, rfl, rfl, rfl, H5.out, HL5.out, by (have := HSUM.out; omega), by (have := HSUM.out; omega)⟩
                      · skip
                        go_wp2_with fail
                        go_meet
                        exact ⟨_, _, _, _, _, _, _, _, _, _, _, _, _, _, _, _, _, _, _, _, _, _, rfl, rfl, rfl, rfl, rfl, rfl, rfl, rfl, HI.out, HL.out, by (have := HSUM.out; omega), by (have := HSUM.out; omega)⟩
        case rest =>
          as_aux_lemma =>
            obtain ⟨am, ac, bm, bc, cm, cc, dm, dc, sh, IA, OA, CA, DA, σ2, K2, al, bl, cl, dl, ov, eo, en, rfl, rfl, rfl, rfl, rfl, rfl, rfl, rfl, hinv, hL, ham, hcm⟩ := hcut
            have hk1' : fewSum fs (k + 1) ≤ 200000 := by have := HK2.out; have := hle2.out; omega
            have hbg := hL.begins
            have hls := hL.lens
            have l1 := hinv.a.len
            have l2 := hinv.b.len
            have l3 := hinv.c.len
            have l4 := hinv.d.len
            have hfit := hinv.ti.fits
            rw [l1, l2, l3, l4] at hls
            rw [l1, l2, l3, l4] at hbg
            have HBG := hid hbg
            obtain ⟨hl1, hl2, hsh, hl3, hl4⟩ := hls
            have hku : σ2.ku = bm := by rw [hL.ku, l2]
            have hkd : σ2.kd = dm := by rw [hL.kd, l4]
            have HKU := hid hku
            have HKD := hid hkd
            have hsh1 : ¬ (1 : Int) < sh := by omega
            have hfew := hid (hL.few (by omega) (by omega) (by omega) hhi)
            have HI2 := hid hinv
            have HL2 := hid hL
            have hamx : am ≤ 200000 := by omega
            have hcmx : cm ≤ 200000 := by omega
            clear hinv hL hbg hku hkd hk1'
            go_wp2_with fail
            have hbeg := begins_any IA OA am ac bm bc al bl wc (Bs.of_own HI2.out.a.own) (Bs.of_own HI2.out.b.own) (own_le HI2.out.a.own)
            rw [HBG.out.1] at hbeg
            refine hbeg.mono ?_
            rintro e w5 ⟨rfl, hb5⟩
            have H1 := hid (HI2.out.below hb5)
            clear hbeg hb5 HI2
            go_wp2_with fail
            have hbeg := begins_any CA DA cm cc dm dc cl dl w5 (Bs.of_own H1.out.c.own) (Bs.of_own H1.out.d.own) (own_le H1.out.c.own)
            rw [HBG.out.2] at hbeg
            refine hbeg.mono ?_
            rintro e w6 ⟨rfl, hb6⟩
            have H2 := hid (H1.out.below hb6)
            clear hbeg hb6 H1
            go_wp2_with fail
            go_must (refine (ti_count H2.out.ti).mono ?_)
            rintro e w6 ⟨x1, y1, rfl, vx, vy, rfl⟩
            rw [HKU.out] at vx
            rw [HKD.out] at vy
            have hv := isB_yes vx vy (show bm ≤ _ by omega) (show dm ≤ _ by omega)
            have hu1 : (upN x1 y1 : Int) = bm := by rw [hv.2.1]
            clear vx vy hv
            go_wp2_with fail
            refine (up_any x1 y1 _).mono ?_
            rw [hu1]
            clear hu1
            rintro e w7 ⟨rfl, rfl⟩
            go_wp2_with fail
            go_must (refine (ti_count H2.out.ti).mono ?_)
            rintro e w6 ⟨x1, y1, rfl, vx, vy, rfl⟩
            rw [HKU.out] at vx
            rw [HKD.out] at vy
            have hv := isB_yes vx vy (show bm ≤ _ by omega) (show dm ≤ _ by omega)
            have hu1 : (downN x1 y1 : Int) = dm := by rw [hv.2.2]
            clear vx vy hv
            go_wp2_with fail
            refine (down_any x1 y1 _).mono ?_
            rw [hu1]
            clear hu1
            rintro e w7 ⟨rfl, rfl⟩
            rcases ov with _ | _
            · obtain ⟨hu, hd⟩ := hl3 rfl
              have hw1 : (σ2.up.length : Int) = (am : Int) - bm := by omega
              have hw2 : (σ2.up.length : Int) + (σ2.dn.length : Int) = (am : Int) - bm + cm - dm := by omega
              have hw3 : ¬ (65535 : Int) < (am : Int) - bm := by omega
              have hq1 := IntWalk.i64_in ((am : Int) - bm) (by omega)
              have hq2 := IntWalk.i64_in ((am : Int) - bm + cm) (by omega)
              have hq3 := IntWalk.i64_in ((am : Int) - bm + cm - dm) (by omega)
              have HW1 := hid hw1
              have HW2 := hid hw2
              clear hl3 hl4 hu hd hw1 hw2
              go_wp2_with fail
              go_must (refine (ti_waits H2.out.ti).mono ?_)
              rw [HW1.out]
              rintro e w7 ⟨rfl, rfl⟩
              go_wp2_with fail
              go_must (refine (ti_held H2.out.ti hfew.out).mono ?_)
              rw [HW2.out]
              rintro e w7 ⟨rfl, hb7⟩
              have H2 := hid (H2.out.below hb7)
              clear hb7
              go_wp2_with fail
              go_must (refine (ti_waits H2.out.ti).mono ?_)
              rw [HW1.out]
              rintro e w7 ⟨rfl, rfl⟩
              go_wp2_with fail
              go_roundw
              case rel => exact ⟨k + 1, by omega, by go_num, _, _, _, _, _, _, _, _, _, _, _, _, _, _, _, _, _, _, _, _, _, _, rfl, rfl, rfl, rfl, rfl, rfl, rfl, rfl, H2.out, HL2.out, ham, hcm⟩
              case measure => simp [intOf]; omega
            · obtain ⟨hu, hd⟩ := hl4 rfl
              have hw1 : (σ2.up.length : Int) = 0 := by omega
              have hw2 : (σ2.up.length : Int) + (σ2.dn.length : Int) = 0 := by omega
              have HW1 := hid hw1
              have HW2 := hid hw2
              clear hl3 hl4 hu hd hw1 hw2
              go_wp2_with fail
              go_must (refine (ti_held H2.out.ti hfew.out).mono ?_)
              rw [HW2.out]
              rintro e w7 ⟨rfl, hb7⟩
              have H2 := hid (H2.out.below hb7)
              clear hb7
              go_wp2_with fail
              go_must (refine (ti_waits H2.out.ti).mono ?_)
              rw [HW1.out]
              rintro e w7 ⟨rfl, rfl⟩
              go_wp2_with fail
              go_roundw
              case rel => exact ⟨k + 1, by omega, by go_num, _, _, _, _, _, _, _, _, _, _, _, _, _, _, _, _, _, _, _, _, _, _, rfl, rfl, rfl, rfl, rfl, rfl, rfl, rfl, H2.out, HL2.out, ham, hcm⟩
              case measure => simp [intOf]; omega
      · go_wp2_with fail
        refine (first_any wr).mono ?_
        rintro e w5 ⟨rfl, hb5⟩
        go_wp2_with fail
        go_ret
        exact ⟨rfl, HI.out.low.trans (hb5.mono HI.out.low.size)⟩
end Go.Proofs.Ytefhadfcipifmaa
