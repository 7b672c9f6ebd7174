/- The reference's padded: Data and Headers. Conditions: at most 2^45 bytes. -/
import Derived.Test.YtdiahjeplaegnaaPartBody
import Derived.Test.YtdiahjeplaegnaaPartRead
namespace Go.Proofs.Ytdiahjeplaegnaa
open Go.RowKit
attribute [local go_sem] kd kdS
attribute [local go_sem ↓] sliced_word
attribute [local go_sem] offA_zero


theorem eq1 (f : Int) : (bits .and .i64 f 1 == 1) = fl f 1 := by
  unfold fl
  rcases and_1 f with h | h <;> rw [h] <;> rfl
theorem eq4 (f : Int) : (bits .and .i64 f 4 == 4) = fl f 4 := by
  unfold fl
  rcases and_4 f with h | h <;> rw [h] <;> rfl
set_option maxHeartbeats 400000 in
set_option maxRecDepth 100000 in
theorem rfault_any (k : Int) (c : Bool) (w : World) : Calls Try.prog 26 #[.int .i64 k, .bool c] w fun e w' => e = .returned (ft true c k) ∧ Below w.heap.size w w' := by
  go_enter Try.func26, Try.ntmps26
  go_wp2_with fail
  exact bodyPost_ret (v := ft true c k) (by simp [ft, results, Try.results26, go_sem]) rfl ⟨rfl, (Below.refl _ _).alloc (Nat.le_refl _) _⟩

set_option maxHeartbeats 4000000 in
set_option maxRecDepth 100000 in
theorem padded_0 (f s : Int) (A : Option Addr) (n c : Nat) (l : List UInt8) (w : World) (h : Bs w A n l) (hnc : n ≤ c) (hn : n ≤ 70368744177664) :
    Calls Try.prog 25 #[.agg #[.int .i64 0, .int .i64 f, .int .i64 s, .slice A n c]] w (PartPost (bodyP 0 f s l) w) := by
  have hlen := h.len
  have H := hid h
  clear h
  go_enter Try.func25, Try.ntmps25
  go_upto_region 1 with fail
  have hpw := ProF.new w 0 f s A n c
  have hWs : (((w.alloc (.cells #[.int .i64 0, .int .i64 f, .int .i64 s, .slice A n c] 34)).alloc (.cells #[.slice none 0 0, .int .i64 0, .int .i64 0, .int .i64 0, .int .i64 0, .slice none 0 0, .bool false, .bool false, .bool false] 28)).alloc (.cells #[.bool false, .bool false, .int .i64 0] 30)).heap.size = w.heap.size + 3 := by simp
  generalize (((w.alloc (.cells #[.int .i64 0, .int .i64 f, .int .i64 s, .slice A n c] 34)).alloc (.cells #[.slice none 0 0, .int .i64 0, .int .i64 0, .int .i64 0, .int .i64 0, .slice none 0 0, .bool false, .bool false, .bool false] 28)).alloc (.cells #[.bool false, .bool false, .int .i64 0] 30)) = W at hpw hWs ⊢
  have HPV := hid hpw
  have HWS := hid hWs
  obtain ⟨d0, d1, d2, d3⟩ := hpw.cells
  clear hpw hWs
  by_cases hs : s = 0
  · subst hs
    have HU : Hid (bodyP 0 f 0 l = connP 1) := hid (by unfold bodyP; rw [if_pos rfl])
    clear hlen
    go_wp2_with (go_at_call 26; go_must (refine (rfault_any 1 true _).mono ?_; unfold ft; rintro e w1 ⟨rfl, hb1⟩; have hP := HPV.out.pro.on hb1; have HP := hid hP; clear hb1; obtain ⟨k0, k1, k2, k3, k4, k5, k6, k7, k8, m0, m1, m2, f0, f1, f2, f3, f4, f5, f6, f7, f8, g0, g1, g2⟩ := hP.cells; clear hP))
    refine part_end Try.results25 rfl rfl HP.out.p rfl HP.out.q rfl (by omega) ?_
    intro w' ht
    rw [HU.out]
    exact PartPost.plain rfl rfl (HP.out.fin ht)
  have hs' : (s == 0) = false := beq_eq_false_iff_ne.2 hs
  have HB5 := hid (H.out.below HPV.out.pro.below_)
  rcases and_8 f with h8 | h8
  · have HS : Hid (bodyP 0 f s l = stage2 0 f 0 0 l) := hid (by unfold bodyP; rw [if_neg hs, if_pos h8])
    have HS : Hid (bodyP 0 f s l = stage3 0 f 0 0 (l)) := hid (by rw [HS.out]; unfold stage2; rw [if_pos (.inl rfl)])
    have HU : Hid (bodyP 0 f s l = { d := l, pad := 0, e := fl f 1, w := false }) := hid (by rw [HS.out]; unfold stage3; rw [if_neg (by rw [HB5.out.len]; omega), HB5.out.len]; simp; exact List.take_of_length_le (by have := HB5.out.len; omega))
    have HBT : Hid (Bs W A n (l)) := hid (HB5.out)
    have hpl4 := IntWalk.i64_in ((n : Nat) : Int) (by omega)
    have hW1 := eq1 f
    have hW4 := eq4 f
    clear hlen
    go_wp2_with fail
    have HSB := hid (show Turned [w.heap.size + 1, w.heap.size + 2] W W.drew from (Turned.refl _ _).drew)
    have LF : Hid (∀ w', Turned [w.heap.size + 1, w.heap.size + 2] W w' → (Instr.loadAt 3 (.pointer (some ⟨w.heap.size, 1, none⟩))).run Try.prog w' = .ok (.int .i64 f) w') := hid fun w' ht => by
      have z := ht.cell d1 (by simp)
      clear d0 d1 d2 d3
      go_simp
    have LK : Hid (∀ w', Turned [w.heap.size + 1, w.heap.size + 2] W w' → (Instr.loadAt 3 (.pointer (some ⟨w.heap.size, 0, none⟩))).run Try.prog w' = .ok (.int .i64 0) w') := hid fun w' ht => by
      have z := ht.cell d0 (by simp)
      clear d0 d1 d2 d3
      go_simp
    (refine wp_mixZ (Turned [w.heap.size + 1, w.heap.size + 2] W) rfl ?_ ?_ (HSB.out) ?_; (focus kernel_rfl); (focus kernel_rfl); intro KK hKK; simp only [List.dropLast_cons_cons, List.dropLast_singleton]; go_wp2_with (first
                                                                  | (first
      | ((with_reducible refine mixS_load LF.out ?_ ?_ ?_); (focus rfl); (focus rfl))
      | ((with_reducible refine mixS_load LK.out ?_ ?_ ?_); (focus rfl); (focus rfl))
      | (go_at_call 28; go_must (refine (copy_any A n c (l) _ (HBT.out.below (Below.refl _ _).drew) (by omega)).mono ?_; rintro e w1 ⟨A1, c1, rfl, ho1, hb1⟩; have HO := hid ho1; have HSB0 := hid (HPV.out.pro.fin HSB.out).size; have HSB := hid (HSB.out.then hb1); have hP := (HPV.out.pro.on (Below.refl _ _).drew).on hb1; have HP := hid hP; clear hb1 ho1; obtain ⟨k0, k1, k2, k3, k4, k5, k6, k7, k8, m0, m1, m2, f0, f1, f2, f3, f4, f5, f6, f7, f8, g0, g1, g2⟩ := hP.cells; clear hP))
      | ((with_reducible refine And.intro ?_ ?_); (focus (first | (with_reducible exact HSB.out) | exact turned9 HSB.out (by simp))))
      | ((with_reducible refine mix_nil ?_); refine hKK _ _ (turned9 HSB.out (by simp)) ?_; (with_reducible refine last_on ?_ ?_); (focus rfl); intro K hK; go_simp))
                                                                  | ((with_reducible refine mix_nil ?_); refine hKK _ _ (HSB.out) ?_; (with_reducible refine last_on ?_ ?_); (focus rfl); intro K hK; go_simp)
                                                                  | ((with_reducible refine mixS_on ?_ ?_); (focus rfl); intro K K' hK hK'; go_simp; (first | ((with_reducible refine hK _ _ ?_); clear hK hK' K K') | ((with_reducible refine hK' _ _ ?_); clear hK hK' K K') | skip))
                                                                  | ((with_reducible refine mixS_off ?_ ?_); (focus rfl); intro K hK; go_simp; (first | ((with_reducible refine hK _ _ ?_); clear hK K) | skip))
                                                                  | ((with_reducible refine mixS_step ?_); intro K K' hK hK'; go_simp; (first | ((with_reducible refine hK _ _ ?_); clear hK hK' K K') | ((with_reducible refine hK' _ _ ?_); clear hK hK' K K') | skip))))
    refine part_end Try.results25 rfl rfl HP.out.p rfl HP.out.q rfl (by omega) ?_
    intro w' ht
    rw [HU.out]
    exact ⟨A1, n, c1, none, 0, 0, rfl, (Bs.of_own HO.out).turned ht (own_off HO.out (by have := HPV.out.pro.lt; simp; omega)), Sts.nil _ _, Above.own HO.out (HSB0.out), Above.none _, HP.out.fin ht⟩
  · by_cases hn0 : n = 0
    · subst hn0
      have HU : Hid (bodyP 0 f s l = connP 6) := hid (by unfold bodyP; rw [if_neg hs, if_neg (by rw [h8]; decide), if_pos (by omega)])
      clear hlen
      go_wp2_with (go_at_call 26; go_must (refine (rfault_any 6 true _).mono ?_; unfold ft; rintro e w1 ⟨rfl, hb1⟩; have hP := HPV.out.pro.on hb1; have HP := hid hP; clear hb1; obtain ⟨k0, k1, k2, k3, k4, k5, k6, k7, k8, m0, m1, m2, f0, f1, f2, f3, f4, f5, f6, f7, f8, g0, g1, g2⟩ := hP.cells; clear hP))
      refine part_end Try.results25 rfl rfl HP.out.p rfl HP.out.q rfl (by omega) ?_
      intro w' ht
      rw [HU.out]
      exact PartPost.plain rfl rfl (HP.out.fin ht)
    · have HS : Hid (bodyP 0 f s l = stage2 0 f (nb l 0) (nb l 0 + 1) (l.drop 1)) := hid (by unfold bodyP; rw [if_neg hs, if_neg (by rw [h8]; decide), if_neg (by omega)])
      obtain ⟨b, o, x0, rfl, hx0, hc0⟩ := HB5.out.at_ (i := 0) (by omega)
      clear hx0 hc0
      have c0 := nb_cell HB5.out (i := 0) (by omega)
      rw [Nat.add_zero] at c0
      have hnb := nb_le l 0
      have hi0 : (0 : Int) < n := by omega
      have hn0' : ¬ (n : Int) = 0 := by omega
      have h1n : (1 : Int) ≤ n := by omega
      have h1c : 1 ≤ c := by omega
      have HB5 := hid (HB5.out.off (k := 1) (cap := c) (by omega) (by omega))
      have hwn := IntWalk.i64_in (nb l 0) (by omega)
      have hwn1 := IntWalk.i64_in (nb l 0 + 1) (by omega)
      obtain ⟨pn, hpn⟩ : ∃ pn : Nat, nb l 0 = (pn : Int) := ⟨(nb l 0).toNat, by omega⟩
      rw [hpn] at c0 hwn hwn1 HS hnb
      clear hpn
      have HS : Hid (bodyP 0 f s l = stage3 0 f (pn : Int) ((pn : Int) + 1) (l.drop 1)) := hid (by rw [HS.out]; unfold stage2; rw [if_pos (.inl rfl)])
      by_cases hpl : (n - 1) < pn
      · have HU : Hid (bodyP 0 f s l = connP 1) := hid (by rw [HS.out]; unfold stage3; rw [if_pos (by rw [HB5.out.len]; omega)])
        have hpl2 : (((n - 1) : Nat) : Int) < (pn : Int) := by omega
        clear hlen
        go_wp2_with (go_at_call 26; go_must (refine (rfault_any 1 true _).mono ?_; unfold ft; rintro e w1 ⟨rfl, hb1⟩; have hP := HPV.out.pro.on hb1; have HP := hid hP; clear hb1; obtain ⟨k0, k1, k2, k3, k4, k5, k6, k7, k8, m0, m1, m2, f0, f1, f2, f3, f4, f5, f6, f7, f8, g0, g1, g2⟩ := hP.cells; clear hP))
        refine part_end Try.results25 rfl rfl HP.out.p rfl HP.out.q rfl (by omega) ?_
        intro w' ht
        rw [HU.out]
        exact PartPost.plain rfl rfl (HP.out.fin ht)
      have hpl2 : (((n - 1) : Nat) : Int) - pn = (((n - 1) - pn : Nat) : Int) := by omega
      have hpl3 : ¬ (((n - 1) : Nat) : Int) < pn := by omega
      have HU : Hid (bodyP 0 f s l = { d := (l.drop 1).take ((n - 1) - pn), pad := ((pn : Int) + 1), e := fl f 1, w := false }) := hid (by rw [HS.out]; unfold stage3; rw [if_neg (by rw [HB5.out.len]; omega), HB5.out.len]; simp)
      have HBT : Hid (Bs W (offA (some ⟨b, o, none⟩) 1 c 1) ((n - 1) - pn) ((l.drop 1).take ((n - 1) - pn))) := hid (HB5.out.to (Nat.sub_le _ _))
      have hpl4 := IntWalk.i64_in ((((n - 1) - pn) : Nat) : Int) (by omega)
      have hW1 := eq1 f
      have hW4 := eq4 f
      clear hlen hpl
      go_wp2_with fail
      have HSB := hid (show Turned [w.heap.size + 1, w.heap.size + 2] W W.drew from (Turned.refl _ _).drew)
      have LF : Hid (∀ w', Turned [w.heap.size + 1, w.heap.size + 2] W w' → (Instr.loadAt 3 (.pointer (some ⟨w.heap.size, 1, none⟩))).run Try.prog w' = .ok (.int .i64 f) w') := hid fun w' ht => by
        have z := ht.cell d1 (by simp)
        clear d0 d1 d2 d3
        go_simp
      have LK : Hid (∀ w', Turned [w.heap.size + 1, w.heap.size + 2] W w' → (Instr.loadAt 3 (.pointer (some ⟨w.heap.size, 0, none⟩))).run Try.prog w' = .ok (.int .i64 0) w') := hid fun w' ht => by
        have z := ht.cell d0 (by simp)
        clear d0 d1 d2 d3
        go_simp
      (refine wp_mixZ (Turned [w.heap.size + 1, w.heap.size + 2] W) rfl ?_ ?_ (HSB.out) ?_; (focus kernel_rfl); (focus kernel_rfl); intro KK hKK; simp only [List.dropLast_cons_cons, List.dropLast_singleton]; go_wp2_with (first
                                                                    | (first
        | ((with_reducible refine mixS_load LF.out ?_ ?_ ?_); (focus rfl); (focus rfl))
        | ((with_reducible refine mixS_load LK.out ?_ ?_ ?_); (focus rfl); (focus rfl))
        | (go_at_call 28; go_must (refine (copy_any (offA (some ⟨b, o, none⟩) 1 c 1) ((n - 1) - pn) (c - 1) ((l.drop 1).take ((n - 1) - pn)) _ (HBT.out.below (Below.refl _ _).drew) (by omega)).mono ?_; rintro e w1 ⟨A1, c1, rfl, ho1, hb1⟩; have HO := hid ho1; have HSB0 := hid (HPV.out.pro.fin HSB.out).size; have HSB := hid (HSB.out.then hb1); have hP := (HPV.out.pro.on (Below.refl _ _).drew).on hb1; have HP := hid hP; clear hb1 ho1; obtain ⟨k0, k1, k2, k3, k4, k5, k6, k7, k8, m0, m1, m2, f0, f1, f2, f3, f4, f5, f6, f7, f8, g0, g1, g2⟩ := hP.cells; clear hP))
        | ((with_reducible refine And.intro ?_ ?_); (focus (first | (with_reducible exact HSB.out) | exact turned9 HSB.out (by simp))))
        | ((with_reducible refine mix_nil ?_); refine hKK _ _ (turned9 HSB.out (by simp)) ?_; (with_reducible refine last_on ?_ ?_); (focus rfl); intro K hK; go_simp))
                                                                    | ((with_reducible refine mix_nil ?_); refine hKK _ _ (HSB.out) ?_; (with_reducible refine last_on ?_ ?_); (focus rfl); intro K hK; go_simp)
                                                                    | ((with_reducible refine mixS_on ?_ ?_); (focus rfl); intro K K' hK hK'; go_simp; (first | ((with_reducible refine hK _ _ ?_); clear hK hK' K K') | ((with_reducible refine hK' _ _ ?_); clear hK hK' K K') | skip))
                                                                    | ((with_reducible refine mixS_off ?_ ?_); (focus rfl); intro K hK; go_simp; (first | ((with_reducible refine hK _ _ ?_); clear hK K) | skip))
                                                                    | ((with_reducible refine mixS_step ?_); intro K K' hK hK'; go_simp; (first | ((with_reducible refine hK _ _ ?_); clear hK hK' K K') | ((with_reducible refine hK' _ _ ?_); clear hK hK' K K') | skip))))
      refine part_end Try.results25 rfl rfl HP.out.p rfl HP.out.q rfl (by omega) ?_
      intro w' ht
      rw [HU.out]
      exact ⟨A1, ((n - 1) - pn), c1, none, 0, 0, rfl, (Bs.of_own HO.out).turned ht (own_off HO.out (by have := HPV.out.pro.lt; simp; omega)), Sts.nil _ _, Above.own HO.out (HSB0.out), Above.none _, HP.out.fin ht⟩

set_option maxHeartbeats 4000000 in
set_option maxRecDepth 100000 in
theorem padded_1 (f s : Int) (A : Option Addr) (n c : Nat) (l : List UInt8) (w : World) (h : Bs w A n l) (hnc : n ≤ c) (hn : n ≤ 70368744177664) :
    Calls Try.prog 25 #[.agg #[.int .i64 1, .int .i64 f, .int .i64 s, .slice A n c]] w (PartPost (bodyP 1 f s l) w) := by
  have hlen := h.len
  have H := hid h
  clear h
  go_enter Try.func25, Try.ntmps25
  go_upto_region 1 with fail
  have hpw := ProF.new w 1 f s A n c
  have hWs : (((w.alloc (.cells #[.int .i64 1, .int .i64 f, .int .i64 s, .slice A n c] 34)).alloc (.cells #[.slice none 0 0, .int .i64 0, .int .i64 0, .int .i64 0, .int .i64 0, .slice none 0 0, .bool false, .bool false, .bool false] 28)).alloc (.cells #[.bool false, .bool false, .int .i64 0] 30)).heap.size = w.heap.size + 3 := by simp
  generalize (((w.alloc (.cells #[.int .i64 1, .int .i64 f, .int .i64 s, .slice A n c] 34)).alloc (.cells #[.slice none 0 0, .int .i64 0, .int .i64 0, .int .i64 0, .int .i64 0, .slice none 0 0, .bool false, .bool false, .bool false] 28)).alloc (.cells #[.bool false, .bool false, .int .i64 0] 30)) = W at hpw hWs ⊢
  have HPV := hid hpw
  have HWS := hid hWs
  obtain ⟨d0, d1, d2, d3⟩ := hpw.cells
  clear hpw hWs
  by_cases hs : s = 0
  · subst hs
    have HU : Hid (bodyP 1 f 0 l = connP 1) := hid (by unfold bodyP; rw [if_pos rfl])
    clear hlen
    go_wp2_with (go_at_call 26; go_must (refine (rfault_any 1 true _).mono ?_; unfold ft; rintro e w1 ⟨rfl, hb1⟩; have hP := HPV.out.pro.on hb1; have HP := hid hP; clear hb1; obtain ⟨k0, k1, k2, k3, k4, k5, k6, k7, k8, m0, m1, m2, f0, f1, f2, f3, f4, f5, f6, f7, f8, g0, g1, g2⟩ := hP.cells; clear hP))
    refine part_end Try.results25 rfl rfl HP.out.p rfl HP.out.q rfl (by omega) ?_
    intro w' ht
    rw [HU.out]
    exact PartPost.plain rfl rfl (HP.out.fin ht)
  have hs' : (s == 0) = false := beq_eq_false_iff_ne.2 hs
  have HB5 := hid (H.out.below HPV.out.pro.below_)
  rcases and_8 f with h8 | h8
  · have HS : Hid (bodyP 1 f s l = stage2 1 f 0 0 l) := hid (by unfold bodyP; rw [if_neg hs, if_pos h8])
    rcases and_32 f with h32 | h32
    · have HS : Hid (bodyP 1 f s l = stage3 1 f 0 0 (l)) := hid (by rw [HS.out]; unfold stage2; rw [if_pos (.inr h32)])
      have HU : Hid (bodyP 1 f s l = { d := l, pad := 0, e := fl f 1, w := fl f 4 }) := hid (by rw [HS.out]; unfold stage3; rw [if_neg (by rw [HB5.out.len]; omega), HB5.out.len]; simp; exact List.take_of_length_le (by have := HB5.out.len; omega))
      have HBT : Hid (Bs W A n (l)) := hid (HB5.out)
      have hpl4 := IntWalk.i64_in ((n : Nat) : Int) (by omega)
      have hW1 := eq1 f
      have hW4 := eq4 f
      clear hlen
      go_wp2_with fail
      have HSB := hid (show Turned [w.heap.size + 1, w.heap.size + 2] W W.drew from (Turned.refl _ _).drew)
      have LF : Hid (∀ w', Turned [w.heap.size + 1, w.heap.size + 2] W w' → (Instr.loadAt 3 (.pointer (some ⟨w.heap.size, 1, none⟩))).run Try.prog w' = .ok (.int .i64 f) w') := hid fun w' ht => by
        have z := ht.cell d1 (by simp)
        clear d0 d1 d2 d3
        go_simp
      have LK : Hid (∀ w', Turned [w.heap.size + 1, w.heap.size + 2] W w' → (Instr.loadAt 3 (.pointer (some ⟨w.heap.size, 0, none⟩))).run Try.prog w' = .ok (.int .i64 1) w') := hid fun w' ht => by
        have z := ht.cell d0 (by simp)
        clear d0 d1 d2 d3
        go_simp
      (refine wp_mixZ (Turned [w.heap.size + 1, w.heap.size + 2] W) rfl ?_ ?_ (HSB.out) ?_; (focus kernel_rfl); (focus kernel_rfl); intro KK hKK; simp only [List.dropLast_cons_cons, List.dropLast_singleton]; go_wp2_with (first
                                                                    | (first
        | ((with_reducible refine mixS_load LF.out ?_ ?_ ?_); (focus rfl); (focus rfl))
        | ((with_reducible refine mixS_load LK.out ?_ ?_ ?_); (focus rfl); (focus rfl))
        | (go_at_call 28; go_must (refine (copy_any A n c (l) _ (HBT.out.below (Below.refl _ _).drew) (by omega)).mono ?_; rintro e w1 ⟨A1, c1, rfl, ho1, hb1⟩; have HO := hid ho1; have HSB0 := hid (HPV.out.pro.fin HSB.out).size; have HSB := hid (HSB.out.then hb1); have hP := (HPV.out.pro.on (Below.refl _ _).drew).on hb1; have HP := hid hP; clear hb1 ho1; obtain ⟨k0, k1, k2, k3, k4, k5, k6, k7, k8, m0, m1, m2, f0, f1, f2, f3, f4, f5, f6, f7, f8, g0, g1, g2⟩ := hP.cells; clear hP))
        | ((with_reducible refine And.intro ?_ ?_); (focus (first | (with_reducible exact HSB.out) | exact turned9 HSB.out (by simp))))
        | ((with_reducible refine mix_nil ?_); refine hKK _ _ (turned9 HSB.out (by simp)) ?_; (with_reducible refine last_on ?_ ?_); (focus rfl); intro K hK; go_simp))
                                                                    | ((with_reducible refine mix_nil ?_); refine hKK _ _ (HSB.out) ?_; (with_reducible refine last_on ?_ ?_); (focus rfl); intro K hK; go_simp)
                                                                    | ((with_reducible refine mixS_on ?_ ?_); (focus rfl); intro K K' hK hK'; go_simp; (first | ((with_reducible refine hK _ _ ?_); clear hK hK' K K') | ((with_reducible refine hK' _ _ ?_); clear hK hK' K K') | skip))
                                                                    | ((with_reducible refine mixS_off ?_ ?_); (focus rfl); intro K hK; go_simp; (first | ((with_reducible refine hK _ _ ?_); clear hK K) | skip))
                                                                    | ((with_reducible refine mixS_step ?_); intro K K' hK hK'; go_simp; (first | ((with_reducible refine hK _ _ ?_); clear hK hK' K K') | ((with_reducible refine hK' _ _ ?_); clear hK hK' K K') | skip))))
      refine part_end Try.results25 rfl rfl HP.out.p rfl HP.out.q rfl (by omega) ?_
      intro w' ht
      rw [HU.out]
      exact ⟨A1, n, c1, none, 0, 0, rfl, (Bs.of_own HO.out).turned ht (own_off HO.out (by have := HPV.out.pro.lt; simp; omega)), Sts.nil _ _, Above.own HO.out (HSB0.out), Above.none _, HP.out.fin ht⟩
    · by_cases hlt5 : n < 5
      · have HU : Hid (bodyP 1 f s l = connP 6) := hid (by rw [HS.out]; unfold stage2; rw [if_neg (by rw [h32]; decide), if_pos (by rw [HB5.out.len]; exact hlt5)])
        have hlt6 : ((n : Nat) : Int) < 5 := by omega
        clear hlen
        go_wp2_with (go_at_call 26; go_must (refine (rfault_any 6 true _).mono ?_; unfold ft; rintro e w1 ⟨rfl, hb1⟩; have hP := HPV.out.pro.on hb1; have HP := hid hP; clear hb1; obtain ⟨k0, k1, k2, k3, k4, k5, k6, k7, k8, m0, m1, m2, f0, f1, f2, f3, f4, f5, f6, f7, f8, g0, g1, g2⟩ := hP.cells; clear hP))
        refine part_end Try.results25 rfl rfl HP.out.p rfl HP.out.q rfl (by omega) ?_
        intro w' ht
        rw [HU.out]
        exact PartPost.plain rfl rfl (HP.out.fin ht)
      · have HS : Hid (bodyP 1 f s l = stage3 1 f 0 0 ((l).drop 5)) := hid (by rw [HS.out]; unfold stage2; rw [if_neg (by rw [h32]; decide), if_neg (by rw [HB5.out.len]; exact hlt5)])
        have h5c : 5 ≤ c := by omega
        have h5d : (5 : Int) ≤ ((n : Nat) : Int) := by omega
        have HB5 := hid (HB5.out.off (k := 5) (cap := c) (by omega) (by omega))
        have HU : Hid (bodyP 1 f s l = { d := (l).drop 5, pad := 0, e := fl f 1, w := fl f 4 }) := hid (by rw [HS.out]; unfold stage3; rw [if_neg (by rw [HB5.out.len]; omega), HB5.out.len]; simp; exact List.take_of_length_le (by have := HB5.out.len; omega))
        have HBT : Hid (Bs W (offA A 5 (c) 1) (n - 5) ((l).drop 5)) := hid (HB5.out)
        have hpl4 := IntWalk.i64_in (((n - 5) : Nat) : Int) (by omega)
        have hW1 := eq1 f
        have hW4 := eq4 f
        clear hlen
        go_wp2_with fail
        have HSB := hid (show Turned [w.heap.size + 1, w.heap.size + 2] W W.drew from (Turned.refl _ _).drew)
        have LF : Hid (∀ w', Turned [w.heap.size + 1, w.heap.size + 2] W w' → (Instr.loadAt 3 (.pointer (some ⟨w.heap.size, 1, none⟩))).run Try.prog w' = .ok (.int .i64 f) w') := hid fun w' ht => by
          have z := ht.cell d1 (by simp)
          clear d0 d1 d2 d3
          go_simp
        have LK : Hid (∀ w', Turned [w.heap.size + 1, w.heap.size + 2] W w' → (Instr.loadAt 3 (.pointer (some ⟨w.heap.size, 0, none⟩))).run Try.prog w' = .ok (.int .i64 1) w') := hid fun w' ht => by
          have z := ht.cell d0 (by simp)
          clear d0 d1 d2 d3
          go_simp
        (refine wp_mixZ (Turned [w.heap.size + 1, w.heap.size + 2] W) rfl ?_ ?_ (HSB.out) ?_; (focus kernel_rfl); (focus kernel_rfl); intro KK hKK; simp only [List.dropLast_cons_cons, List.dropLast_singleton]; go_wp2_with (first
                                                                      | (first
          | ((with_reducible refine mixS_load LF.out ?_ ?_ ?_); (focus rfl); (focus rfl))
          | ((with_reducible refine mixS_load LK.out ?_ ?_ ?_); (focus rfl); (focus rfl))
          | (go_at_call 28; go_must (refine (copy_any (offA A 5 (c) 1) (n - 5) (c - 5) ((l).drop 5) _ (HBT.out.below (Below.refl _ _).drew) (by omega)).mono ?_; rintro e w1 ⟨A1, c1, rfl, ho1, hb1⟩; have HO := hid ho1; have HSB0 := hid (HPV.out.pro.fin HSB.out).size; have HSB := hid (HSB.out.then hb1); have hP := (HPV.out.pro.on (Below.refl _ _).drew).on hb1; have HP := hid hP; clear hb1 ho1; obtain ⟨k0, k1, k2, k3, k4, k5, k6, k7, k8, m0, m1, m2, f0, f1, f2, f3, f4, f5, f6, f7, f8, g0, g1, g2⟩ := hP.cells; clear hP))
          | ((with_reducible refine And.intro ?_ ?_); (focus (first | (with_reducible exact HSB.out) | exact turned9 HSB.out (by simp))))
          | ((with_reducible refine mix_nil ?_); refine hKK _ _ (turned9 HSB.out (by simp)) ?_; (with_reducible refine last_on ?_ ?_); (focus rfl); intro K hK; go_simp))
                                                                      | ((with_reducible refine mix_nil ?_); refine hKK _ _ (HSB.out) ?_; (with_reducible refine last_on ?_ ?_); (focus rfl); intro K hK; go_simp)
                                                                      | ((with_reducible refine mixS_on ?_ ?_); (focus rfl); intro K K' hK hK'; go_simp; (first | ((with_reducible refine hK _ _ ?_); clear hK hK' K K') | ((with_reducible refine hK' _ _ ?_); clear hK hK' K K') | skip))
                                                                      | ((with_reducible refine mixS_off ?_ ?_); (focus rfl); intro K hK; go_simp; (first | ((with_reducible refine hK _ _ ?_); clear hK K) | skip))
                                                                      | ((with_reducible refine mixS_step ?_); intro K K' hK hK'; go_simp; (first | ((with_reducible refine hK _ _ ?_); clear hK hK' K K') | ((with_reducible refine hK' _ _ ?_); clear hK hK' K K') | skip))))
        refine part_end Try.results25 rfl rfl HP.out.p rfl HP.out.q rfl (by omega) ?_
        intro w' ht
        rw [HU.out]
        exact ⟨A1, (n - 5), c1, none, 0, 0, rfl, (Bs.of_own HO.out).turned ht (own_off HO.out (by have := HPV.out.pro.lt; simp; omega)), Sts.nil _ _, Above.own HO.out (HSB0.out), Above.none _, HP.out.fin ht⟩
  · by_cases hn0 : n = 0
    · subst hn0
      have HU : Hid (bodyP 1 f s l = connP 6) := hid (by unfold bodyP; rw [if_neg hs, if_neg (by rw [h8]; decide), if_pos (by omega)])
      clear hlen
      go_wp2_with (go_at_call 26; go_must (refine (rfault_any 6 true _).mono ?_; unfold ft; rintro e w1 ⟨rfl, hb1⟩; have hP := HPV.out.pro.on hb1; have HP := hid hP; clear hb1; obtain ⟨k0, k1, k2, k3, k4, k5, k6, k7, k8, m0, m1, m2, f0, f1, f2, f3, f4, f5, f6, f7, f8, g0, g1, g2⟩ := hP.cells; clear hP))
      refine part_end Try.results25 rfl rfl HP.out.p rfl HP.out.q rfl (by omega) ?_
      intro w' ht
      rw [HU.out]
      exact PartPost.plain rfl rfl (HP.out.fin ht)
    · have HS : Hid (bodyP 1 f s l = stage2 1 f (nb l 0) (nb l 0 + 1) (l.drop 1)) := hid (by unfold bodyP; rw [if_neg hs, if_neg (by rw [h8]; decide), if_neg (by omega)])
      obtain ⟨b, o, x0, rfl, hx0, hc0⟩ := HB5.out.at_ (i := 0) (by omega)
      clear hx0 hc0
      have c0 := nb_cell HB5.out (i := 0) (by omega)
      rw [Nat.add_zero] at c0
      have hnb := nb_le l 0
      have hi0 : (0 : Int) < n := by omega
      have hn0' : ¬ (n : Int) = 0 := by omega
      have h1n : (1 : Int) ≤ n := by omega
      have h1c : 1 ≤ c := by omega
      have HB5 := hid (HB5.out.off (k := 1) (cap := c) (by omega) (by omega))
      have hwn := IntWalk.i64_in (nb l 0) (by omega)
      have hwn1 := IntWalk.i64_in (nb l 0 + 1) (by omega)
      obtain ⟨pn, hpn⟩ : ∃ pn : Nat, nb l 0 = (pn : Int) := ⟨(nb l 0).toNat, by omega⟩
      rw [hpn] at c0 hwn hwn1 HS hnb
      clear hpn
      rcases and_32 f with h32 | h32
      · have HS : Hid (bodyP 1 f s l = stage3 1 f (pn : Int) ((pn : Int) + 1) (l.drop 1)) := hid (by rw [HS.out]; unfold stage2; rw [if_pos (.inr h32)])
        by_cases hpl : (n - 1) < pn
        · have HU : Hid (bodyP 1 f s l = connP 1) := hid (by rw [HS.out]; unfold stage3; rw [if_pos (by rw [HB5.out.len]; omega)])
          have hpl2 : (((n - 1) : Nat) : Int) < (pn : Int) := by omega
          clear hlen
          go_wp2_with (go_at_call 26; go_must (refine (rfault_any 1 true _).mono ?_; unfold ft; rintro e w1 ⟨rfl, hb1⟩; have hP := HPV.out.pro.on hb1; have HP := hid hP; clear hb1; obtain ⟨k0, k1, k2, k3, k4, k5, k6, k7, k8, m0, m1, m2, f0, f1, f2, f3, f4, f5, f6, f7, f8, g0, g1, g2⟩ := hP.cells; clear hP))
          refine part_end Try.results25 rfl rfl HP.out.p rfl HP.out.q rfl (by omega) ?_
          intro w' ht
          rw [HU.out]
          exact PartPost.plain rfl rfl (HP.out.fin ht)
        have hpl2 : (((n - 1) : Nat) : Int) - pn = (((n - 1) - pn : Nat) : Int) := by omega
        have hpl3 : ¬ (((n - 1) : Nat) : Int) < pn := by omega
        have HU : Hid (bodyP 1 f s l = { d := (l.drop 1).take ((n - 1) - pn), pad := ((pn : Int) + 1), e := fl f 1, w := fl f 4 }) := hid (by rw [HS.out]; unfold stage3; rw [if_neg (by rw [HB5.out.len]; omega), HB5.out.len]; simp)
        have HBT : Hid (Bs W (offA (some ⟨b, o, none⟩) 1 c 1) ((n - 1) - pn) ((l.drop 1).take ((n - 1) - pn))) := hid (HB5.out.to (Nat.sub_le _ _))
        have hpl4 := IntWalk.i64_in ((((n - 1) - pn) : Nat) : Int) (by omega)
        have hW1 := eq1 f
        have hW4 := eq4 f
        clear hlen hpl
        go_wp2_with fail
        have HSB := hid (show Turned [w.heap.size + 1, w.heap.size + 2] W W.drew from (Turned.refl _ _).drew)
        have LF : Hid (∀ w', Turned [w.heap.size + 1, w.heap.size + 2] W w' → (Instr.loadAt 3 (.pointer (some ⟨w.heap.size, 1, none⟩))).run Try.prog w' = .ok (.int .i64 f) w') := hid fun w' ht => by
          have z := ht.cell d1 (by simp)
          clear d0 d1 d2 d3
          go_simp
        have LK : Hid (∀ w', Turned [w.heap.size + 1, w.heap.size + 2] W w' → (Instr.loadAt 3 (.pointer (some ⟨w.heap.size, 0, none⟩))).run Try.prog w' = .ok (.int .i64 1) w') := hid fun w' ht => by
          have z := ht.cell d0 (by simp)
          clear d0 d1 d2 d3
          go_simp
        (refine wp_mixZ (Turned [w.heap.size + 1, w.heap.size + 2] W) rfl ?_ ?_ (HSB.out) ?_; (focus kernel_rfl); (focus kernel_rfl); intro KK hKK; simp only [List.dropLast_cons_cons, List.dropLast_singleton]; go_wp2_with (first
                                                                      | (first
          | ((with_reducible refine mixS_load LF.out ?_ ?_ ?_); (focus rfl); (focus rfl))
          | ((with_reducible refine mixS_load LK.out ?_ ?_ ?_); (focus rfl); (focus rfl))
          | (go_at_call 28; go_must (refine (copy_any (offA (some ⟨b, o, none⟩) 1 c 1) ((n - 1) - pn) (c - 1) ((l.drop 1).take ((n - 1) - pn)) _ (HBT.out.below (Below.refl _ _).drew) (by omega)).mono ?_; rintro e w1 ⟨A1, c1, rfl, ho1, hb1⟩; have HO := hid ho1; have HSB0 := hid (HPV.out.pro.fin HSB.out).size; have HSB := hid (HSB.out.then hb1); have hP := (HPV.out.pro.on (Below.refl _ _).drew).on hb1; have HP := hid hP; clear hb1 ho1; obtain ⟨k0, k1, k2, k3, k4, k5, k6, k7, k8, m0, m1, m2, f0, f1, f2, f3, f4, f5, f6, f7, f8, g0, g1, g2⟩ := hP.cells; clear hP))
          | ((with_reducible refine And.intro ?_ ?_); (focus (first | (with_reducible exact HSB.out) | exact turned9 HSB.out (by simp))))
          | ((with_reducible refine mix_nil ?_); refine hKK _ _ (turned9 HSB.out (by simp)) ?_; (with_reducible refine last_on ?_ ?_); (focus rfl); intro K hK; go_simp))
                                                                      | ((with_reducible refine mix_nil ?_); refine hKK _ _ (HSB.out) ?_; (with_reducible refine last_on ?_ ?_); (focus rfl); intro K hK; go_simp)
                                                                      | ((with_reducible refine mixS_on ?_ ?_); (focus rfl); intro K K' hK hK'; go_simp; (first | ((with_reducible refine hK _ _ ?_); clear hK hK' K K') | ((with_reducible refine hK' _ _ ?_); clear hK hK' K K') | skip))
                                                                      | ((with_reducible refine mixS_off ?_ ?_); (focus rfl); intro K hK; go_simp; (first | ((with_reducible refine hK _ _ ?_); clear hK K) | skip))
                                                                      | ((with_reducible refine mixS_step ?_); intro K K' hK hK'; go_simp; (first | ((with_reducible refine hK _ _ ?_); clear hK hK' K K') | ((with_reducible refine hK' _ _ ?_); clear hK hK' K K') | skip))))
        refine part_end Try.results25 rfl rfl HP.out.p rfl HP.out.q rfl (by omega) ?_
        intro w' ht
        rw [HU.out]
        exact ⟨A1, ((n - 1) - pn), c1, none, 0, 0, rfl, (Bs.of_own HO.out).turned ht (own_off HO.out (by have := HPV.out.pro.lt; simp; omega)), Sts.nil _ _, Above.own HO.out (HSB0.out), Above.none _, HP.out.fin ht⟩
      · by_cases hlt5 : (n - 1) < 5
        · have HU : Hid (bodyP 1 f s l = connP 6) := hid (by rw [HS.out]; unfold stage2; rw [if_neg (by rw [h32]; decide), if_pos (by rw [HB5.out.len]; exact hlt5)])
          have hlt6 : (((n - 1) : Nat) : Int) < 5 := by omega
          clear hlen
          go_wp2_with (go_at_call 26; go_must (refine (rfault_any 6 true _).mono ?_; unfold ft; rintro e w1 ⟨rfl, hb1⟩; have hP := HPV.out.pro.on hb1; have HP := hid hP; clear hb1; obtain ⟨k0, k1, k2, k3, k4, k5, k6, k7, k8, m0, m1, m2, f0, f1, f2, f3, f4, f5, f6, f7, f8, g0, g1, g2⟩ := hP.cells; clear hP))
          refine part_end Try.results25 rfl rfl HP.out.p rfl HP.out.q rfl (by omega) ?_
          intro w' ht
          rw [HU.out]
          exact PartPost.plain rfl rfl (HP.out.fin ht)
        · have HS : Hid (bodyP 1 f s l = stage3 1 f (pn : Int) ((pn : Int) + 1) ((l.drop 1).drop 5)) := hid (by rw [HS.out]; unfold stage2; rw [if_neg (by rw [h32]; decide), if_neg (by rw [HB5.out.len]; exact hlt5)])
          have h5c : 5 ≤ (c - 1) := by omega
          have h5d : (5 : Int) ≤ (((n - 1) : Nat) : Int) := by omega
          have HB5 := hid (HB5.out.off (k := 5) (cap := (c - 1)) (by omega) (by omega))
          by_cases hpl : ((n - 1) - 5) < pn
          · have HU : Hid (bodyP 1 f s l = connP 1) := hid (by rw [HS.out]; unfold stage3; rw [if_pos (by rw [HB5.out.len]; omega)])
            have hpl2 : ((((n - 1) - 5) : Nat) : Int) < (pn : Int) := by omega
            clear hlen
            go_wp2_with (go_at_call 26; go_must (refine (rfault_any 1 true _).mono ?_; unfold ft; rintro e w1 ⟨rfl, hb1⟩; have hP := HPV.out.pro.on hb1; have HP := hid hP; clear hb1; obtain ⟨k0, k1, k2, k3, k4, k5, k6, k7, k8, m0, m1, m2, f0, f1, f2, f3, f4, f5, f6, f7, f8, g0, g1, g2⟩ := hP.cells; clear hP))
            refine part_end Try.results25 rfl rfl HP.out.p rfl HP.out.q rfl (by omega) ?_
            intro w' ht
            rw [HU.out]
            exact PartPost.plain rfl rfl (HP.out.fin ht)
          have hpl2 : ((((n - 1) - 5) : Nat) : Int) - pn = ((((n - 1) - 5) - pn : Nat) : Int) := by omega
          have hpl3 : ¬ ((((n - 1) - 5) : Nat) : Int) < pn := by omega
          have HU : Hid (bodyP 1 f s l = { d := ((l.drop 1).drop 5).take (((n - 1) - 5) - pn), pad := ((pn : Int) + 1), e := fl f 1, w := fl f 4 }) := hid (by rw [HS.out]; unfold stage3; rw [if_neg (by rw [HB5.out.len]; omega), HB5.out.len]; simp)
          have HBT : Hid (Bs W (offA (offA (some ⟨b, o, none⟩) 1 c 1) 5 ((c - 1)) 1) (((n - 1) - 5) - pn) (((l.drop 1).drop 5).take (((n - 1) - 5) - pn))) := hid (HB5.out.to (Nat.sub_le _ _))
          have hpl4 := IntWalk.i64_in (((((n - 1) - 5) - pn) : Nat) : Int) (by omega)
          have hW1 := eq1 f
          have hW4 := eq4 f
          clear hlen hpl
          go_wp2_with fail
          have HSB := hid (show Turned [w.heap.size + 1, w.heap.size + 2] W W.drew from (Turned.refl _ _).drew)
          have LF : Hid (∀ w', Turned [w.heap.size + 1, w.heap.size + 2] W w' → (Instr.loadAt 3 (.pointer (some ⟨w.heap.size, 1, none⟩))).run Try.prog w' = .ok (.int .i64 f) w') := hid fun w' ht => by
            have z := ht.cell d1 (by simp)
            clear d0 d1 d2 d3
            go_simp
          have LK : Hid (∀ w', Turned [w.heap.size + 1, w.heap.size + 2] W w' → (Instr.loadAt 3 (.pointer (some ⟨w.heap.size, 0, none⟩))).run Try.prog w' = .ok (.int .i64 1) w') := hid fun w' ht => by
            have z := ht.cell d0 (by simp)
            clear d0 d1 d2 d3
            go_simp
          (refine wp_mixZ (Turned [w.heap.size + 1, w.heap.size + 2] W) rfl ?_ ?_ (HSB.out) ?_; (focus kernel_rfl); (focus kernel_rfl); intro KK hKK; simp only [List.dropLast_cons_cons, List.dropLast_singleton]; go_wp2_with (first
                                                                        | (first
            | ((with_reducible refine mixS_load LF.out ?_ ?_ ?_); (focus rfl); (focus rfl))
            | ((with_reducible refine mixS_load LK.out ?_ ?_ ?_); (focus rfl); (focus rfl))
            | (go_at_call 28; go_must (refine (copy_any (offA (offA (some ⟨b, o, none⟩) 1 c 1) 5 ((c - 1)) 1) (((n - 1) - 5) - pn) ((c - 1) - 5) (((l.drop 1).drop 5).take (((n - 1) - 5) - pn)) _ (HBT.out.below (Below.refl _ _).drew) (by omega)).mono ?_; rintro e w1 ⟨A1, c1, rfl, ho1, hb1⟩; have HO := hid ho1; have HSB0 := hid (HPV.out.pro.fin HSB.out).size; have HSB := hid (HSB.out.then hb1); have hP := (HPV.out.pro.on (Below.refl _ _).drew).on hb1; have HP := hid hP; clear hb1 ho1; obtain ⟨k0, k1, k2, k3, k4, k5, k6, k7, k8, m0, m1, m2, f0, f1, f2, f3, f4, f5, f6, f7, f8, g0, g1, g2⟩ := hP.cells; clear hP))
            | ((with_reducible refine And.intro ?_ ?_); (focus (first | (with_reducible exact HSB.out) | exact turned9 HSB.out (by simp))))
            | ((with_reducible refine mix_nil ?_); refine hKK _ _ (turned9 HSB.out (by simp)) ?_; (with_reducible refine last_on ?_ ?_); (focus rfl); intro K hK; go_simp))
                                                                        | ((with_reducible refine mix_nil ?_); refine hKK _ _ (HSB.out) ?_; (with_reducible refine last_on ?_ ?_); (focus rfl); intro K hK; go_simp)
                                                                        | ((with_reducible refine mixS_on ?_ ?_); (focus rfl); intro K K' hK hK'; go_simp; (first | ((with_reducible refine hK _ _ ?_); clear hK hK' K K') | ((with_reducible refine hK' _ _ ?_); clear hK hK' K K') | skip))
                                                                        | ((with_reducible refine mixS_off ?_ ?_); (focus rfl); intro K hK; go_simp; (first | ((with_reducible refine hK _ _ ?_); clear hK K) | skip))
                                                                        | ((with_reducible refine mixS_step ?_); intro K K' hK hK'; go_simp; (first | ((with_reducible refine hK _ _ ?_); clear hK hK' K K') | ((with_reducible refine hK' _ _ ?_); clear hK hK' K K') | skip))))
          refine part_end Try.results25 rfl rfl HP.out.p rfl HP.out.q rfl (by omega) ?_
          intro w' ht
          rw [HU.out]
          exact ⟨A1, (((n - 1) - 5) - pn), c1, none, 0, 0, rfl, (Bs.of_own HO.out).turned ht (own_off HO.out (by have := HPV.out.pro.lt; simp; omega)), Sts.nil _ _, Above.own HO.out (HSB0.out), Above.none _, HP.out.fin ht⟩
end Go.Proofs.Ytdiahjeplaegnaa
