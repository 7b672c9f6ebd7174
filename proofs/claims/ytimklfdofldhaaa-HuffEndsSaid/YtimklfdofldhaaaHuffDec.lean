/- What Decode answers. Condition: the row is no longer than 2^30. -/
import Derived.Test.YtimklfdofldhaaaHuffDecP
import Derived.Test.YtimklfdofldhaaaHuffEnc
import Derived.Test.YtimklfdofldhaaaScopesW
namespace Go.Proofs.Ytimklfdofldhaaa
open Go.RowKit
attribute [local go_sem] kd kdS

/-- Where a jump finds the call: at next (1), at over (0). -/
def JD (A : Option Addr) (n c : Nat) (most : Int) (l : List UInt8) (w : World) (lab : Nat) (a' : Act) (w' : World) : Prop :=
  lab < 2 ∧ ∃ (w1 : World) (g : Nat) (A2 : Option Addr) (c2 cd m k : Nat) (o : List UInt8), (∃ us : Nat → Value, a' = { tmps := #[.slice A n c, .int .i64 most, us 2, us 3, .slice none 0 0, .int .i64 0, .pointer (some ⟨g, 0, none⟩), .slice A2 o.length c2, .int .i64 (cd : Int), .int .i64 (m : Int), .int .i64 (k : Int), us 11, us 12, us 13, us 14, us 15, us 16, us 17, us 18, us 19, us 20, us 21, us 22, us 23, us 24, us 25, us 26, us 27, us 28, us 29, us 30, us 31, us 32, us 33, us 34, us 35, us 36, us 37, us 38, us 39, us 40, us 41, us 42, us 43, us 44, us 45, us 46, us 47, us 48, us 49, us 50, us 51, us 52, us 53, us 54, us 55, us 56, us 57, us 58, us 59, us 60, us 61, us 62, us 63, us 64, us 65, us 66, us 67, us 68, us 69, us 70, us 71, us 72, us 73, us 74, us 75, us 76, us 77, us 78, us 79, us 80, us 81, us 82, us 83, us 84, us 85, us 86, us 87, us 88, us 89, us 90, us 91, us 92, us 93, us 94, us 95, us 96, us 97, us 98, us 99, us 100, us 101, us 102], defers := [] }) ∧
    k ≤ 8 * n ∧ (lab = 0 → k = 8 * n) ∧ Inv m cd ∧ o.length ≤ k ∧ Book w1 g ∧ Below w.heap.size w w1 ∧ Below w1.heap.size w1 w' ∧ w'.ownsRow w1.heap.size 5 1 (.slice A2 o.length c2) o.length (o.map bv) ∧ dec most (bitsB l) 0 0 [] = dec most ((bitsB l).drop k) cd m o

theorem by_frame {P : Program} {code : Code} {Q : Exit → Act → World → Prop} {w : World} {J : Act → Prop} (a : Act) (hJ : J a) (h : ∀ a', J a' → Code.wp P code Q a' w) : Code.wp P code Q a w := h a hJ

set_option maxHeartbeats 4000000 in
set_option maxRecDepth 100000 in
theorem Decode_any (A : Option Addr) (n c : Nat) (most : Int) (l : List UInt8) (w : World) (h : Bs w A n l) (hn : n ≤ 1073741824) :
    Calls Try.prog 11 #[.slice A n c, .int .i64 most] w fun e w' => ∃ A2 n2 c2, e = .returned (.tuple #[.slice A2 n2 c2, .int .i64 ((dec most (bitsB l) 0 0 []).2 : Nat)]) ∧ w'.ownsRow w.heap.size 5 1 (.slice A2 n2 c2) n2 ((dec most (bitsB l) 0 0 []).1.map bv) ∧ Below w.heap.size w w' := by
  obtain ⟨i0, hi0, hz0, hz1, hz2⟩ := info_parts big_info
  have hi := hid hi0
  have hz := hid hz0
  have hsz := hid hz1
  have hby := hid hz2
  clear hi0 hz0 hz1 hz2
  have hlen := h.len
  have H := hid h
  clear h
  go_enter Try.func11, Try.ntmps11
  go_upto_region 1 with fail
  refine wp_scope_fall (JD A n c most l w) (fun lab a _ => if lab = 1 then 8 * n - (intOf (a.tmps.getD 10 undef)).toNat + 1 else 0) ?_ ?_
  · go_upto_region 7 with (go_at_call 19; go_must (refine (open_calls _).mono ?_; rintro e wr ⟨g0, rfl, hbk, hb1⟩; have HBK := hid hbk; have HB1 := hid hb1; clear hbk hb1))
    refine wp_label ?_
    rename_i hK0
    refine hK0 _ _ ?_
    clear hK0
    refine by_frame (J := fun a' => JD A n c most l w 1 a' wr) _ (show JD A n c most l w 1 _ wr from ⟨by decide, wr, g0, none, 0, 0, 0, 0, [], frame_some _ rfl, Nat.zero_le _, fun h => absurd h (by decide), inv_zero, Nat.le_refl _, HBK.out, HB1.out, Below.refl _ _, World.ownsRow_nil _ _ _ _, rfl⟩) ?_
    clear HBK HB1
    rintro a' ⟨_, w1, g, A2, c2, cd, m, k, o, ⟨us, rfl⟩, hk, hk0, hinv, hol, hbk, hb1, hb, hown, hdec⟩
    have HK := hid hbk
    have HW := hid hb1
    have HB := hid hb
    have HO := hid hown
    have HD := hid hdec
    have HI := hid hinv
    have hm29 := hinv.1
    clear hbk hb1 hb hown hdec hinv
    by_cases hkn : k = 8 * n
    · subst hkn
      go_wp2_with fail
      go_step3
      exact (show JD A n c most l w 0 _ _ from ⟨by decide, w1, g, A2, c2, cd, m, 8 * n, o, frame_some _ rfl, Nat.le_refl _, fun _ => rfl, HI.out, hol, HK.out, HW.out, HB.out, HO.out, HD.out⟩)
    · obtain ⟨b, oi, rfl, hc⟩ := H.out.2 (by omega)
      obtain ⟨q, hq⟩ : ∃ q, k / 8 = q := ⟨_, rfl⟩
      obtain ⟨r, hr⟩ : ∃ r, k % 8 = r := ⟨_, rfl⟩
      obtain ⟨p, hp⟩ : ∃ p, p + r = 7 := ⟨7 - r, by omega⟩
      have hqn : q < n := by omega
      have hcw : w.cell? ⟨b, oi + q, none⟩ = some (.int .u8 ((l[q]'(by omega)).toNat : Int)) := hc q _ (by rw [List.getElem?_map, List.getElem?_eq_getElem (by omega)]; rfl)
      have hc1 : wr.cell? ⟨b, oi + q, none⟩ = some (.int .u8 ((l[q]'(by omega)).toNat : Int)) := below_keep HB.out _ _ (below_keep HW.out _ _ hcw)
      have hba : (bitsB l)[k]? = some ((l[q]'(by omega)).toNat.testBit p) := by
        have h := bitsB_at l k (by omega)
        rw [show 7 - k % 8 = p by omega] at h
        simpa only [hq] using h
      have hq8 : (k : Int) / 8 = (q : Int) := by omega
      have hr8 : (k : Int) % 8 = (r : Int) := by omega
      have hp7 : IntKind.i64.wrap (7 - (r : Int)) = (p : Int) := by rw [IntWalk.i64_in _ (by omega)]; omega
      have hx := (l[q]'(by omega)).toNat_lt
      generalize (l[q]'(by omega)).toNat = x at hc1 hx hba
      have HDR : Hid ((bitsB l).drop k = x.testBit p :: (bitsB l).drop (k + 1)) := hid (by
        obtain ⟨h1, h2⟩ := List.getElem?_eq_some_iff.1 hba
        rw [List.drop_eq_getElem_cons h1, h2])
      clear hba
      have hx2 : x < 256 := hx
      have hp2 : 2 ^ m ≤ 2 ^ 29 := Nat.pow_le_pow_right (by omega) hm29
      have hcd : cd < 536870912 := by
        have := HI.out.2.1
        have h4 : 2 ^ 29 = 536870912 := by decide
        omega
      clear hx hcw hc hp2
      have hbp := bit_put' (c := cd) (b := x.testBit p) hcd
      rw [← bit_get] at hbp
      have hbt : (x.testBit p).toNat ≤ 1 := by cases x.testBit p <;> decide
      generalize hcv : 2 * cd + (x.testBit p).toNat = cv at hbp
      have hcv2 : cv < 1073741824 := by omega
      have HCV := hid hcv
      clear hcv
      go_upto_region 9 with fail
      generalize bits BinOp.and IntKind.u8 ((x : Int) / 2 ^ p) 1 = bv1
      clear hbp hc1
      obtain ⟨Ab, cb2, hbk⟩ := HK.out
      have HBK := hid (hbk.below HB.out)
      have hm1 : m + 1 ≤ 30 := by omega
      have cf := HBK.out.blk.cell (m + 1)
      have cm := HBK.out.blk.cell (31 + (m + 1))
      have cp := HBK.out.blk.cell (62 + (m + 1))
      have c93 := HBK.out.blk.cell 93
      rw [vals_f (by omega)] at cf
      rw [vals_m (by omega)] at cm
      rw [vals_p (by omega)] at cp
      rw [vals_o, ord_len] at c93
      have hfv : fK 26 (m + 1) = if 5 ≤ m + 1 then (first (m + 1) : Int) else 0 := by unfold fK first; by_cases h : 5 ≤ m + 1 <;> simp [h]; omega
      have hmv : mK 26 (m + 1) = if 5 ≤ m + 1 then (many (m + 1) : Int) else 0 := by unfold mK many; by_cases h : 5 ≤ m + 1 <;> simp [h]; omega
      have hpv : pK 26 (m + 1) = if 5 ≤ m + 1 then ((ordB (m + 1 - 5)).length : Int) else 0 := by unfold pK; by_cases h : 5 ≤ m + 1 <;> simp [h]; omega
      have hfl : first (m + 1) < 4294967296 := first_all _ (by omega)
      have hml : many (m + 1) ≤ 257 := signs_le _
      have HDS : Hid (decS (m + 1) cv = none ↔ (mK 26 (m + 1) ≤ (cv : Int) - fK 26 (m + 1) ∨ (cv : Int) < fK 26 (m + 1))) := hid (by
        rw [hfv, hmv]
        unfold decS
        by_cases h5 : 5 ≤ m + 1
        · rw [if_pos h5, if_pos h5]
          split <;> simp <;> omega
        · rw [if_neg h5, if_neg h5, if_neg (by omega)]
          simp)
      have hf0 : 0 ≤ fK 26 (m + 1) ∧ fK 26 (m + 1) < 4294967296 := by rw [hfv]; split <;> omega
      have HFV := hid hfv
      have HMV := hid hmv
      have HPV := hid hpv
      clear hfv hmv hpv
      generalize hfe : fK 26 (m + 1) = fv at cf HDS hf0 HFV
      generalize hme : mK 26 (m + 1) = mv at cm HDS HMV
      generalize hpe : pK 26 (m + 1) = pv at cp HPV
      clear hfe hme hpe
      have hwm : IntKind.i64.wrap ((m : Int) + 1) = ((m + 1 : Nat) : Int) := by rw [IntWalk.i64_in _ (by omega)]; omega
      have hwf : IntKind.i64.wrap ((cv : Int) - fv) = (cv : Int) - fv := IntWalk.i64_in _ (by omega)
      by_cases hA : mv ≤ (cv : Int) - fv
      · have HA := hid (HDS.out.2 (.inl hA))
        go_wp2_with fail
        (refine wp_mix ?_ ?_ ?_; (focus kernel_rfl); (focus kernel_rfl); intro KK hKK; go_wp2_with (first
              | (fail)
              | (with_reducible refine mix_nil ?_)
              | ((with_reducible refine mix_on ?_ ?_); (focus rfl); intro K hK; go_simp; (first | ((with_reducible refine hK _ _ ?_); clear hK K) | skip))
              | ((with_reducible refine mix_off ?_ ?_); (focus rfl); intro K hK; go_simp; (first | ((with_reducible refine hK _ _ ?_); clear hK K) | skip))
              | ((with_reducible refine mix_step ?_); intro K hK; go_simp; (first | ((with_reducible refine hK _ _ ?_); clear hK K) | skip))))
        go_step3
        exact (show JD (some ⟨b, oi, none⟩) n c most l w 1 _ _ from ⟨by decide, w1, g, A2, c2, cv, m + 1, k + 1, o, frame_some _ rfl, by omega, fun h => by omega, by have := inv_step (b := x.testBit p) HI.out (by rw [HCV.out]; exact HA.out); rwa [HCV.out] at this, by omega, HK.out, HW.out, HB.out.drew, HO.out.drew, by rw [HD.out, HDR.out, dec_first _ _ _ _ _ _ (by rw [HCV.out]; exact HA.out), HCV.out]⟩)
      by_cases hA2 : (cv : Int) < fv
      · have HA := hid (HDS.out.2 (.inr hA2))
        go_wp2_with fail
        (refine wp_mix ?_ ?_ ?_; (focus kernel_rfl); (focus kernel_rfl); intro KK hKK; go_wp2_with (first
              | (fail)
              | (with_reducible refine mix_nil ?_)
              | ((with_reducible refine mix_on ?_ ?_); (focus rfl); intro K hK; go_simp; (first | ((with_reducible refine hK _ _ ?_); clear hK K) | skip))
              | ((with_reducible refine mix_off ?_ ?_); (focus rfl); intro K hK; go_simp; (first | ((with_reducible refine hK _ _ ?_); clear hK K) | skip))
              | ((with_reducible refine mix_step ?_); intro K hK; go_simp; (first | ((with_reducible refine hK _ _ ?_); clear hK K) | skip))))
        go_step3
        exact (show JD (some ⟨b, oi, none⟩) n c most l w 1 _ _ from ⟨by decide, w1, g, A2, c2, cv, m + 1, k + 1, o, frame_some _ rfl, by omega, fun h => by omega, by have := inv_step (b := x.testBit p) HI.out (by rw [HCV.out]; exact HA.out); rwa [HCV.out] at this, by omega, HK.out, HW.out, HB.out.drew, HO.out.drew, by rw [HD.out, HDR.out, dec_first _ _ _ _ _ _ (by rw [HCV.out]; exact HA.out), HCV.out]⟩)
      · have h5 : 5 ≤ m + 1 := by
          by_cases h : 5 ≤ m + 1
          · exact h
          · have h1 := HFV.out
            have h2 := HMV.out
            rw [if_neg h] at h1 h2
            omega
        have h1 := HFV.out
        have h2 := HMV.out
        have h3 := HPV.out
        rw [if_pos h5] at h1 h2 h3
        have hin := dec_in (m + 1) (by omega) h5
        have hdsv : decS (m + 1) cv = some ((ordB 26).getD ((ordB (m + 1 - 5)).length + cv - first (m + 1)) 0) := by
          unfold decS
          rw [if_pos ⟨h5, by omega, by omega⟩]
        generalize hie : (ordB (m + 1 - 5)).length + cv - first (m + 1) = i at hdsv
        have hi7 : i < 257 := by omega
        have hs7 := (ord_at i hi7).1
        have hrd := Rd.of_own HBK.out.own
        rw [ord_len] at hrd
        obtain ⟨bo, oo, rfl, hcell⟩ := hrd.2 (by omega)
        have hc2 : wr.cell? ⟨bo, oo + i, none⟩ = some (.int .i64 (((ordB 26).getD i 0 : Nat) : Int)) := by
          apply hcell
          unfold ints
          rw [List.getElem?_map, List.getD_eq_getElem?_getD, List.getElem?_eq_getElem (by rw [ord_len]; exact hi7)]
          rfl
        generalize (ordB 26).getD i 0 = s at hdsv hs7 hc2
        have hw3 : IntKind.i64.wrap (pv + (cv : Int)) = pv + (cv : Int) := IntWalk.i64_in _ (by omega)
        have hw4 : IntKind.i64.wrap (pv + (cv : Int) - fv) = (i : Int) := by rw [IntWalk.i64_in _ (by omega)]; omega
        have HDV : Hid (dec most (bitsB l) 0 0 [] = if s = 256 then ([], 2) else if most ≤ (o.length : Int) then ([], 3) else dec most ((bitsB l).drop (k + 1)) 0 0 (o ++ [UInt8.ofNat s])) := hid (by rw [HD.out, HDR.out, dec_some _ _ _ _ _ s _ (by rw [HCV.out]; exact hdsv)])
        clear hdsv hie hin h1 h2 h3 hrd hcell HFV HMV HPV HDS
        have hol2 : o.length ≤ 8589934592 := by omega
        by_cases hs6 : s = 256
        · subst hs6
          go_wp2_with fail
          (refine wp_mix ?_ ?_ ?_; (focus kernel_rfl); (focus kernel_rfl); intro KK hKK; go_wp2_with (first
                | (fail)
                | (with_reducible refine mix_nil ?_)
                | ((with_reducible refine mix_on ?_ ?_); (focus rfl); intro K hK; go_simp; (first | ((with_reducible refine hK _ _ ?_); clear hK K) | skip))
                | ((with_reducible refine mix_off ?_ ?_); (focus rfl); intro K hK; go_simp; (first | ((with_reducible refine hK _ _ ?_); clear hK K) | skip))
                | ((with_reducible refine mix_step ?_); intro K hK; go_simp; (first | ((with_reducible refine hK _ _ ?_); clear hK K) | skip))))
          (refine wp_mix ?_ ?_ ?_; (focus kernel_rfl); (focus kernel_rfl); intro KK hKK; go_wp2_with (first
                | (fail)
                | (with_reducible refine mix_nil ?_)
                | ((with_reducible refine mix_on ?_ ?_); (focus rfl); intro K hK; go_simp; (first | ((with_reducible refine hK _ _ ?_); clear hK K) | skip))
                | ((with_reducible refine mix_off ?_ ?_); (focus rfl); intro K hK; go_simp; (first | ((with_reducible refine hK _ _ ?_); clear hK K) | skip))
                | ((with_reducible refine mix_step ?_); intro K hK; go_simp; (first | ((with_reducible refine hK _ _ ?_); clear hK K) | skip))))
          simp only [jumps]
          refine bodyPost_ret (v := .tuple #[.slice none 0 0, .int .i64 2]) (by simp [results, Try.results11, go_sem]) rfl ?_
          rw [HDV.out, if_pos trivial]
          exact ⟨none, 0, 0, rfl, World.ownsRow_nil _ _ _ _, (HW.out.trans (HB.out.mono HW.out.size)).drew.drew⟩
        · have hs6' : ((s : Int) == 256) = false := beq_eq_false_iff_ne.2 (by omega)
          by_cases hmo : most ≤ (o.length : Int)
          · go_wp2_with fail
            (refine wp_mix ?_ ?_ ?_; (focus kernel_rfl); (focus kernel_rfl); intro KK hKK; go_wp2_with (first
                  | (fail)
                  | (with_reducible refine mix_nil ?_)
                  | ((with_reducible refine mix_on ?_ ?_); (focus rfl); intro K hK; go_simp; (first | ((with_reducible refine hK _ _ ?_); clear hK K) | skip))
                  | ((with_reducible refine mix_off ?_ ?_); (focus rfl); intro K hK; go_simp; (first | ((with_reducible refine hK _ _ ?_); clear hK K) | skip))
                  | ((with_reducible refine mix_step ?_); intro K hK; go_simp; (first | ((with_reducible refine hK _ _ ?_); clear hK K) | skip))))
            (refine wp_mix ?_ ?_ ?_; (focus kernel_rfl); (focus kernel_rfl); intro KK hKK; go_wp2_with (first
                  | (fail)
                  | (with_reducible refine mix_nil ?_)
                  | ((with_reducible refine mix_on ?_ ?_); (focus rfl); intro K hK; go_simp; (first | ((with_reducible refine hK _ _ ?_); clear hK K) | skip))
                  | ((with_reducible refine mix_off ?_ ?_); (focus rfl); intro K hK; go_simp; (first | ((with_reducible refine hK _ _ ?_); clear hK K) | skip))
                  | ((with_reducible refine mix_step ?_); intro K hK; go_simp; (first | ((with_reducible refine hK _ _ ?_); clear hK K) | skip))))
            simp only [jumps]
            refine bodyPost_ret (v := .tuple #[.slice none 0 0, .int .i64 3]) (by simp [results, Try.results11, go_sem]) rfl ?_
            rw [HDV.out, if_neg hs6, if_pos hmo]
            exact ⟨none, 0, 0, rfl, World.ownsRow_nil _ _ _ _, (HW.out.trans (HB.out.mono HW.out.size)).drew.drew⟩
          · have hgs := HB.out.size
            have hws : IntKind.u8.wrap (s : Int) = (s : Int) := by rw [u8_wrap, Nat.mod_eq_of_lt (by omega)]
            go_wp2_with fail
            (refine wp_mix ?_ ?_ ?_; (focus kernel_rfl); (focus kernel_rfl); intro KK hKK; go_wp2_with (first
                  | (fail)
                  | (with_reducible refine mix_nil ?_)
                  | ((with_reducible refine mix_on ?_ ?_); (focus rfl); intro K hK; go_simp; (first | ((with_reducible refine hK _ _ ?_); clear hK K) | skip))
                  | ((with_reducible refine mix_off ?_ ?_); (focus rfl); intro K hK; go_simp; (first | ((with_reducible refine hK _ _ ?_); clear hK K) | skip))
                  | ((with_reducible refine mix_step ?_); intro K hK; go_simp; (first | ((with_reducible refine hK _ _ ?_); clear hK K) | skip))))
            (refine wp_mix ?_ ?_ ?_; (focus kernel_rfl); (focus kernel_rfl); intro KK hKK; go_wp2_with (first
                  | (at_builtin; go_loud (refine wpList_app _ rfl _ _ _ rfl w1.heap.size 5 i0 _ 1 1 Try.underlying22 hi.out hz.out hsz.out hby.out rfl (by omega) _ o.length _ rfl (HO.out.drew.drew.alloc _) _ 1 1 _ rfl (rd_one rfl) (by simp [Value.oneCell']) (by omega) (by omega) (by simp; omega) ?_; intro A5 c5 w5 ho5 hg5 hc5; have HO5 := hid ho5; have HG5 := hid hg5; clear ho5 hg5 hc5))
                  | (with_reducible refine mix_nil ?_)
                  | ((with_reducible refine mix_on ?_ ?_); (focus rfl); intro K hK; go_simp; (first | ((with_reducible refine hK _ _ ?_); clear hK K) | skip))
                  | ((with_reducible refine mix_off ?_ ?_); (focus rfl); intro K hK; go_simp; (first | ((with_reducible refine hK _ _ ?_); clear hK K) | skip))
                  | ((with_reducible refine mix_step ?_); intro K hK; go_simp; (first | ((with_reducible refine hK _ _ ?_); clear hK K) | skip))))
            have hbv : Value.int .u8 (s : Int) = bv (UInt8.ofNat s) := by
              unfold bv
              rw [UInt8.toNat_ofNat', Nat.mod_eq_of_lt (by omega)]
            rw [hbv] at HO5
            have HD2 : Hid (dec most (bitsB l) 0 0 [] = dec most ((bitsB l).drop (k + 1)) 0 0 (o ++ [UInt8.ofNat s])) := hid (HDV.out.trans ((if_neg hs6).trans (if_neg (by omega))))
            have hbl : Below w1.heap.size w1 w5 := below_app ((HB.out.alloc (by omega) _).drew.drew) ((HO.out.alloc _).drew.drew) HG5.out (Nat.le_refl _) (by simp; omega)
            have HBL := hid hbl
            clear hbl HG5 hbv HDV
            generalize UInt8.ofNat s = by8 at HO5 HD2
            have hlo : (o ++ [by8]).length = o.length + 1 := by rw [List.length_append, List.length_singleton]
            have hO : w5.ownsRow w1.heap.size 5 1 (.slice A5 (o ++ [by8]).length c5) (o ++ [by8]).length ((o ++ [by8]).map bv) := by rw [hlo, List.map_append]; exact HO5.out
            go_step3
            refine (show JD (some ⟨b, oi, none⟩) n c most l w 1 _ _ from ⟨by decide, w1, g, A5, c5, 0, 0, k + 1, o ++ [by8], ?_, by omega, fun h => by omega, inv_zero, by omega, HK.out, HW.out, HBL.out, hO, HD2.out⟩)
            rw [hlo]
            exact frame_some _ rfl
  · rintro lab a' wr ⟨hlab, w1, g, A2, c2, cd, m, k, o, ⟨us, rfl⟩, hk, hk0, hinv, hol, hbk, hb1, hb, hown, hdec⟩
    have HK := hid hbk
    have HW := hid hb1
    have HB := hid hb
    have HO := hid hown
    have HD := hid hdec
    have HI := hid hinv
    have hm29 := hinv.1
    clear hbk hb1 hb hown hdec hinv
    rcases (show lab = 0 ∨ lab = 1 by omega) with rfl | rfl
    · obtain rfl := hk0 rfl
      have HE : Hid (dec most (bitsB l) 0 0 [] = if m ≤ 7 ∧ cd = 2 ^ m - 1 then (o, 0) else ([], 2)) := hid (by rw [HD.out, List.drop_eq_nil_of_le (by rw [bitsB_len]; omega)]; rfl)
      refine ⟨_, rfl, ?_⟩
      by_cases hm7 : m ≤ 7
      · have hpm : IntKind.i64.wrap (1 * 2 ^ m) = ((2 ^ m : Nat) : Int) := by
          have h1 : 2 ^ m ≤ 2 ^ 7 := Nat.pow_le_pow_right (by omega) hm7
          rw [show (2 : Int) ^ m = ((2 ^ m : Nat) : Int) by rw [Int.natCast_pow]; rfl]
          generalize 2 ^ m = y at h1
          rw [IntWalk.i64_in _ (by omega)]
          omega
        have hp0 : 0 < 2 ^ m := Nat.pow_pos (by omega)
        have hpl : 2 ^ m ≤ 2 ^ 7 := Nat.pow_le_pow_right (by omega) hm7
        have HPO : Hid (wrap64 (wrap64 ((2 : Int) ^ m) - 1) = ((2 ^ m - 1 : Nat) : Int)) := hid (by
          rw [show (2 : Int) ^ m = ((2 ^ m : Nat) : Int) by rw [Int.natCast_pow]; rfl]
          generalize 2 ^ m = y at hp0 hpl
          rw [IntWalk.wrap64_in (y : Int) (by omega), IntWalk.wrap64_in _ (by omega)]
          omega)
        clear hpm
        go_wp2_with fail
        · rename_i h1 h2
          rw [HPO.out] at h2
          simp only [jumps]
          refine bodyPost_ret (v := .tuple #[.slice none 0 0, .int .i64 2]) (by simp [results, Try.results11, go_sem]) rfl ?_
          rw [HE.out, if_neg (by rintro ⟨_, h4⟩; rcases h2 with h2 | h2; (· omega); rw [h4] at h2; simp at h2)]
          exact ⟨none, 0, 0, rfl, World.ownsRow_nil _ _ _ _, (HW.out.trans (HB.out.mono HW.out.size))⟩
        · rename_i h1 h2
          rw [HPO.out] at h2
          simp only [jumps]
          refine bodyPost_ret (v := .tuple #[.slice A2 o.length c2, .int .i64 0]) (by simp [results, Try.results11, go_sem]) rfl ?_
          rw [HE.out, if_pos ⟨hm7, by have h4 := h2.2; simp at h4; omega⟩]
          exact ⟨A2, o.length, c2, rfl, HO.out.mono HW.out.size, (HW.out.trans (HB.out.mono HW.out.size))⟩
      · go_wp2_with fail
        simp only [jumps]
        refine bodyPost_ret (v := .tuple #[.slice none 0 0, .int .i64 2]) (by simp [results, Try.results11, go_sem]) rfl ?_
        rw [HE.out, if_neg (by omega)]
        exact ⟨none, 0, 0, rfl, World.ownsRow_nil _ _ _ _, (HW.out.trans (HB.out.mono HW.out.size))⟩
    · refine ⟨_, rfl, ?_⟩
      by_cases hkn : k = 8 * n
      · subst hkn
        go_wp2_with fail
        go_step3
        exact ⟨(show JD A n c most l w 0 _ _ from ⟨by decide, w1, g, A2, c2, cd, m, 8 * n, o, frame_some _ rfl, Nat.le_refl _, fun _ => rfl, HI.out, hol, HK.out, HW.out, HB.out, HO.out, HD.out⟩), by simp⟩
      · obtain ⟨b, oi, rfl, hc⟩ := H.out.2 (by omega)
        obtain ⟨q, hq⟩ : ∃ q, k / 8 = q := ⟨_, rfl⟩
        obtain ⟨r, hr⟩ : ∃ r, k % 8 = r := ⟨_, rfl⟩
        obtain ⟨p, hp⟩ : ∃ p, p + r = 7 := ⟨7 - r, by omega⟩
        have hqn : q < n := by omega
        have hcw : w.cell? ⟨b, oi + q, none⟩ = some (.int .u8 ((l[q]'(by omega)).toNat : Int)) := hc q _ (by rw [List.getElem?_map, List.getElem?_eq_getElem (by omega)]; rfl)
        have hc1 : wr.cell? ⟨b, oi + q, none⟩ = some (.int .u8 ((l[q]'(by omega)).toNat : Int)) := below_keep HB.out _ _ (below_keep HW.out _ _ hcw)
        have hba : (bitsB l)[k]? = some ((l[q]'(by omega)).toNat.testBit p) := by
          have h := bitsB_at l k (by omega)
          rw [show 7 - k % 8 = p by omega] at h
          simpa only [hq] using h
        have hq8 : (k : Int) / 8 = (q : Int) := by omega
        have hr8 : (k : Int) % 8 = (r : Int) := by omega
        have hp7 : IntKind.i64.wrap (7 - (r : Int)) = (p : Int) := by rw [IntWalk.i64_in _ (by omega)]; omega
        have hx := (l[q]'(by omega)).toNat_lt
        generalize (l[q]'(by omega)).toNat = x at hc1 hx hba
        have HDR : Hid ((bitsB l).drop k = x.testBit p :: (bitsB l).drop (k + 1)) := hid (by
          obtain ⟨h1, h2⟩ := List.getElem?_eq_some_iff.1 hba
          rw [List.drop_eq_getElem_cons h1, h2])
        clear hba
        have hx2 : x < 256 := hx
        have hp2 : 2 ^ m ≤ 2 ^ 29 := Nat.pow_le_pow_right (by omega) hm29
        have hcd : cd < 536870912 := by
          have := HI.out.2.1
          have h4 : 2 ^ 29 = 536870912 := by decide
          omega
        clear hx hcw hc hp2
        have hbp := bit_put' (c := cd) (b := x.testBit p) hcd
        rw [← bit_get] at hbp
        have hbt : (x.testBit p).toNat ≤ 1 := by cases x.testBit p <;> decide
        generalize hcv : 2 * cd + (x.testBit p).toNat = cv at hbp
        have hcv2 : cv < 1073741824 := by omega
        have HCV := hid hcv
        clear hcv
        go_upto_region 9 with fail
        generalize bits BinOp.and IntKind.u8 ((x : Int) / 2 ^ p) 1 = bv1
        clear hbp hc1
        obtain ⟨Ab, cb2, hbk⟩ := HK.out
        have HBK := hid (hbk.below HB.out)
        have hm1 : m + 1 ≤ 30 := by omega
        have cf := HBK.out.blk.cell (m + 1)
        have cm := HBK.out.blk.cell (31 + (m + 1))
        have cp := HBK.out.blk.cell (62 + (m + 1))
        have c93 := HBK.out.blk.cell 93
        rw [vals_f (by omega)] at cf
        rw [vals_m (by omega)] at cm
        rw [vals_p (by omega)] at cp
        rw [vals_o, ord_len] at c93
        have hfv : fK 26 (m + 1) = if 5 ≤ m + 1 then (first (m + 1) : Int) else 0 := by unfold fK first; by_cases h : 5 ≤ m + 1 <;> simp [h]; omega
        have hmv : mK 26 (m + 1) = if 5 ≤ m + 1 then (many (m + 1) : Int) else 0 := by unfold mK many; by_cases h : 5 ≤ m + 1 <;> simp [h]; omega
        have hpv : pK 26 (m + 1) = if 5 ≤ m + 1 then ((ordB (m + 1 - 5)).length : Int) else 0 := by unfold pK; by_cases h : 5 ≤ m + 1 <;> simp [h]; omega
        have hfl : first (m + 1) < 4294967296 := first_all _ (by omega)
        have hml : many (m + 1) ≤ 257 := signs_le _
        have HDS : Hid (decS (m + 1) cv = none ↔ (mK 26 (m + 1) ≤ (cv : Int) - fK 26 (m + 1) ∨ (cv : Int) < fK 26 (m + 1))) := hid (by
          rw [hfv, hmv]
          unfold decS
          by_cases h5 : 5 ≤ m + 1
          · rw [if_pos h5, if_pos h5]
            split <;> simp <;> omega
          · rw [if_neg h5, if_neg h5, if_neg (by omega)]
            simp)
        have hf0 : 0 ≤ fK 26 (m + 1) ∧ fK 26 (m + 1) < 4294967296 := by rw [hfv]; split <;> omega
        have HFV := hid hfv
        have HMV := hid hmv
        have HPV := hid hpv
        clear hfv hmv hpv
        generalize hfe : fK 26 (m + 1) = fv at cf HDS hf0 HFV
        generalize hme : mK 26 (m + 1) = mv at cm HDS HMV
        generalize hpe : pK 26 (m + 1) = pv at cp HPV
        clear hfe hme hpe
        have hwm : IntKind.i64.wrap ((m : Int) + 1) = ((m + 1 : Nat) : Int) := by rw [IntWalk.i64_in _ (by omega)]; omega
        have hwf : IntKind.i64.wrap ((cv : Int) - fv) = (cv : Int) - fv := IntWalk.i64_in _ (by omega)
        by_cases hA : mv ≤ (cv : Int) - fv
        · have HA := hid (HDS.out.2 (.inl hA))
          go_wp2_with fail
          (refine wp_mix ?_ ?_ ?_; (focus kernel_rfl); (focus kernel_rfl); intro KK hKK; go_wp2_with (first
                | (fail)
                | (with_reducible refine mix_nil ?_)
                | ((with_reducible refine mix_on ?_ ?_); (focus rfl); intro K hK; go_simp; (first | ((with_reducible refine hK _ _ ?_); clear hK K) | skip))
                | ((with_reducible refine mix_off ?_ ?_); (focus rfl); intro K hK; go_simp; (first | ((with_reducible refine hK _ _ ?_); clear hK K) | skip))
                | ((with_reducible refine mix_step ?_); intro K hK; go_simp; (first | ((with_reducible refine hK _ _ ?_); clear hK K) | skip))))
          go_step3
          exact ⟨(show JD (some ⟨b, oi, none⟩) n c most l w 1 _ _ from ⟨by decide, w1, g, A2, c2, cv, m + 1, k + 1, o, frame_some _ rfl, by omega, fun h => by omega, by have := inv_step (b := x.testBit p) HI.out (by rw [HCV.out]; exact HA.out); rwa [HCV.out] at this, by omega, HK.out, HW.out, HB.out.drew, HO.out.drew, by rw [HD.out, HDR.out, dec_first _ _ _ _ _ _ (by rw [HCV.out]; exact HA.out), HCV.out]⟩), by simp [intOf]; omega⟩
        by_cases hA2 : (cv : Int) < fv
        · have HA := hid (HDS.out.2 (.inr hA2))
          go_wp2_with fail
          (refine wp_mix ?_ ?_ ?_; (focus kernel_rfl); (focus kernel_rfl); intro KK hKK; go_wp2_with (first
                | (fail)
                | (with_reducible refine mix_nil ?_)
                | ((with_reducible refine mix_on ?_ ?_); (focus rfl); intro K hK; go_simp; (first | ((with_reducible refine hK _ _ ?_); clear hK K) | skip))
                | ((with_reducible refine mix_off ?_ ?_); (focus rfl); intro K hK; go_simp; (first | ((with_reducible refine hK _ _ ?_); clear hK K) | skip))
                | ((with_reducible refine mix_step ?_); intro K hK; go_simp; (first | ((with_reducible refine hK _ _ ?_); clear hK K) | skip))))
          go_step3
          exact ⟨(show JD (some ⟨b, oi, none⟩) n c most l w 1 _ _ from ⟨by decide, w1, g, A2, c2, cv, m + 1, k + 1, o, frame_some _ rfl, by omega, fun h => by omega, by have := inv_step (b := x.testBit p) HI.out (by rw [HCV.out]; exact HA.out); rwa [HCV.out] at this, by omega, HK.out, HW.out, HB.out.drew, HO.out.drew, by rw [HD.out, HDR.out, dec_first _ _ _ _ _ _ (by rw [HCV.out]; exact HA.out), HCV.out]⟩), by simp [intOf]; omega⟩
        · have h5 : 5 ≤ m + 1 := by
            by_cases h : 5 ≤ m + 1
            · exact h
            · have h1 := HFV.out
              have h2 := HMV.out
              rw [if_neg h] at h1 h2
              omega
          have h1 := HFV.out
          have h2 := HMV.out
          have h3 := HPV.out
          rw [if_pos h5] at h1 h2 h3
          have hin := dec_in (m + 1) (by omega) h5
          have hdsv : decS (m + 1) cv = some ((ordB 26).getD ((ordB (m + 1 - 5)).length + cv - first (m + 1)) 0) := by
            unfold decS
            rw [if_pos ⟨h5, by omega, by omega⟩]
          generalize hie : (ordB (m + 1 - 5)).length + cv - first (m + 1) = i at hdsv
          have hi7 : i < 257 := by omega
          have hs7 := (ord_at i hi7).1
          have hrd := Rd.of_own HBK.out.own
          rw [ord_len] at hrd
          obtain ⟨bo, oo, rfl, hcell⟩ := hrd.2 (by omega)
          have hc2 : wr.cell? ⟨bo, oo + i, none⟩ = some (.int .i64 (((ordB 26).getD i 0 : Nat) : Int)) := by
            apply hcell
            unfold ints
            rw [List.getElem?_map, List.getD_eq_getElem?_getD, List.getElem?_eq_getElem (by rw [ord_len]; exact hi7)]
            rfl
          generalize (ordB 26).getD i 0 = s at hdsv hs7 hc2
          have hw3 : IntKind.i64.wrap (pv + (cv : Int)) = pv + (cv : Int) := IntWalk.i64_in _ (by omega)
          have hw4 : IntKind.i64.wrap (pv + (cv : Int) - fv) = (i : Int) := by rw [IntWalk.i64_in _ (by omega)]; omega
          have HDV : Hid (dec most (bitsB l) 0 0 [] = if s = 256 then ([], 2) else if most ≤ (o.length : Int) then ([], 3) else dec most ((bitsB l).drop (k + 1)) 0 0 (o ++ [UInt8.ofNat s])) := hid (by rw [HD.out, HDR.out, dec_some _ _ _ _ _ s _ (by rw [HCV.out]; exact hdsv)])
          clear hdsv hie hin h1 h2 h3 hrd hcell HFV HMV HPV HDS
          have hol2 : o.length ≤ 8589934592 := by omega
          by_cases hs6 : s = 256
          · subst hs6
            go_wp2_with fail
            (refine wp_mix ?_ ?_ ?_; (focus kernel_rfl); (focus kernel_rfl); intro KK hKK; go_wp2_with (first
                  | (fail)
                  | (with_reducible refine mix_nil ?_)
                  | ((with_reducible refine mix_on ?_ ?_); (focus rfl); intro K hK; go_simp; (first | ((with_reducible refine hK _ _ ?_); clear hK K) | skip))
                  | ((with_reducible refine mix_off ?_ ?_); (focus rfl); intro K hK; go_simp; (first | ((with_reducible refine hK _ _ ?_); clear hK K) | skip))
                  | ((with_reducible refine mix_step ?_); intro K hK; go_simp; (first | ((with_reducible refine hK _ _ ?_); clear hK K) | skip))))
            (refine wp_mix ?_ ?_ ?_; (focus kernel_rfl); (focus kernel_rfl); intro KK hKK; go_wp2_with (first
                  | (fail)
                  | (with_reducible refine mix_nil ?_)
                  | ((with_reducible refine mix_on ?_ ?_); (focus rfl); intro K hK; go_simp; (first | ((with_reducible refine hK _ _ ?_); clear hK K) | skip))
                  | ((with_reducible refine mix_off ?_ ?_); (focus rfl); intro K hK; go_simp; (first | ((with_reducible refine hK _ _ ?_); clear hK K) | skip))
                  | ((with_reducible refine mix_step ?_); intro K hK; go_simp; (first | ((with_reducible refine hK _ _ ?_); clear hK K) | skip))))
            simp only [jumps]
            refine bodyPost_ret (v := .tuple #[.slice none 0 0, .int .i64 2]) (by simp [results, Try.results11, go_sem]) rfl ?_
            rw [HDV.out, if_pos trivial]
            exact ⟨none, 0, 0, rfl, World.ownsRow_nil _ _ _ _, (HW.out.trans (HB.out.mono HW.out.size)).drew.drew⟩
          · have hs6' : ((s : Int) == 256) = false := beq_eq_false_iff_ne.2 (by omega)
            by_cases hmo : most ≤ (o.length : Int)
            · go_wp2_with fail
              (refine wp_mix ?_ ?_ ?_; (focus kernel_rfl); (focus kernel_rfl); intro KK hKK; go_wp2_with (first
                    | (fail)
                    | (with_reducible refine mix_nil ?_)
                    | ((with_reducible refine mix_on ?_ ?_); (focus rfl); intro K hK; go_simp; (first | ((with_reducible refine hK _ _ ?_); clear hK K) | skip))
                    | ((with_reducible refine mix_off ?_ ?_); (focus rfl); intro K hK; go_simp; (first | ((with_reducible refine hK _ _ ?_); clear hK K) | skip))
                    | ((with_reducible refine mix_step ?_); intro K hK; go_simp; (first | ((with_reducible refine hK _ _ ?_); clear hK K) | skip))))
              (refine wp_mix ?_ ?_ ?_; (focus kernel_rfl); (focus kernel_rfl); intro KK hKK; go_wp2_with (first
                    | (fail)
                    | (with_reducible refine mix_nil ?_)
                    | ((with_reducible refine mix_on ?_ ?_); (focus rfl); intro K hK; go_simp; (first | ((with_reducible refine hK _ _ ?_); clear hK K) | skip))
                    | ((with_reducible refine mix_off ?_ ?_); (focus rfl); intro K hK; go_simp; (first | ((with_reducible refine hK _ _ ?_); clear hK K) | skip))
                    | ((with_reducible refine mix_step ?_); intro K hK; go_simp; (first | ((with_reducible refine hK _ _ ?_); clear hK K) | skip))))
              simp only [jumps]
              refine bodyPost_ret (v := .tuple #[.slice none 0 0, .int .i64 3]) (by simp [results, Try.results11, go_sem]) rfl ?_
              rw [HDV.out, if_neg hs6, if_pos hmo]
              exact ⟨none, 0, 0, rfl, World.ownsRow_nil _ _ _ _, (HW.out.trans (HB.out.mono HW.out.size)).drew.drew⟩
            · have hgs := HB.out.size
              have hws : IntKind.u8.wrap (s : Int) = (s : Int) := by rw [u8_wrap, Nat.mod_eq_of_lt (by omega)]
              go_wp2_with fail
              (refine wp_mix ?_ ?_ ?_; (focus kernel_rfl); (focus kernel_rfl); intro KK hKK; go_wp2_with (first
                    | (fail)
                    | (with_reducible refine mix_nil ?_)
                    | ((with_reducible refine mix_on ?_ ?_); (focus rfl); intro K hK; go_simp; (first | ((with_reducible refine hK _ _ ?_); clear hK K) | skip))
                    | ((with_reducible refine mix_off ?_ ?_); (focus rfl); intro K hK; go_simp; (first | ((with_reducible refine hK _ _ ?_); clear hK K) | skip))
                    | ((with_reducible refine mix_step ?_); intro K hK; go_simp; (first | ((with_reducible refine hK _ _ ?_); clear hK K) | skip))))
              (refine wp_mix ?_ ?_ ?_; (focus kernel_rfl); (focus kernel_rfl); intro KK hKK; go_wp2_with (first
                    | (at_builtin; go_loud (refine wpList_app _ rfl _ _ _ rfl w1.heap.size 5 i0 _ 1 1 Try.underlying22 hi.out hz.out hsz.out hby.out rfl (by omega) _ o.length _ rfl (HO.out.drew.drew.alloc _) _ 1 1 _ rfl (rd_one rfl) (by simp [Value.oneCell']) (by omega) (by omega) (by simp; omega) ?_; intro A5 c5 w5 ho5 hg5 hc5; have HO5 := hid ho5; have HG5 := hid hg5; clear ho5 hg5 hc5))
                    | (with_reducible refine mix_nil ?_)
                    | ((with_reducible refine mix_on ?_ ?_); (focus rfl); intro K hK; go_simp; (first | ((with_reducible refine hK _ _ ?_); clear hK K) | skip))
                    | ((with_reducible refine mix_off ?_ ?_); (focus rfl); intro K hK; go_simp; (first | ((with_reducible refine hK _ _ ?_); clear hK K) | skip))
                    | ((with_reducible refine mix_step ?_); intro K hK; go_simp; (first | ((with_reducible refine hK _ _ ?_); clear hK K) | skip))))
              have hbv : Value.int .u8 (s : Int) = bv (UInt8.ofNat s) := by
                unfold bv
                rw [UInt8.toNat_ofNat', Nat.mod_eq_of_lt (by omega)]
              rw [hbv] at HO5
              have HD2 : Hid (dec most (bitsB l) 0 0 [] = dec most ((bitsB l).drop (k + 1)) 0 0 (o ++ [UInt8.ofNat s])) := hid (HDV.out.trans ((if_neg hs6).trans (if_neg (by omega))))
              have hbl : Below w1.heap.size w1 w5 := below_app ((HB.out.alloc (by omega) _).drew.drew) ((HO.out.alloc _).drew.drew) HG5.out (Nat.le_refl _) (by simp; omega)
              have HBL := hid hbl
              clear hbl HG5 hbv HDV
              generalize UInt8.ofNat s = by8 at HO5 HD2
              have hlo : (o ++ [by8]).length = o.length + 1 := by rw [List.length_append, List.length_singleton]
              have hO : w5.ownsRow w1.heap.size 5 1 (.slice A5 (o ++ [by8]).length c5) (o ++ [by8]).length ((o ++ [by8]).map bv) := by rw [hlo, List.map_append]; exact HO5.out
              go_step3
              refine ⟨(show JD (some ⟨b, oi, none⟩) n c most l w 1 _ _ from ⟨by decide, w1, g, A5, c5, 0, 0, k + 1, o ++ [by8], ?_, by omega, fun h => by omega, inv_zero, by omega, HK.out, HW.out, HBL.out, hO, HD2.out⟩), by simp [intOf]; omega⟩
              rw [hlo]
              exact frame_some _ rfl
end Go.Proofs.Ytimklfdofldhaaa
