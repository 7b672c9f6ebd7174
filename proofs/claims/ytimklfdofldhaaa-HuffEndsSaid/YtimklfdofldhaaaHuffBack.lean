/- HuffBack's walk. No condition. -/
import Derived.Test.YtimklfdofldhaaaHuffFns
namespace Go.Proofs.Ytimklfdofldhaaa
open Go.RowKit
attribute [local go_sem] kd kdS

theorem code_calls (b n : Nat) (CN : Nat) (w : World) (hb : b < 256) (hn : hl b = n) (hc : codeN b = CN) : Calls Try.prog 16 #[.int .u8 b] w fun e w' => e = .returned (.tuple #[.int .u32 CN, .int .i64 n]) ∧ Below w.heap.size w w' := by
  subst hn hc
  exact Code_any b w hb
theorem bits_of_calls (A : Option Addr) (n c : Nat) (l : List UInt8) (q : Nat) (w : World) (h : Bs w A n l) (hn : n ≤ 1099511627776) (hq : hbits l = q) :
    Calls Try.prog 13 #[.slice A n c] w fun e w' => e = .returned (.int .i64 q) ∧ w = w' := by
  subst hq
  exact Bits_any A n c l w h hn
theorem dec_calls (A : Option Addr) (n c : Nat) (most : Int) (l : List UInt8) (r : List UInt8) (er : Nat) (w : World) (h : Bs w A n l) (hn : n ≤ 1073741824) (hd : dec most (bitsB l) 0 0 [] = (r, er)) :
    Calls Try.prog 11 #[.slice A n c, .int .i64 most] w fun e w' => ∃ A2 c2, e = .returned (.tuple #[.slice A2 r.length c2, .int .i64 (er : Int)]) ∧ Bs w' A2 r.length r ∧ Below w.heap.size w w' := by
  refine (Decode_any A n c most l w h hn).mono ?_
  rw [hd]
  rintro e w' ⟨A2, n2, c2, rfl, ho, hb⟩
  have hB := Bs.of_own ho
  have := hB.len
  subst this
  exact ⟨A2, c2, rfl, hB, hb⟩
theorem enc_calls (A : Option Addr) (n c : Nat) (l : List UInt8) (w : World) (h : Bs w A n l) (hn : n ≤ 1073741824) :
    Calls Try.prog 10 #[.slice A n c] w fun e w' => ∃ A2 c2 o p, e = .returned (.slice A2 o.length c2) ∧ w'.ownsRow w.heap.size 5 1 (.slice A2 o.length c2) o.length (o.map bv) ∧ bitsB o = bitsL l ++ List.replicate p true ∧ p ≤ 7 ∧ o.length = (hbits l + 7) / 8 ∧ Below w.heap.size w w' := by
  refine (Encode_any A n c l w h hn).mono ?_
  rintro e w' ⟨A2, n2, c2, o, p, rfl, ho, hbo, hp, hb⟩
  have := (Bs.of_own ho).len
  subst this
  exact ⟨A2, c2, o, p, rfl, ho, hbo, hp, enc_len hbo hp, hb⟩

set_option maxHeartbeats 4000000 in
set_option maxRecDepth 100000 in
theorem back_walk (A : Option Addr) (n c : Nat) (l : List UInt8) (x y : Int) (w : World) (hs : Bs w A n l) (hn : n ≤ 9223372036854775807) (hx0 : 0 ≤ x) (hx1 : x < 256) (hy0 : 0 ≤ y) (hy1 : y < 256) :
    Calls Try.prog 6 #[.slice A n c, .int .u8 x, .int .u8 y] w fun e w' => e = .returned (.bool true) ∧ Below w.heap.size w w' := by
  obtain ⟨x, rfl⟩ : ∃ k : Nat, x = k := ⟨x.toNat, by omega⟩
  obtain ⟨y, rfl⟩ : ∃ k : Nat, y = k := ⟨y.toNat, by omega⟩
  have hx : x < 256 := by omega
  have hy : y < 256 := by omega
  have HS := hid hs
  have hlen := hs.len
  clear hs hx0 hx1 hy0 hy1
  obtain ⟨i0, hi0, hz0, hz1, hz2⟩ := info_parts u8_info
  have hi := hid hi0
  have hz := hid hz0
  have hsz := hid hz1
  have hby := hid hz2
  clear hi0 hz0 hz1 hz2
  go_enter Try.func6, Try.ntmps6
  go_wp2_with fail
  refine (first_any w).mono ?_
  rintro e w1 ⟨rfl, hb1⟩
  have HB1 := hid hb1
  clear hb1
  by_cases hbig : 1000 < n
  · go_wp2_with (go_at_call 8; go_must (refine (first_any _).mono ?_; rintro e w6 ⟨rfl, hb6⟩; have HB6 := hid hb6; clear hb6))
    go_ret
    exact ⟨rfl, HB1.out.trans (HB6.out.mono HB1.out.size)⟩
  have hn1 : n ≤ 1000 := by omega
  go_wp2_with fail
  refine (enc_calls A n c l w1 (HS.out.below HB1.out) (by omega)).mono ?_
  rintro e w2 ⟨A2, c2, o, p, rfl, ho, hbo, hp, hol, hb2⟩
  have HO := hid ho
  have HBO := hid hbo
  have HB2 := hid (HB1.out.trans (hb2.mono HB1.out.size))
  clear ho hbo hb2
  have hbl := hbits_le l
  have hol2 : o.length ≤ 5000 := by omega
  have HOL := hid hol
  clear hol
  go_wp2_with fail
  have hd1 : dec (n : Int) (bitsB o) 0 0 [] = (l, 0) := by
    rw [HBO.out, dec_back _ _ _ (by omega), if_pos hp]
  have ho1 := Bs.of_own HO.out
  have hc1 := dec_calls A2 o.length c2 (n : Int) o l 0 w2 ho1 (by omega) hd1
  refine hc1.mono ?_
  clear hc1 ho1 hd1
  rintro e w3 ⟨A3, c3, rfl, hB3, hb3⟩
  have HD3 := hid hB3
  have HO3 := hid ((Bs.of_own HO.out).below hb3)
  have HB3 := hid (HB2.out.trans (hb3.mono HB2.out.size))
  have HS3 := hid (HS.out.below HB3.out)
  clear hB3 hb3
  generalize hq : hbits l = q at HOL hbl
  have HQ := hid hq
  clear hq
  have hq8 : ((q : Int) + 7) / 8 = ((o.length : Nat) : Int) := by have := HOL.out; omega
  rw [hlen] at HD3
  go_upto_region 9 with (first
    | (go_at_call 12; go_must (refine (same_bytes _ _ _ _ _ _ _ _ _ HD3.out HS3.out).mono ?_; rw [beq_self_eq_true]; rintro e w4 ⟨rfl, rfl⟩))
    | (go_at_call 13; go_must (refine (bits_of_calls _ _ _ _ q _ HS3.out (by omega) HQ.out).mono ?_; rintro e w4 ⟨rfl, rfl⟩)))
  have hcx := code_ge x (by omega)
  have hcy := code_ge y (by omega)
  have hlx := hl_le x
  have hly := hl_le y
  have hlx3 := hl_top x (by omega)
  have hly3 := hl_top y (by omega)
  have HNB : Hid (x ≠ y → hl x ≤ hl y → codeN y >>> (hl y - hl x) ≠ codeN x) := hid (fun h1 h2 => no_begin (by omega) (by omega) h1 h2)
  have HXC := hid (show cb x = lowb (hl x) (codeN x) from rfl)
  have HLX := hid (show hbits (l ++ [UInt8.ofNat x]) = q + hl x by
    rw [hbits_append, HQ.out]
    unfold hbits
    rw [List.map_cons, List.map_nil, List.sum_cons, List.sum_nil, Nat.add_zero, UInt8.toNat_ofNat', Nat.mod_eq_of_lt hx])
  have hp30 : 2 ^ hl x ≤ 2 ^ 30 := Nat.pow_le_pow_right (by omega) hlx3
  have hq30 : 2 ^ hl y ≤ 2 ^ 30 := Nat.pow_le_pow_right (by omega) hly3
  have h4 : 2 ^ 30 = 1073741824 := by decide
  have hcx2 : codeN x < 1073741824 := by omega
  have hcy2 : codeN y < 1073741824 := by omega
  clear hcx hcy hp30 hq30 h4 HXC
  generalize hek : hl x = k at HNB HLX hlx hlx3
  generalize hem : hl y = m at HNB hly hly3
  generalize hec : codeN x = cx at HNB hcx2
  generalize hed : codeN y = cy at HNB hcy2
  have HEK := hid hek
  have HEM := hid hem
  have HEC := hid hec
  have HED := hid hed
  clear hek hem hec hed
  go_upto_region 10 with (go_at_call 16; go_must (refine (code_calls x k cx _ hx HEK.out HEC.out).mono ?_; rintro e w4 ⟨rfl, hb4⟩; have HB4 := hid hb4; clear hb4))
  go_upto_region 11 with (go_at_call 16; go_must (refine (code_calls y m cy _ hy HEM.out HED.out).mono ?_; rintro e w5 ⟨rfl, hb5⟩; have HB5 := hid hb5; clear hb5))
  have HB := hid (HB3.out.trans ((HB4.out.trans (HB5.out.mono HB4.out.size)).mono HB3.out.size))
  have HO5 := hid (HO3.out.below (HB4.out.trans (HB5.out.mono HB4.out.size)))
  clear HO3 HB4 HB5 HB3
  have HCS : (x = y) ∨ (¬ ((x : Int) = (y : Int)) ∧ ∃ j, m = k + j ∧ (((cy : Int) / 2 ^ j == (cx : Int))) = false ∧ IntKind.i64.wrap (((k + j : Nat) : Int) - (k : Int)) = (j : Int)) ∨ (¬ ((x : Int) = (y : Int)) ∧ ¬ k ≤ m) := by
    by_cases hxy : x = y
    · exact .inl hxy
    have hxe : ¬ ((x : Int) = (y : Int)) := by omega
    by_cases hkm : k ≤ m
    · obtain ⟨j, rfl⟩ : ∃ j, m = k + j := ⟨m - k, by omega⟩
      have hnb := HNB.out hxy hkm
      rw [show k + j - k = j by omega, Nat.shiftRight_eq_div_pow] at hnb
      refine .inr (.inl ⟨hxe, j, rfl, beq_eq_false_iff_ne.2 ?_, by rw [IntWalk.i64_in _ (by omega)]; omega⟩)
      rw [show (2 : Int) ^ j = ((2 ^ j : Nat) : Int) by rw [Int.natCast_pow]; rfl]
      intro h
      apply hnb
      rw [← Int.natCast_ediv] at h
      omega
    · exact .inr (.inr ⟨hxe, hkm⟩)
  rcases HCS with rfl | ⟨hxe, j, rfl, hce, hw1⟩ | ⟨hxe, hkm⟩
  all_goals
    go_upto_region 13 with fail
    have HD1 : Hid (dec ((n : Int) + 1) (bitsB (o ++ [255])) 0 0 [] = ([], 2)) := hid (by
      rw [bitsB_append, HBO.out, byte_ones, List.append_assoc, List.replicate_append_replicate, dec_back _ _ _ (by omega), if_neg (by omega)])
    have HD2 : Hid (0 < n → dec ((n : Int) - 1) (bitsB o) 0 0 [] = ([], 3)) := hid (fun h => by
      rw [HBO.out, dec_over _ _ _ (by omega) (by omega)])
    have hw5 : w.heap.size ≤ w5.heap.size := HB.out.size
    have HS5 := hid (HS.out.below HB.out)
    clear HBO HNB HD3 HS3 HB1 HB2 HO
    go_upto_region 14 with (first
      | (go_at_call 9; go_must (refine (copy_any A2 o.length c2 o w5 HO5.out (by omega)).mono ?_; rintro e w7 ⟨A7, c7, rfl, ho7, hb7⟩; have HO7 := hid ho7; have HB7 := hid hb7; have hs7 := hb7.size; clear ho7 hb7))
      | (at_builtin; go_loud (refine wpList_app _ rfl _ _ _ rfl w5.heap.size 5 i0 _ 1 1 Try.underlying22 hi.out hz.out hsz.out hby.out rfl (by omega) _ o.length _ rfl (HO7.out.alloc _) _ 1 1 _ rfl (rd_one rfl) (by simp [Value.oneCell']) (by omega) (by omega) (by simp; omega) ?_; intro A8 c8 w8 ho8 hg8 hc8; have HO8 := hid (show Bs w8 A8 (o.length + 1) (o ++ [255]) from by unfold Bs; rw [List.map_append]; exact Rd.of_own ho8); have HB8 := hid (below_app (HB7.out.alloc hs7 _) (HO7.out.alloc _) hg8 (Nat.le_refl _) (by simp; omega)); clear ho8 hg8 hc8))
      | (go_at_call 11; go_must (refine (dec_calls A8 (o.length + 1) c8 ((n : Int) + 1) (o ++ [255]) [] 2 _ HO8.out (by omega) HD1.out).mono ?_; rintro e w9 ⟨A9, c9, rfl, _, hb9⟩; have HB9 := hid (HB8.out.trans (hb9.mono HB8.out.size)); clear hb9)))
    have hw9 : w5.heap.size ≤ w9.heap.size := HB9.out.size
    have HO9 := hid (HO5.out.below HB9.out)
    have HS9 := hid (HS5.out.below HB9.out)
    have HBZ := hid (HB.out.trans (HB9.out.mono HB.out.size))
    have HB9' := hid HB9.out
    clear HO5 HS5 HB7 HB8 HO7 HO8 HD1 HB9'
    have HBV : Hid (Value.int .u8 (x : Int) = bv (UInt8.ofNat x)) := hid (by unfold bv; rw [UInt8.toNat_ofNat', Nat.mod_eq_of_lt hx])
    by_cases hn0 : n = 0
    · have HW := HBZ
      subst hn0
      go_upto_region 20 with fail
      go_wp2_with (first
        | (go_at_call 8; go_must (refine (first_any _).mono ?_; rintro e w11 ⟨rfl, hb11⟩; have HB11 := hid (HW.out.trans (hb11.mono HW.out.size)); have HS11 := hid (HS.out.below HB11.out); clear hb11))
        | (go_at_call 9; go_must (refine (copy_any _ 0 c l _ HS11.out (by omega)).mono ?_; rintro e w12 ⟨A12, c12, rfl, ho12, hb12⟩; have HO12 := hid ho12; have HB12 := hid hb12; have hs12 := hb12.size; clear ho12 hb12))
        | (at_builtin; go_loud (refine wpList_appG _ rfl _ _ _ rfl w11.heap.size 5 i0 _ 1 1 Try.underlying22 hi.out hz.out hsz.out hby.out rfl (by omega) _ 0 _ rfl (HO12.out.alloc _) _ 1 1 _ rfl (rd_one rfl) (by simp [Value.oneCell']) (by omega) (by omega) (by simp; omega) ?_; intro A13 c13 w13 ho13 hg13 hc13; have HO13 := hid (show Bs w13 A13 (0 + 1) (l ++ [UInt8.ofNat x]) from by (have h := Rd.of_own ho13; rw [HBV.out] at h; unfold Bs; rw [List.map_append]; exact h)); have HB13 := hid (below_app (HB12.out.alloc hs12 _) (HO12.out.alloc _) hg13 (Nat.le_refl _) (by simp; omega)); have HS13 := hid (HS11.out.below HB13.out); clear ho13 hg13 hc13))
        | (go_at_call 13; (with_reducible refine (bits_of_calls A13 (0 + 1) c13 (l ++ [UInt8.ofNat x]) (q + k) _ HO13.out (by omega) HLX.out).mono ?_); rintro e w14 ⟨rfl, rfl⟩)
        | (go_at_call 13; go_must (refine (bits_of_calls _ 0 c l q _ HS13.out (by omega) HQ.out).mono ?_; rintro e w14 ⟨rfl, rfl⟩)))
      go_ret
      exact ⟨rfl, HB11.out.trans (HB13.out.mono HB11.out.size)⟩
    · have hn0' : 0 < n := by omega
      have HD3 := hid (HD2.out hn0')
      clear HD2
      go_upto_region 20 with (go_at_call 11; go_must (refine (dec_calls A2 o.length c2 ((n : Int) - 1) o [] 3 _ HO9.out (by omega) HD3.out).mono ?_; rintro e w10 ⟨A10, c10, rfl, _, hb10⟩; have HB10 := hid hb10; clear hb10))
      have HW := hid (HBZ.out.trans (HB10.out.mono HBZ.out.size))
      go_wp2_with (first
        | (go_at_call 8; go_must (refine (first_any _).mono ?_; rintro e w11 ⟨rfl, hb11⟩; have HB11 := hid (HW.out.trans (hb11.mono HW.out.size)); have HS11 := hid (HS.out.below HB11.out); clear hb11))
        | (go_at_call 9; go_must (refine (copy_any _ n c l _ HS11.out (by omega)).mono ?_; rintro e w12 ⟨A12, c12, rfl, ho12, hb12⟩; have HO12 := hid ho12; have HB12 := hid hb12; have hs12 := hb12.size; clear ho12 hb12))
        | (at_builtin; go_loud (refine wpList_appG _ rfl _ _ _ rfl w11.heap.size 5 i0 _ 1 1 Try.underlying22 hi.out hz.out hsz.out hby.out rfl (by omega) _ n _ rfl (HO12.out.alloc _) _ 1 1 _ rfl (rd_one rfl) (by simp [Value.oneCell']) (by omega) (by omega) (by simp; omega) ?_; intro A13 c13 w13 ho13 hg13 hc13; have HO13 := hid (show Bs w13 A13 (n + 1) (l ++ [UInt8.ofNat x]) from by (have h := Rd.of_own ho13; rw [HBV.out] at h; unfold Bs; rw [List.map_append]; exact h)); have HB13 := hid (below_app (HB12.out.alloc hs12 _) (HO12.out.alloc _) hg13 (Nat.le_refl _) (by simp; omega)); have HS13 := hid (HS11.out.below HB13.out); clear ho13 hg13 hc13))
        | (go_at_call 13; (with_reducible refine (bits_of_calls A13 (n + 1) c13 (l ++ [UInt8.ofNat x]) (q + k) _ HO13.out (by omega) HLX.out).mono ?_); rintro e w14 ⟨rfl, rfl⟩)
        | (go_at_call 13; go_must (refine (bits_of_calls _ n c l q _ HS13.out (by omega) HQ.out).mono ?_; rintro e w14 ⟨rfl, rfl⟩)))
      go_ret
      exact ⟨rfl, HB11.out.trans (HB13.out.mono HB11.out.size)⟩
end Go.Proofs.Ytimklfdofldhaaa
