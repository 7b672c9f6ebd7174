/- HuffTells' walk. No condition. -/
import Derived.Test.YtimklfdofldhaaaHuffRefD
namespace Go.Proofs.Ytimklfdofldhaaa
open Go.RowKit
attribute [local go_sem] kd kdS

theorem lowb_inj {a b : Nat} (ha : a < 256) (hb : b < 256) (h : lowb 8 a = lowb 8 b) : a = b := by
  apply Nat.eq_of_testBit_eq
  intro i
  by_cases hi : i < 8
  · have h1 : (lowb 8 a)[7 - i]? = (lowb 8 b)[7 - i]? := by rw [h]
    rw [lowb_get (by omega), lowb_get (by omega), show 8 - 1 - (7 - i) = i by omega] at h1
    injection h1
  · have h2 : ∀ x, x < 256 → x.testBit i = false := fun x hx => Nat.testBit_lt_two_pow (Nat.lt_of_lt_of_le hx (Nat.pow_le_pow_right (n := 2) (i := 8) (by omega) (by omega)))
    rw [h2 a ha, h2 b hb]
theorem bitsB_inj : ∀ {a b : List UInt8}, bitsB a = bitsB b → a = b := by
  intro a
  induction a with
  | nil =>
    intro b h
    have := congrArg List.length h
    rw [bitsB_len, bitsB_len] at this
    exact (List.eq_nil_of_length_eq_zero (by simp at this; omega)).symm
  | cons x a ih =>
    intro b h
    rcases b with _ | ⟨y, b⟩
    · have := congrArg List.length h
      rw [bitsB_len, bitsB_len] at this
      simp at this
    · have e : ∀ (z : UInt8) (l : List UInt8), bitsB (z :: l) = lowb 8 z.toNat ++ bitsB l := fun z l => by
        unfold bitsB
        rw [List.flatMap_cons]
      rw [e, e] at h
      obtain ⟨h1, h2⟩ := List.append_inj h (by rw [lowb_len, lowb_len])
      rw [ih h2, UInt8.toNat_inj.1 (lowb_inj x.toNat_lt y.toNat_lt h1)]
theorem enc_unique {o1 o2 l : List UInt8} {p1 p2 : Nat} (h1 : bitsB o1 = bitsL l ++ List.replicate p1 true) (h2 : bitsB o2 = bitsL l ++ List.replicate p2 true) (hp1 : p1 ≤ 7) (hp2 : p2 ≤ 7) : o1 = o2 := by
  apply bitsB_inj
  have e1 := congrArg List.length h1
  have e2 := congrArg List.length h2
  rw [bitsB_len, List.length_append, List.length_replicate] at e1 e2
  rw [h1, h2, show p1 = p2 by omega]

set_option maxHeartbeats 400000 in
set_option maxRecDepth 100000 in
theorem tells_walk (A : Option Addr) (n c : Nat) (l : List UInt8) (most : Int) (w : World) (hs : Bs w A n l) (hn : n ≤ 9223372036854775807) :
    Calls Try.prog 5 #[.slice A n c, .int .i64 most] w fun e w' => e = .returned (.bool true) ∧ Below w.heap.size w w' := by
  have HS := hid hs
  clear hs
  go_enter Try.func5, Try.ntmps5
  go_wp2_with fail
  refine (first_any w).mono ?_
  rintro e w1 ⟨rfl, hb1⟩
  have HB1 := hid hb1
  clear hb1
  by_cases hbig : 1000 < n
  · go_wp2_with (go_at_call 8; go_must (refine (first_any _).mono ?_; rintro e w6 ⟨rfl, hb6⟩; have HB6 := hid hb6; clear hb6))
    go_ret
    exact ⟨rfl, HB1.out.trans (HB6.out.mono HB1.out.size)⟩
  have hn1 : n ≤ 1000 := by omega
  go_wp2_with (go_at_call 15; go_must (refine (refCodes_any _).mono ?_; rintro e w2 ⟨b, d, rfl, hb, hd, hb2⟩; have HD := hid hd; have HC := hid hb; have HB2 := hid (HB1.out.trans (hb2.mono HB1.out.size)); clear hb hd hb2))
  go_loopw [7] (fun io wr => ∃ k : Nat, k ≤ 256 ∧ io = .int .i64 (k : Int) ∧ Below w2.heap.size w2 wr) (fun io _ => 256 - (intOf io).toNat)
  case atStart => exact ⟨0, by omega, rfl, Below.refl _ _⟩
  case round =>
    obtain ⟨k, hk, rfl, hb⟩ := hrel
    have HB := hid hb
    clear hb
    by_cases hk6 : k < 256
    · have hk6' : (k : Int) < 256 := by omega
      obtain ⟨m, hem⟩ : ∃ m, hl k = m := ⟨_, rfl⟩
      obtain ⟨cx, hec⟩ : ∃ v, codeN k = v := ⟨_, rfl⟩
      have hdc := HD.out k (by omega)
      have hcc := HC.out k (by omega)
      rw [hem] at hdc
      rw [hec] at hcc
      have HDC := hid hdc
      have HCC := hid hcc
      have HEM := hid hem
      have HEC := hid hec
      clear hdc hcc hem hec
      go_upto_region 10 with (go_at_call 16; go_must (refine (code_calls k m cx _ hk6 HEM.out HEC.out).mono ?_; rintro e w3 ⟨rfl, hb3⟩; have HB3 := hid (HB.out.trans (hb3.mono HB.out.size)); clear hb3))
      have hdc := below_keep HB3.out _ _ HDC.out
      have hcc := below_keep HB3.out _ _ HCC.out
      go_wp2_with fail
      exact ⟨⟨k + 1, by omega, congrArg (Value.int .i64) (by omega), HB3.out⟩, by simp [intOf]; omega⟩
    · obtain rfl : k = 256 := by omega
      have HBW := hid (HB2.out.trans (HB.out.mono HB2.out.size))
      have HSW := hid (HS.out.below HBW.out)
      obtain ⟨o, er, hoe⟩ : ∃ o er, dec most (bitsB l) 0 0 [] = (o, er) := ⟨_, _, rfl⟩
      have HOE := hid hoe
      clear hoe HB HB2 HB1 HS HD HC
      go_upto_region 13 with (go_at_call 11; go_must (refine (dec_calls A n c most l o er _ HSW.out (by omega) HOE.out).mono ?_; rintro e w4 ⟨A4, c4, rfl, hB4, hb4⟩; have HX4 := hid hB4; have HB4 := hid (HBW.out.trans (hb4.mono HBW.out.size)); have HS4 := hid (HSW.out.below hb4); clear hB4 hb4))
      go_upto_region 14 with (go_at_call 14; go_must (refine (refDecode_any A n c most l _ HS4.out (by omega)).mono ?_; rw [HOE.out]; rintro e w5 ⟨A5, c5, rfl, hB5, hb5⟩; have HX5 := hid (HX4.out.below hb5); have HY5 := hid hB5; have HB5 := hid (HB4.out.trans (hb5.mono HB4.out.size)); have HS5 := hid (HS4.out.below hb5); clear hB5 hb5))
      obtain ⟨q, hq⟩ : ∃ q, hbits l = q := ⟨_, rfl⟩
      have HQ := hid hq
      clear hq HX4 HS4 HSW HBW HB4
      go_wp2_with (first
        | (go_at_call 8; go_must (refine (first_any _).mono ?_; rintro e w10 ⟨rfl, hb⟩; have HX10 := hid (HX5.out.below hb); have HY10 := hid (HY5.out.below hb); have HS10 := hid (HS5.out.below hb); have HB10 := hid (HB5.out.trans (hb.mono HB5.out.size)); clear hb))
        | (go_at_call 13; go_must (refine (bits_of_calls _ n c l q _ HS10.out (by omega) HQ.out).mono ?_; rintro e w14 ⟨rfl, rfl⟩))
        | (go_at_call 17; go_must (refine (refBits_any _ n c l _ HS10.out (by omega)).mono ?_; rw [HQ.out]; rintro e w11 ⟨rfl, hb⟩; have HX11 := hid (HX10.out.below hb); have HY11 := hid (HY10.out.below hb); have HS11 := hid (HS10.out.below hb); have HB11 := hid (HB10.out.trans (hb.mono HB10.out.size)); clear hb))
        | (go_at_call 10; go_must (refine (enc_calls _ n c l _ HS11.out (by omega)).mono ?_; rintro e w12 ⟨A12, c12, o1, p1, rfl, ho, hb1, hp1, hol, hb⟩; have HE12 := hid (Bs.of_own ho); have HF1 := hid hb1; have HX12 := hid (HX11.out.below hb); have HY12 := hid (HY11.out.below hb); have HS12 := hid (HS11.out.below hb); have HB12 := hid (HB11.out.trans (hb.mono HB11.out.size)); clear hb ho hb1 hol))
        | (go_at_call 18; go_must (refine (refEncode_any _ n c l _ HS12.out (by omega)).mono ?_; rintro e w13 ⟨A13, c13, o2, p2, rfl, ho, hb2, hp2, hb⟩; obtain rfl := enc_unique HF1.out hb2 hp1 hp2; have HE13 := hid (HE12.out.below hb); have HF13 := hid ho; have HX13 := hid (HX12.out.below hb); have HY13 := hid (HY12.out.below hb); have HB13 := hid (HB12.out.trans (hb.mono HB12.out.size)); clear hb ho hb2))
        | (go_at_call 12; (with_reducible refine (same_bytes _ _ _ _ _ _ _ _ _ HE13.out HF13.out).mono ?_); rw [beq_self_eq_true]; rintro e w15 ⟨rfl, rfl⟩)
        | (go_at_call 12; go_must (refine (same_bytes _ _ _ _ _ _ _ _ _ HX13.out HY13.out).mono ?_; rw [beq_self_eq_true]; rintro e w15 ⟨rfl, rfl⟩)))
      go_ret
      exact ⟨rfl, HB13.out⟩
end Go.Proofs.Ytimklfdofldhaaa
