/- HuffEnds' walk. No condition. -/
import Derived.Test.YtimklfdofldhaaaHuffRefD
namespace Go.Proofs.Ytimklfdofldhaaa
open Go.RowKit
attribute [local go_sem] kd kdS

set_option maxHeartbeats 400000 in
set_option maxRecDepth 100000 in
theorem ends_walk (A : Option Addr) (n c : Nat) (l : List UInt8) (w : World) (hs : Bs w A n l) (hn : n ≤ 9223372036854775807) :
    Calls Try.prog 4 #[.slice A n c] w fun e w' => e = .returned (.bool true) ∧ Below w.heap.size w w' := by
  have HS := hid hs
  have hlen := hs.len
  clear hs
  obtain ⟨i0, hi0, hz0, hz1, hz2⟩ := info_parts u8_info
  have hi := hid hi0
  have hz := hid hz0
  have hsz := hid hz1
  have hby := hid hz2
  clear hi0 hz0 hz1 hz2
  go_enter Try.func4, Try.ntmps4
  go_wp2_with fail
  refine (first_any w).mono ?_
  rintro e w1 ⟨rfl, hb1⟩
  have HB1 := hid hb1
  clear hb1
  by_cases hbig : 500 < n
  · go_wp2_with (go_at_call 8; go_must (refine (first_any _).mono ?_; rintro e w6 ⟨rfl, hb6⟩; have HB6 := hid hb6; clear hb6))
    go_ret
    exact ⟨rfl, HB1.out.trans (HB6.out.mono HB1.out.size)⟩
  have hn1 : n ≤ 500 := by omega
  go_upto_region 6 with (go_at_call 10; go_must (refine (enc_calls A n c l _ (HS.out.below HB1.out) (by omega)).mono ?_; rintro e w2 ⟨A2, c2, o, p, rfl, ho, hbo, hp, hol, hb2⟩; have HO2 := hid (Bs.of_own ho); have HBO := hid hbo; have HOL := hid hol; have HB2 := hid (HB1.out.trans (hb2.mono HB1.out.size)); clear ho hbo hol hb2))
  have HNI : Hid (dec 0 (bitsB []) 0 0 [] = ([], 0)) := hid rfl
  go_upto_region 7 with (go_at_call 11; go_must (refine (dec_calls none 0 0 0 [] [] 0 _ (Bs.nil _ _) (by omega) HNI.out).mono ?_; rintro e w3 ⟨A3, c3, rfl, _, hb3⟩; have HO3 := hid (HO2.out.below hb3); have HB3 := hid (HB2.out.trans (hb3.mono HB2.out.size)); clear hb3))
  have hbl := hbits_le l
  have h8 := congrArg List.length HBO.out
  rw [bitsB_len, List.length_append, bitsL_len, List.length_replicate] at h8
  generalize hq : hbits l = q at HOL hbl h8
  have HQ := hid hq
  have H8 := hid h8
  have hol2 : o.length ≤ 3000 := by omega
  have hsub : 8 * ((o.length : Nat) : Int) - (q : Int) = (p : Int) := by omega
  have HS3 := hid (HS.out.below HB3.out)
  clear hq h8
  go_upto_region 12 with (go_at_call 13; go_must (refine (bits_of_calls A n c l q _ HS3.out (by omega) HQ.out).mono ?_; rintro e w4 ⟨rfl, rfl⟩))
  clear hsub
  go_wp2_with fail
  go_loopw [7] (fun io wr => ∃ k : Nat, k ≤ p ∧ io = .int .i64 (k : Int) ∧ Below w3.heap.size w3 wr) (fun io _ => p - (intOf io).toNat)
  case atStart => exact ⟨0, by omega, rfl, Below.refl _ _⟩
  case round =>
    obtain ⟨k, hk, rfl, hb⟩ := hrel
    have HB := hid hb
    clear hb
    have HOr := hid (HO3.out.below HB.out)
    by_cases hkp : k < p
    · obtain ⟨L, hL⟩ : ∃ L, o.length = L + 1 := ⟨o.length - 1, by have := H8.out; omega⟩
      have hLi : ((o.length : Nat) : Int) - 1 = (L : Int) := by omega
      have hLo : L < o.length := by omega
      have HL := hid hL
      clear hL
      go_upto_region 16 with (go_at_call 9; go_must (refine (copy_any A2 o.length c2 o _ HOr.out (by omega)).mono ?_; rintro e w5 ⟨A5, c5, rfl, ho5, hb5⟩; have HO5 := hid ho5; have HB5 := hid (HB.out.trans (hb5.mono HB.out.size)); have hs5 := hb5.size; clear ho5 hb5))
      obtain ⟨g, cap, hform, hg1, hg2⟩ := HO5.out.form (by omega)
      injection hform with hA _ _
      subst hA
      obtain ⟨x, hx⟩ : ∃ x, o[L]? = some x := ⟨o[L]'hLo, List.getElem?_eq_getElem _⟩
      have clast : w5.cell? ⟨g, L, none⟩ = some (.int .u8 (x.toNat : Int)) := by
        rw [HO5.out.cellAt _ (by omega), List.getElem?_map, hx]
        rfl
      have flast := HO5.out.frozenAt L
      have hk8 : k < 8 := by omega
      have hk8' : (k : Int) < 8 := by omega
      clear hx
      go_upto_region 17 with fail
      rw [xor_val x.toNat_lt hk8]
      have hst := HO5.out.stored L (bv (UInt8.ofNat (x.toNat ^^^ 2 ^ k)))
      have hbs : Bs (w5.setCell ⟨g, L, none⟩ (bv (UInt8.ofNat (x.toNat ^^^ 2 ^ k)))) (some ⟨g, 0, none⟩) o.length (o.set L (UInt8.ofNat (x.toNat ^^^ 2 ^ k))) := by
        have h1 := Rd.of_own hst.1
        unfold Bs
        rw [List.map_set]
        exact h1
      have hb6 : Below w3.heap.size w3 (w5.setCell ⟨g, L, none⟩ (bv (UInt8.ofNat (x.toNat ^^^ 2 ^ k)))) := HB5.out.setCell (p := ⟨g, L, none⟩) (Nat.le_trans HB.out.size hg1) _
      have HB6 := hid hb6
      have HS6 := hid hbs
      clear hst hbs hb6
      generalize w5.setCell ⟨g, L, none⟩ (bv (UInt8.ofNat (x.toNat ^^^ 2 ^ k))) = w6 at HB6 HS6 ⊢
      generalize o.set L (UInt8.ofNat (x.toNat ^^^ 2 ^ k)) = o2 at HS6
      generalize bv (UInt8.ofNat (x.toNat ^^^ 2 ^ k)) = bvx
      obtain ⟨r, er, hoe⟩ : ∃ r er, dec ((n : Int) + 1) (bitsB o2) 0 0 [] = (r, er) := ⟨_, _, rfl⟩
      have HOE := hid hoe
      clear hoe clast flast
      go_upto_region 18 with (go_at_call 14; go_must (refine (refDecode_any _ o.length _ ((n : Int) + 1) o2 _ HS6.out (by omega)).mono ?_; rw [HOE.out]; rintro e w7 ⟨A7, c7, rfl, _, hb7⟩; have HS7 := hid (HS6.out.below hb7); have HB7 := hid (HB6.out.trans (hb7.mono HB6.out.size)); clear hb7))
      go_upto_region 19 with (go_at_call 11; go_must (refine (dec_calls _ o.length _ ((n : Int) + 1) o2 r er _ HS7.out (by omega) HOE.out).mono ?_; rintro e w8 ⟨A8, c8, rfl, _, hb8⟩; have HB8 := hid (HB7.out.trans (hb8.mono HB7.out.size)); clear hb8))
      go_wp2_with fail
      exact ⟨⟨k + 1, by omega, congrArg (Value.int .i64) (by omega), HB8.out⟩, by simp [intOf]; omega⟩
    · obtain rfl : k = p := by omega
      have hb2 : Below wr.heap.size wr (wr.alloc (.cells #[.int .u8 255, .int .u8 255, .int .u8 255, .int .u8 255] 5)) := (Below.refl _ _).alloc (Nat.le_refl _) _
      have HD1 : Hid (dec ((n : Int) + 9) (bitsB (o ++ [255, 255, 255, 255])) 0 0 [] = ([], 2)) := hid (by
        rw [bitsB_append, HBO.out, byte_four, List.append_assoc, List.replicate_append_replicate, dec_back _ _ _ (by omega), if_neg (by omega)])
      have HBW := hid (HB3.out.trans (HB.out.mono HB3.out.size))
      go_upto_region 22 with (first
        | (go_at_call 9; go_must (refine (copy_any A2 o.length c2 o _ HOr.out (by omega)).mono ?_; rintro e w7 ⟨A7, c7, rfl, ho7, hb7⟩; have HO7 := hid ho7; have HB7 := hid hb7; have hs7 := hb7.size; have HL7 := hid (show Bs (w7.alloc (.cells #[.int .u8 255, .int .u8 255, .int .u8 255, .int .u8 255] 5)) (some ⟨w7.heap.size, 0, none⟩) 4 [255, 255, 255, 255] from rd_new rfl rfl); clear ho7 hb7))
        | (at_builtin; go_loud (refine wpList_app _ rfl _ _ _ rfl wr.heap.size 5 i0 _ 1 1 Try.underlying22 hi.out hz.out hsz.out hby.out rfl (by omega) _ o.length _ rfl (HO7.out.alloc _) _ 4 4 _ rfl HL7.out (bv_one _) (by omega) (by omega) (by simp; omega) ?_; intro A8 c8 w8 ho8 hg8 hc8; have HO8 := hid (show Bs w8 A8 (o.length + 4) (o ++ [255, 255, 255, 255]) from by unfold Bs; rw [List.map_append]; exact Rd.of_own ho8); have HB8 := hid (HBW.out.trans ((below_app (HB7.out.alloc hs7 _) (HO7.out.alloc _) hg8 (Nat.le_refl _) (by simp; omega)).mono HBW.out.size)); clear ho8 hg8 hc8))
        | (go_at_call 11; go_must (refine (dec_calls A8 (o.length + 4) c8 ((n : Int) + 9) (o ++ [255, 255, 255, 255]) [] 2 _ HO8.out (by omega) HD1.out).mono ?_; rintro e w9 ⟨A9, c9, rfl, _, hb9⟩; have HB9 := hid (HB8.out.trans (hb9.mono HB8.out.size)); clear hb9)))
      go_wp2_with (go_at_call 8; go_must (refine (first_any _).mono ?_; rintro e w10 ⟨rfl, hb⟩; have HB10 := hid (HB9.out.trans (hb.mono HB9.out.size)); clear hb))
      go_ret
      exact ⟨rfl, HB10.out⟩
end Go.Proofs.Ytimklfdofldhaaa
