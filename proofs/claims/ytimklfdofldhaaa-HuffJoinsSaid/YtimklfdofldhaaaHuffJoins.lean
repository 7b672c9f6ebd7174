/- HuffJoins' walk. No condition. -/
import Derived.Test.YtimklfdofldhaaaHuffBack
namespace Go.Proofs.Ytimklfdofldhaaa
open Go.RowKit
attribute [local go_sem] kd kdS

set_option maxHeartbeats 1000000 in
set_option maxRecDepth 100000 in
theorem joins_walk (A : Option Addr) (n c : Nat) (l : List UInt8) (B : Option Addr) (m d : Nat) (k : List UInt8) (room : Int) (w : World) (hs : Bs w A n l) (hn : n ≤ 9223372036854775807) (ht : Bs w B m k) (hm : m ≤ 9223372036854775807) (hr : room ≤ 9223372036854775807) :
    Calls Try.prog 3 #[.slice A n c, .slice B m d, .int .i64 room] w fun e w' => e = .returned (.bool true) ∧ Below w.heap.size w w' := by
  have HS := hid hs
  have HT := hid ht
  have hlen := hs.len
  have hlem := ht.len
  clear hs ht
  obtain ⟨i0, hi0, hz0, hz1, hz2⟩ := info_parts u8_info
  have hi := hid hi0
  have hz := hid hz0
  have hsz := hid hz1
  have hby := hid hz2
  clear hi0 hz0 hz1 hz2
  go_enter Try.func3, Try.ntmps3
  go_wp2_with fail
  refine (first_any w).mono ?_
  rintro e w1 ⟨rfl, hb1⟩
  have HB1 := hid hb1
  clear hb1
  have HCS : 500 < n ∨ (n ≤ 500 ∧ 500 < m) ∨ (n ≤ 500 ∧ m ≤ 500 ∧ room < 0) ∨ (n ≤ 500 ∧ m ≤ 500 ∧ 0 ≤ room) := by omega
  rcases HCS with h1 | ⟨h1, h2⟩ | ⟨h1, h2, h3⟩ | ⟨h1, h2, h3⟩
  iterate 3
    · go_wp2_with (go_at_call 8; go_must (refine (first_any _).mono ?_; rintro e w6 ⟨rfl, hb6⟩; have HB6 := hid hb6; clear hb6))
      go_ret
      exact ⟨rfl, HB1.out.trans (HB6.out.mono HB1.out.size)⟩
  have HS1 := hid (HS.out.below HB1.out)
  have HT1 := hid (HT.out.below HB1.out)
  go_upto_region 6 with (first
    | (go_at_call 9; go_must (refine (copy_any A n c l _ HS1.out (by omega)).mono ?_; rintro e w2 ⟨A2, c2, rfl, ho2, hb2⟩; have HO2 := hid ho2; have HB2 := hid hb2; have hs2 := hb2.size; have HT2 := hid (HT1.out.below hb2); clear ho2 hb2))
    | (at_builtin; go_loud (refine wpList_app _ rfl _ _ _ rfl w1.heap.size 5 i0 _ 1 1 Try.underlying22 hi.out hz.out hsz.out hby.out rfl (by omega) _ n _ rfl HO2.out B m d _ rfl HT2.out (bv_one k) (by omega) (by omega) hs2 ?_; intro A3 c3 w3 ho3 hg3 hc3; have HO3 := hid (show Bs w3 A3 (n + m) (l ++ k) from by unfold Bs; rw [List.map_append]; exact Rd.of_own ho3); have HB3 := hid (below_app HB2.out HO2.out hg3 (Nat.le_refl _) hs2); clear ho3 hg3 hc3)))
  have HB := hid (HB1.out.trans (HB3.out.mono HB1.out.size))
  have HSB := hid (HS.out.below HB.out)
  have HTB := hid (HT.out.below HB.out)
  clear HB1 HB2 HB3 HS1 HT1 HT2 HO2
  have hlb : (l ++ k).length = n + m := by rw [List.length_append, hlen, hlem]
  have HLB := hid hlb
  have HBT := hid (hbits_append l k)
  have hbl := hbits_le l
  have hbk := hbits_le k
  generalize hbo : l ++ k = both at HO3 HBT HLB
  clear hbo hlb
  have hnm1 : n + m ≤ 1000 := by omega
  generalize hnm : n + m = nm at HO3 HLB hnm1 ⊢
  clear hnm
  generalize hq1 : hbits l = q1 at HBT hbl
  generalize hq2 : hbits k = q2 at HBT hbk
  have HQ1 := hid hq1
  have HQ2 := hid hq2
  clear hq1 hq2
  go_upto_region 7 with (go_at_call 10; go_must (refine (enc_calls A3 nm c3 both _ HO3.out (by omega)).mono ?_; rintro e w4 ⟨A4, c4, o, p, rfl, ho4, hbo, hp, hol, hb4⟩; have HO4 := hid (Bs.of_own ho4); have HBO := hid hbo; have HOL := hid hol; have HB4 := hid hb4; clear ho4 hbo hol hb4))
  have hol : o.length ≤ 10000 := by
    have h1 := HOL.out
    rw [HBT.out] at h1
    omega
  have HD1 : Hid (dec ((nm : Int)) (bitsB o) 0 0 [] = (both, 0)) := hid (by rw [HBO.out, dec_back _ _ _ (by rw [HLB.out]; exact Int.le_refl _), if_pos hp])
  have HDR : Hid (room < (nm : Int) → dec room (bitsB o) 0 0 [] = ([], 3)) := hid (fun h => by rw [HBO.out, dec_over _ _ _ h3 (by rw [HLB.out]; exact h)])
  have HDS : Hid ((nm : Int) ≤ room → dec room (bitsB o) 0 0 [] = (both, 0)) := hid (fun h => by rw [HBO.out, dec_back _ _ _ (by rw [HLB.out]; exact h), if_pos hp])
  clear HBO HOL
  go_upto_region 8 with (go_at_call 11; go_must (refine (dec_calls A4 o.length c4 (nm : Int) o both 0 _ HO4.out (by omega) HD1.out).mono ?_; rintro e w5 ⟨A5, c5, rfl, hB5, hb5⟩; have HB5 := hid (HB4.out.trans (hb5.mono HB4.out.size)); have HO5 := hid (HO4.out.below hb5); have HD5 := hid hB5; clear hb5 hB5))
  have HBA := hid (HO3.out.below HB5.out)
  have HS5 := hid (HSB.out.below HB5.out)
  have HT5 := hid (HTB.out.below HB5.out)
  have HBZ := hid (HB.out.trans (HB5.out.mono HB.out.size))
  clear HO3 HO4 HSB HTB HB4 HB5 HB
  go_upto_region 10 with (first
    | (go_at_call 12; go_must (refine (same_bytes _ _ _ _ _ _ _ _ _ HD5.out HBA.out).mono ?_; rw [beq_self_eq_true]; rintro e w6 ⟨rfl, rfl⟩))
    | (go_at_call 13; (with_reducible refine (bits_of_calls A3 nm c3 both (q1 + q2) _ HBA.out (by omega) (by rw [HBT.out])).mono ?_); rintro e w6 ⟨rfl, rfl⟩)
    | (go_at_call 13; (with_reducible refine (bits_of_calls A n c l q1 _ HS5.out (by omega) HQ1.out).mono ?_); rintro e w6 ⟨rfl, rfl⟩)
    | (go_at_call 13; go_must (refine (bits_of_calls B m d k q2 _ HT5.out (by omega) HQ2.out).mono ?_; rintro e w6 ⟨rfl, rfl⟩)))
  by_cases hrm : (nm : Int) ≤ room
  · have HDZ := hid (HDS.out hrm)
    go_upto_region 11 with (go_at_call 11; go_must (refine (dec_calls A4 o.length c4 room o both 0 _ HO5.out (by omega) HDZ.out).mono ?_; rintro e w7 ⟨A7, c7, rfl, hB7, hb7⟩; have HD7 := hid hB7; have HB7 := hid hb7; have HA7 := hid (HBA.out.below hb7); clear hb7 hB7))
    have HW := hid (HBZ.out.trans (HB7.out.mono HBZ.out.size))
    clear HB7 HBZ
    go_wp2_with (first
      | (go_at_call 8; go_must (refine (first_any _).mono ?_; rintro e w8 ⟨rfl, hb8⟩; have HB8 := hid (HW.out.trans (hb8.mono HW.out.size)); have HD8 := hid (HD7.out.below hb8); have HA8 := hid (HA7.out.below hb8); clear hb8))
      | (go_at_call 12; go_must (refine (same_bytes _ _ _ _ _ _ _ _ _ HD8.out HA8.out).mono ?_; rw [beq_self_eq_true]; rintro e w9 ⟨rfl, rfl⟩)))
    go_ret
    exact ⟨rfl, HB8.out⟩
  · have HDZ := hid (HDR.out (by omega))
    go_upto_region 11 with (go_at_call 11; go_must (refine (dec_calls A4 o.length c4 room o [] 3 _ HO5.out (by omega) HDZ.out).mono ?_; rintro e w7 ⟨A7, c7, rfl, hB7, hb7⟩; have HB7 := hid hb7; clear hb7 hB7))
    have HW := hid (HBZ.out.trans (HB7.out.mono HBZ.out.size))
    clear HB7 HBZ
    go_wp2_with (first
      | (go_at_call 8; go_must (refine (first_any _).mono ?_; rintro e w8 ⟨rfl, hb8⟩; have HB8 := hid (HW.out.trans (hb8.mono HW.out.size)); clear hb8)))
    go_ret
    exact ⟨rfl, HB8.out⟩
end Go.Proofs.Ytimklfdofldhaaa
