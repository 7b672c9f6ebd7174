/- The law UnpackStatic walked. No condition. -/
import Derived.Test.YtdiejemhhcaicaaDoorGu
namespace Go.Proofs.YtdiejemhhcaicaaDoor
open Go.RowKit
attribute [local go_sem] kd kdS

theorem or128u : ∀ n : Nat, n < 127 → Go.bits .or .u8 128 (n : Int) = ((128 + n : Nat) : Int) := by decide +kernel
theorem at_none {L : List Fd} {k : Nat} (hL : L = []) (h : ¬ (1 ≤ k ∧ k ≤ 61)) : atD L k = none := by
  subst hL
  unfold atD
  by_cases h1 : k ≤ 61
  · rw [if_pos h1, if_neg (by omega)]
  · rw [if_neg h1]
    have : getF [] ((k : Int) - 61) = (⟨⟨#[]⟩, ⟨#[]⟩, false⟩, false) := by
      unfold getF
      exact if_neg (by simp; omega)
    rw [this]
    rfl

set_option maxHeartbeats 1000000 in
set_option maxRecDepth 100000 in
theorem static8_walk (i : Int) (w : World) : Calls Tryd.prog 3 #[.int .i64 i] w fun e w' => e = .returned (.bool true) ∧ Below w.heap.size w w' := by
  go_enter Tryd.func3, Tryd.ntmps3
  go_wp2_with fail
  refine (first8_any w).mono ?_
  rintro e w1 ⟨rfl, hb1⟩
  have HB1 := hid hb1
  clear hb1
  go_wp2_with fail
  refine (decNew_any w1).mono ?_
  rintro e w2 ⟨F, gd, gt, rfl, h2, hb2⟩
  have HI2 := hid (show DecI w w2 w1.heap.size F gd gt false 4096 [] [] from ⟨h2, (fun k hk => by cases hk), HB1.out.trans (hb2.mono HB1.out.size), HB1.out.size⟩)
  clear h2 hb2
  by_cases h0 : i < 0
  · go_wp2_with (go_at_call 8; go_must (refine (first8_any w2).mono ?_; rintro e w3 ⟨rfl, hb3⟩; have HB3 := hid (HI2.out.out.trans (hb3.mono HI2.out.out.size)); clear hb3))
    go_ret
    exact ⟨rfl, HB3.out⟩
  by_cases h126 : 126 < i
  · go_wp2_with (go_at_call 8; go_must (refine (first8_any w2).mono ?_; rintro e w3 ⟨rfl, hb3⟩; have HB3 := hid (HI2.out.out.trans (hb3.mono HI2.out.out.size)); clear hb3))
    go_ret
    exact ⟨rfl, HB3.out⟩
  obtain ⟨k, rfl⟩ : ∃ k : Nat, i = k := ⟨i.toNat, by omega⟩
  have hk : k ≤ 126 := by omega
  have hor := or128u k (by omega)
  go_wp2_with fail
  have hcell : Value.int .u8 (128 + (k : Int)) = bv (UInt8.ofNat (128 + k)) := by rw [← byte_of (128 + k) (by omega)]; rfl
  have hs : Bs (w2.alloc (.cells #[.int .u8 (128 + (k : Int))] 5)) (some ⟨w2.heap.size, 0, none⟩) 1 [UInt8.ofNat (128 + k)] := by
    rw [hcell]
    exact rd_new rfl rfl
  have hb3 : Below w2.heap.size w2 (w2.alloc (.cells #[.int .u8 (128 + (k : Int))] 5)) := (Below.refl _ _).alloc (Nat.le_refl _) _
  generalize w2.alloc (.cells #[.int .u8 (128 + (k : Int))] 5) = wa at hs hb3 ⊢
  have HS := hid hs
  have HA := hid (HI2.out.below hb3)
  clear hs hb3 HI2 hcell hor
  generalize w2.heap.size = bx at HS ⊢
  refine (decode_any 100000 w1.heap.size F gd gt false 4096 [] (some ⟨bx, 0, none⟩) 1 1 [UInt8.ofNat (128 + k)] wa HA.out.dec HS.out (by omega)).mono ?_
  intro e w3 hp
  obtain ⟨A3, n3, c3, F3, rfl, ho, hi, ht, hr⟩ := HA.out.decoded hp
  have hdec := dec_index k (by omega) 4096 []
  by_cases hok : 1 ≤ k ∧ k ≤ 61
  · have hat : atD [] k = some ⟨⟨(tabF k).1.toArray⟩, ⟨(tabF k).2.toArray⟩, false⟩ := by unfold atD; rw [if_pos hok.2, if_pos hok.1]
    rw [hat] at hdec
    have htl := tabF_len k
    obtain ⟨k1, k2⟩ := decO_ok hdec (room := 100000) (by simp only [total, Fd.size, ByteArray.size, List.map_cons, List.map_nil, List.sum_cons, List.sum_nil, List.size_toArray]; omega)
    rw [k1] at ho
    rw [k2] at hi
    rw [k1]
    obtain ⟨rfl, b, o, rfl, c0, c1, c2⟩ := one_field ho
    have HI3 := hid hi
    have HC := hid (And.intro c0 c1)
    have HG := hid (fun w => get_yes k w hok.1 hok.2)
    clear hp k1 k2 ho hi ht hr HA HS c0 c1 c2 hat hdec htl
    generalize tabF k = q at HC HG
    have HGG := hid (show ∀ w, Calls Tryd.prog 11 #[.int .i64 k] w fun e w' => e = .returned (.tuple #[.agg #[.string ⟨q.1.toArray⟩, .string ⟨q.2.toArray⟩, .bool false], .bool true]) ∧ Below w.heap.size w w' from HG.out)
    clear HG
    go_wp2_with fail
    refine (HGG.out w3).mono ?_
    rintro e w4 ⟨rfl, hb4⟩
    have HI4 := hid (HI3.out.below hb4)
    have HC4 := hid (And.intro (below_keep hb4 _ _ HC.out.1) (below_keep hb4 _ _ HC.out.2))
    clear hb4 HI3 HC HGG
    go_upto_region 11 with fail
    have hF : FdAt (w4.alloc (.cells #[.string ⟨q.1.toArray⟩, .string ⟨q.2.toArray⟩, .bool false] 31)) w4.heap.size q := Blk.new w4 _ _
    have hba : Below w4.heap.size w4 (w4.alloc (.cells #[.string ⟨q.1.toArray⟩, .string ⟨q.2.toArray⟩, .bool false] 31)) := (Below.refl _ _).alloc (Nat.le_refl _) _
    generalize w4.alloc (.cells #[.string ⟨q.1.toArray⟩, .string ⟨q.2.toArray⟩, .bool false] 31) = w5 at hF hba ⊢
    have HI5 := hid (HI4.out.below hba)
    have HC5 := hid (And.intro (below_keep hba _ _ HC4.out.1) (below_keep hba _ _ HC4.out.2))
    have HF5 := hid hF
    clear hF hba HI4 HC4
    generalize w4.heap.size = bq at HF5 ⊢
    (refine wp_mix ?_ ?_ ?_; (focus kernel_rfl); (focus kernel_rfl); intro KK hKK; go_wp2_with (first
          | (first
      | (go_at_call 8; go_loud (refine (first8_any _).mono ?_; rintro e w6 ⟨rfl, hb6⟩; have hb7 := ((Below.refl w5.heap.size w5).drew).trans hb6; have HI7 := hid (HI5.out.below hb7); obtain ⟨d0, d1, _⟩ := (HF5.out.below hb7).c; have e0 := below_keep hb7 _ _ HC5.out.1; have e1 := below_keep hb7 _ _ HC5.out.2; clear hb6 hb7))
      | (go_at_call 12; go_must (refine (decDead_any _ F3 gd gt _ _ _ _ HI7.out.dec).mono ?_; rintro e w8 ⟨rfl, rfl⟩)))
          | (with_reducible refine mix_nil ?_)
          | ((with_reducible refine mix_on ?_ ?_); (focus rfl); intro K hK; go_simp; (first | ((with_reducible refine hK _ _ ?_); clear hK K) | skip))
          | ((with_reducible refine mix_off ?_ ?_); (focus rfl); intro K hK; go_simp; (first | ((with_reducible refine hK _ _ ?_); clear hK K) | skip))
          | ((with_reducible refine mix_step ?_); intro K hK; go_simp; (first | ((with_reducible refine hK _ _ ?_); clear hK K) | skip))))
    go_ret
    exact ⟨rfl, HI7.out.out⟩
  · rw [at_none rfl hok] at hdec
    obtain ⟨k1, k2⟩ := decO_bad hdec 100000
    rw [k1] at ho
    rw [k2] at hi
    rw [k1]
    have hn3 : 0 = n3 := by
      have := ho.1
      simp [flat] at this
      omega
    subst hn3
    have HI3 := hid hi
    have HG := hid (fun w => get_no (k : Int) w (by omega))
    clear hp k1 k2 ho hi ht hr HA HS hdec
    go_wp2_with fail
    refine (HG.out w3).mono ?_
    rintro e w4 ⟨rfl, hb4⟩
    have HI4 := hid (HI3.out.below hb4)
    clear hb4 HI3 HG
    go_upto_region 9 with fail
    have hba : Below w4.heap.size w4 (w4.alloc (.cells #[.string ByteArray.empty, .string ByteArray.empty, .bool false] 31)) := (Below.refl _ _).alloc (Nat.le_refl _) _
    generalize w4.alloc (.cells #[.string ByteArray.empty, .string ByteArray.empty, .bool false] 31) = w5 at hba ⊢
    have HI5 := hid (HI4.out.below hba)
    clear hba HI4
    generalize w4.heap.size = bq
    go_wp2_with fail
    have hs : Bs (w5.alloc (.cells #[.int .u8 130] 5)) (some ⟨w5.heap.size, 0, none⟩) 1 [130] := rd_new rfl rfl
    have hb6 : Below w5.heap.size w5 (w5.alloc (.cells #[.int .u8 130] 5)) := (Below.refl _ _).alloc (Nat.le_refl _) _
    generalize w5.alloc (.cells #[.int .u8 130] 5) = w6 at hs hb6 ⊢
    have HS := hid hs
    have HA := hid (HI5.out.below hb6)
    clear hs hb6 HI5
    generalize w5.heap.size = bx2 at HS ⊢
    refine (decode_any 100000 w1.heap.size F3 gd gt true _ _ (some ⟨bx2, 0, none⟩) 1 1 [130] w6 HA.out.dec HS.out (by omega)).mono ?_
    intro e w7 hp
    obtain ⟨A7, n7, c7, F7, rfl, ho, hi, ht, hr⟩ := HA.out.decoded hp
    obtain ⟨k1, k2⟩ := decO_dead [130] 100000 (startD [UInt8.ofNat (128 + k)] 4096 []).most (startD [UInt8.ofNat (128 + k)] 4096 []).L
    rw [k2] at hi
    rw [k1]
    have HI7 := hid hi
    clear hp k1 k2 ho hi ht hr HA HS
    go_wp2_with (first
      | (go_at_call 8; go_must (refine (first8_any _).mono ?_; rintro e w8 ⟨rfl, hb8⟩; have HI8 := hid (HI7.out.below hb8); clear hb8))
      | (go_at_call 12; go_must (refine (decDead_any _ F7 gd gt _ _ _ _ HI8.out.dec).mono ?_; rintro e w9 ⟨rfl, rfl⟩)))
    go_ret
    exact ⟨rfl, HI8.out.out⟩
end Go.Proofs.YtdiejemhhcaicaaDoor
