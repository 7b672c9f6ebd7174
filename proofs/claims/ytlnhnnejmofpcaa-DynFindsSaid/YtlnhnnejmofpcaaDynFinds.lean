/- DynFinds' walk. Conditions: at most 2^47 calls. -/
import Derived.Test.YtlnhnnejmofpcaaDynFew
import Derived.Test.YtlnhnnejmofpcaaDynPlain
import Derived.Test.YtlnhnnejmofpcaaBig
namespace Go.Proofs.Ytlnhnnejmofpcaa
open Go.RowKit
attribute [local go_sem] kd kdS

set_option maxHeartbeats 1000000 in
set_option maxRecDepth 100000 in
theorem dynFinds_walk (A : Option Addr) (n c : Nat) (os : List Op7) (w : World) (h : Os7 w A n os) (hn : n ≤ 140737488355328) : Calls Try.prog 5 #[.slice A n c] w fun e w' => e = .returned (.bool true) ∧ Below w.heap.size w w' := by
  have H := hid h
  have hlen := h.len
  clear h
  go_enter Try.func5, Try.ntmps5
  go_wp2_with fail
  refine (first_any w).mono ?_
  rintro e w1 ⟨rfl, hb1⟩
  have HB1 := hid hb1
  clear hb1
  go_wp2_with fail
  refine (new_tb 4096 w1).mono ?_
  intro e w2 hp
  unfold NewTb at hp
  rw [if_neg (by omega)] at hp
  obtain ⟨F, rfl, h1, hb1⟩ := hp
  have HG := hid (show w.heap.size ≤ w1.heap.size from HB1.out.size)
  have HB2 := hid (HB1.out.trans (hb1.mono HB1.out.size))
  have H1 := hid h1
  clear h1 hb1 HB1
  generalize w1.heap.size = g at H1 HG ⊢
  clear w1
  go_wp2_with fail
  refine (few7_any A n c os w2 (H.out.below HB2.out) hn).mono ?_
  rintro e w3 ⟨rfl, hb3⟩
  have HB3 := hid (HB2.out.trans (hb3.mono HB2.out.size))
  have H3 := hid (H1.out.below hb3)
  clear hb3 H1 HB2
  rcases hfew : few7 os with _ | _
  · go_wp2_with fail
    refine (first_any w3).mono ?_
    rintro e w4 ⟨rfl, hb4⟩
    have HB4 := hid (HB3.out.trans (hb4.mono HB3.out.size))
    clear hb4
    go_wp2_with fail
    go_ret
    exact ⟨rfl, HB4.out⟩
  · have HF := hid hfew
    have hl := fewF_len hfew
    have hn2 : n ≤ 200 := by simpa [hlen] using hl
    have HSZ := hid (show ∀ x ∈ os, x.f.size ≤ 40032 from fun x hx => by
      have := fewF_each hfew (List.mem_map_of_mem hx)
      unfold Fd.size
      omega)
    clear hfew hl
    go_wp2_with fail
    go_loopw [5] (fun i wr => ∃ (k : Nat) (F : List Nat) (L : List Fd), k ≤ n ∧ i = .int .i64 k ∧ Tb wr g F g 4096 L ∧ total L ≤ 4096 ∧ L.length ≤ k ∧ Below w.heap.size w wr) (fun i _ => n - (intOf i).toNat)
    case atStart => exact ⟨0, F, [], Nat.zero_le _, rfl, H3.out, by simp [total], Nat.le_refl _, HB3.out⟩
    case round =>
      obtain ⟨k, F, L, hk, rfl, hT, hL1, hL2, hb⟩ := hrel
      have HT := hid hT
      have HB := hid hb
      have hgr := (hT.ge g (by obtain ⟨A, n, c, _, e⟩ := hT; rw [e]; simp)).2
      by_cases hgo : k < n
      · obtain ⟨b, o, x, rfl, hx, h0, h1, h2, h3, h4⟩ := (H.out.below hb).nth hgo
        have HX := hid hx
        clear h0 h1 hT hb hx
        go_wp2_with fail
        refine (add_tb x.f HT.out (by omega) (by have := HSZ.out x (List.mem_of_getElem? HX.out); omega) (by omega) (by omega) (by omega) (by omega)).mono ?_
        rintro e w4 ⟨F4, rfl, h4, ht4, hk4⟩
        have HT4 := hid h4
        have HB4 := hid (HB.out.trans (ht4.below (fun k hk => Nat.le_trans HG.out (HT.out.ge k hk).1) HB.out.size))
        clear h4 ht4 hk4
        have ha1 := addL_total (m := 4096) (by omega) L x.f
        have ha2 := addL_len 4096 L x.f
        go_wp2_with fail
        go_roundw
        case rel => exact ⟨k + 1, F4, _, by omega, by go_num, HT4.out, by omega, by omega, HB4.out⟩
        case measure => simp [intOf]; omega
      · have hkn : k = n := by omega
        subst hkn
        clear hT hb hgo
        go_wp2_with fail
        go_loopw [6] (fun i wr => ∃ (j : Nat), j ≤ k ∧ i = .int .i64 j ∧ Tb wr g F g 4096 L ∧ Below w.heap.size w wr) (fun i _ => k - (intOf i).toNat)
        case atStart => exact ⟨0, Nat.zero_le _, rfl, HT.out, HB.out⟩
        case round =>
          obtain ⟨j, hj, rfl, hT, hb⟩ := hrel
          have HT := hid hT
          have HB := hid hb
          by_cases hgo : j < k
          · obtain ⟨b, o, x, rfl, hx, h0, h1, h2, h3, h4⟩ := (H.out.below hb).nth hgo
            clear h0 h1 hT hb hx
            go_upto_region 14 with fail
            obtain ⟨wa, hwa⟩ : ∃ wa, wr.alloc (.cells #[.string x.f.n, .string x.f.v, .bool x.f.x] 30) = wa := ⟨_, rfl⟩
            have hFa : Blk wa wr.heap.size 30 #[.string x.f.n, .string x.f.v, .bool x.f.x] := by rw [← hwa]; exact Blk.new wr _ _
            have hba : Below wr.heap.size wr wa := by rw [← hwa]; exact (Below.refl _ _).alloc (Nat.le_refl _) _
            rw [hwa]
            have HF := hid hFa
            have HBa := hid (HB.out.trans (hba.mono HB.out.size))
            have HTa := hid (HT.out.below hba)
            have b0 := hFa.cell 0
            have b1 := hFa.cell 1
            simp at b0 b1
            clear hFa hba hwa h2 h3 h4
            generalize wr.heap.size = q at HF b0 b1 ⊢
            go_wp2_with fail
            refine (find_tb x.f.n x.f.v HTa.out (by omega)).mono ?_
            rintro e w5 ⟨rfl, hb5⟩
            have HB5 := hid (HBa.out.trans (hb5.mono HBa.out.size))
            have HT5 := hid (HTa.out.below hb5)
            have HF5 := hid (HF.out.below hb5 HF.out.lt)
            clear hb5 b0 b1 HTa HBa HF
            go_wp2_with fail
            refine (len_tb HT5.out).mono ?_
            rintro e w5' ⟨rfl, rfl⟩
            go_wp2_with fail
            go_loopw [10, 11, 12] (fun x1 x2 i wr => ∃ (m : Nat), m ≤ L.length ∧ i = .int .i64 m ∧ x1 = .int .i64 ((findK L x.f.n x.f.v (L.length - m)).1 : Nat) ∧ x2 = .int .i64 ((findK L x.f.n x.f.v (L.length - m)).2 : Nat) ∧ Tb wr g F g 4096 L ∧ Blk wr q 30 #[.string x.f.n, .string x.f.v, .bool x.f.x] ∧ Below w.heap.size w wr) (fun _ _ i _ => (intOf i).toNat)
            case atStart => exact ⟨L.length, Nat.le_refl _, rfl, by rw [Nat.sub_self]; rfl, by rw [Nat.sub_self]; rfl, HT5.out, HF5.out, HB5.out⟩
            case round =>
              obtain ⟨m, hm, rfl, rfl, rfl, hT, hF, hb⟩ := hrel
              have HT := hid hT
              have HF := hid hF
              have HB := hid hb
              clear hT hF hb
              by_cases hgo : 1 ≤ m
              · go_wp2_with fail
                refine (get_tb m HT.out (by omega)).mono ?_
                rintro e w6 ⟨rfl, hb6⟩
                obtain ⟨y, hy⟩ : ∃ y, L[L.length - m]? = some y := ⟨_, List.getElem?_eq_getElem (by omega)⟩
                have hget : getF L (m : Int) = (y, true) := by
                  unfold getF
                  rw [if_pos (by omega), show ((m : Int)).toNat = m by omega, hy]
                  rfl
                rw [hget]
                have HY := hid (findK_some (nm := x.f.n) (vl := x.f.v) hy)
                rw [show L.length - (L.length - m) = m by omega, show L.length - m + 1 = L.length - (m - 1) by omega] at HY
                have HB6 := hid (HB.out.trans (hb6.mono HB.out.size))
                have HT6 := hid (HT.out.below hb6)
                have HF6 := hid (HF.out.below hb6 HF.out.lt)
                clear hget hy hb6 HT HF HB
                go_upto_region 20 with fail
                obtain ⟨wb, hwb⟩ : ∃ wb, w6.alloc (.cells #[.string y.n, .string y.v, .bool y.x] 30) = wb := ⟨_, rfl⟩
                have hFb : Blk wb w6.heap.size 30 #[.string y.n, .string y.v, .bool y.x] := by rw [← hwb]; exact Blk.new w6 _ _
                have hbb : Below w6.heap.size w6 wb := by rw [← hwb]; exact (Below.refl _ _).alloc (Nat.le_refl _) _
                rw [hwb]
                have HBb := hid (HB6.out.trans (hbb.mono HB6.out.size))
                have HTb := hid (HT6.out.below hbb)
                have hqb := HF6.out.below hbb HF6.out.lt
                have HFq := hid hqb
                have b0 := hFb.cell 0
                have b1 := hFb.cell 1
                have d0 := hqb.cell 0
                have d1 := hqb.cell 1
                simp at b0 b1 d0 d1
                clear hFb hbb hwb hqb HT6 HF6 HB6
                generalize w6.heap.size = p at b0 b1 ⊢
                go_wp2_with fail
                · have a1 : (y.n.toList == x.f.n.toList) = true := by assumption
                  have a2 : (y.v.toList == x.f.v.toList) = true := by assumption
                  rw [a1, a2] at HY
                  go_roundw
                  case rel => exact ⟨m - 1, by omega, by go_num, by rw [HY.out]; go_num, by rw [HY.out]; go_num, HTb.out, HFq.out, HBb.out⟩
                  case measure => simp [intOf]; omega
                · have a1 : (y.n.toList == x.f.n.toList) = true := by assumption
                  have a2 : (y.v.toList == x.f.v.toList) = false := by assumption
                  rw [a1, a2] at HY
                  go_roundw
                  case rel => exact ⟨m - 1, by omega, by go_num, by rw [HY.out]; go_num, by rw [HY.out]; go_num, HTb.out, HFq.out, HBb.out⟩
                  case measure => simp [intOf]; omega
                · have a1 : (y.n.toList == x.f.n.toList) = false := by assumption
                  rw [a1] at HY
                  go_roundw
                  case rel => exact ⟨m - 1, by omega, by go_num, by rw [HY.out]; go_num, by rw [HY.out]; go_num, HTb.out, HFq.out, HBb.out⟩
                  case measure => simp [intOf]; omega
              · have hm0 : m = 0 := by omega
                subst hm0
                go_wp2_with fail
                go_roundw
                case rel => exact ⟨j + 1, by omega, by go_num, HT.out, HB.out⟩
                case measure => simp [intOf]; omega
          · have hjk : j = k := by omega
            subst hjk
            clear hT hb hgo
            obtain ⟨O, bs, hbs, hmk, hcv⟩ := big_5000
            have HBS := hid hbs
            have HCV := hid hcv
            clear hbs hcv
            have hcap : ¬ 9223372036854775807 < 12 + bs.size := by rw [HBS.out]; omega
            go_wp2_with fail
            rw [HCV.out]
            go_wp2_with fail
            have HT7 := hid (HT.out.below ((Below.refl _ _).alloc (Nat.le_refl _) O))
            refine (find_tb _ ⟨#[]⟩ HT7.out (by omega)).mono ?_
            rintro e w7 ⟨rfl, hb7⟩
            rw [findK_none (name_far (by rw [ByteArray.size_append, HBS.out]; omega))]
            have HB7 := hid ((HB.out.alloc HB.out.size O).trans (hb7.mono (by have := HB.out.size; rw [World.size_alloc]; omega)))
            have H7 := hid (HT7.out.below hb7)
            clear hb7 HT7 HT HB hcap hmk HCV HBS
            go_wp2_with fail
            refine (len_tb H7.out).mono ?_
            rintro e w7' ⟨rfl, rfl⟩
            go_wp2_with fail
            refine (limit_tb 0 H7.out (by omega) (by omega) (by have := (H7.out.ge g (by obtain ⟨A, n, c, _, e⟩ := H7.out; rw [e]; simp)).2; omega)).mono ?_
            intro e w8 hp
            unfold LimTb at hp
            rw [if_neg (by omega), shr_zero] at hp
            obtain ⟨F8, rfl, h8, ht8, hk8⟩ := hp
            have HT8 := hid h8
            have HB8 := hid (HB7.out.trans (ht8.below (fun k hk => Nat.le_trans HG.out (H7.out.ge k hk).1) HB7.out.size))
            clear h8 ht8 hk8
            go_wp2_with fail
            refine (first_any w8).mono ?_
            rintro e w9 ⟨rfl, hb9⟩
            have H9 := hid (HT8.out.below hb9)
            have HB9 := hid (HB8.out.trans (hb9.mono HB8.out.size))
            clear hb9
            go_wp2_with fail
            refine (len_tb H9.out).mono ?_
            rintro e w9' ⟨rfl, rfl⟩
            go_wp2_with fail
            refine (size_tb H9.out).mono ?_
            rintro e w9' ⟨rfl, rfl⟩
            have hlj : (L.length : Int) ≤ j := by omega
            go_wp2_with fail
            go_ret
            exact ⟨rfl, HB9.out⟩
end Go.Proofs.Ytlnhnnejmofpcaa
