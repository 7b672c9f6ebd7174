/- The law PackBack walked. No condition but the rows' length. -/
import Derived.Test.YtjeocmglcgnclaaDoorPackTwoJ
import Derived.Test.YtjeocmglcgnclaaDoorGk
import Derived.Test.YtjeocmglcgnclaaDoorExactJ
import Derived.Test.YtjeocmglcgnclaaDoorGs
namespace Go.Proofs.YtjeocmglcgnclaaDoor
open Go.RowKit
attribute [local go_sem] kd kdS if_min if_max if_minN if_maxN

def gF (l : List Fd) (k : Nat) : Fd := (getF l (k : Nat)).1
theorem get_in {w : World} {B g : Nat} {F : List Nat} {most : Int} {l : List Fd} {k : Nat} (h : Tb w B F g most l) (hn : l.length ≤ 1099511627776) (h1 : 1 ≤ k) (h2 : k ≤ l.length) :
    Calls Tryd.prog 26 #[.pointer (some ⟨g, 0, none⟩), .int .i64 k] w fun e w' => e = .returned (.tuple #[.agg #[.string (gF l k).n, .string (gF l k).v, .bool (gF l k).x], .bool true]) ∧ Below w.heap.size w w' := by
  refine (get_tb (k : Nat) h hn).mono ?_
  rintro e w' ⟨rfl, hb⟩
  refine ⟨?_, hb⟩
  have : (getF l (k : Nat)).2 = true := by unfold getF; rw [if_pos (by omega)]
  rw [this]
  rfl

set_option maxHeartbeats 16000000 in
set_option maxRecDepth 100000 in
theorem pback_walk (A : Option Addr) (n c : Nat) (os : List Op9) (w : World) (hs : Os9 w A n os) (hn : n ≤ 140737488355328) :
    Calls Tryd.prog 6 #[.slice A n c] w fun e w' => e = .returned (.bool true) ∧ Below w.heap.size w w' := by
  have HS := hid hs
  have HLN := hid hs.len
  clear hs
  go_enter Tryd.func6, Tryd.ntmps6
  go_wp2_with fail
  refine (first9_any w).mono ?_
  rintro e w1 ⟨rfl, hb1⟩
  have HB1 := hid hb1
  clear hb1
  go_wp2_with fail
  refine (encNew_any w1).mono ?_
  rintro e w2 ⟨Fe, ge, te, rfl, h2, hb2⟩
  have H2 := hid h2
  have HB2 := hid hb2
  clear h2 hb2
  go_wp2_with fail
  refine (decNew_any w2).mono ?_
  rintro e w3 ⟨Fq, gd, td, rfl, h3, hb3⟩
  have HI := hid (show ED w w3 ge te gd td 4096 4096 4096 [] 4096 [] w1.heap.size w2.heap.size Fe Fq from ⟨H2.out.below hb3, h3, fun q hq hm => by have := (H2.out.ge_ q hq).2; have := (h3.ge_ q hm).1; omega, (HB1.out.trans (HB2.out.mono HB1.out.size)).trans (hb3.mono (Nat.le_trans HB1.out.size HB2.out.size)), HB1.out.size, Nat.le_trans HB1.out.size HB2.out.size⟩)
  clear h3 hb3 H2 HB2 HB1
  generalize w1.heap.size = Be at HI
  generalize w2.heap.size = Bd at HI
  go_wp2_with fail
  refine (few9_any A n c os w3 (HS.out.below HI.out.out) hn).mono ?_
  rintro e w4 ⟨q, rfl, hq, hb4⟩
  have HI4 := hid (HI.out.below hb4)
  clear hb4 HI
  rcases q with _ | _
  · clear hq
    go_wp2_with (go_at_call 8; go_must (refine (first9_any _).mono ?_; rintro e w5 ⟨rfl, hb5⟩; have HB5 := hid (HI4.out.out.trans (hb5.mono HI4.out.out.size)); clear hb5))
    go_ret
    exact ⟨rfl, HB5.out⟩
  have HF := hid (hq rfl)
  clear hq
  go_wp2_with fail
  go_loopw [5] (fun i wr => ∃ (k : Nat) (most : Int) (L : List Fd) (Fe Fq : List Nat), k ≤ n ∧ i = .int .i64 k ∧ ED w wr ge te gd td most most 4096 L most L Be Bd Fe Fq ∧ Pair most most 4096 L L) (fun i _ => n - (intOf i).toNat)
  case atStart => exact ⟨0, _, _, _, _, Nat.zero_le _, rfl, HI4.out, Pair.start⟩
  case round =>
    obtain ⟨k, most, L, Fe, Fq, hk, rfl, hE, hP⟩ := hrel
    have HE := hid hE
    have HP := hid hP
    clear hE hP HI4
    by_cases hlt : k < n
    · obtain ⟨b, o, rfl, hc⟩ := HS.out.at_ (by omega)
      obtain ⟨x, hx⟩ : ∃ x, os[k]? = some x := ⟨os[k]'(by rw [HLN.out]; omega), List.getElem?_eq_getElem _⟩
      have HC := hid (hc k x hx)
      have HXM := hid (List.mem_of_getElem? hx)
      have hbd := HS.out.body x HXM.out
      have HLI := hid hbd.1
      have HFS := hid hbd.2
      have hfl := hbd.2.len
      have hll : x.ls.length = x.ln := by have := hbd.1.1; simpa using this
      have hea := HF.out.each x HXM.out
      have hfn : x.fn ≤ 200 := by omega
      have hln : x.ln ≤ 50 := by omega
      have HLL := hid hll
      clear hc hx hbd hfl hea hll
      go_wp2_with fail
      go_loopw [6] (fun j wv => ∃ (k2 : Nat) (most2 least2 : Int) (L2 : List Fd) (Fe2 : List Nat), k2 ≤ x.ln ∧ j = .int .i64 k2 ∧ ED w wv ge te gd td most2 most least2 L2 most L Be Bd Fe2 Fq ∧ Pair most2 most least2 L2 L ∧ (∀ z, 0 < k2 → x.ls[k2 - 1]? = some z → most2 = peerN z)) (fun j _ => x.ln - (intOf j).toNat)
      case atStart => exact ⟨0, _, _, _, _, Nat.zero_le _, rfl, HE.out, HP.out, fun z h => absurd h (by omega)⟩
      case round =>
        obtain ⟨k2, most2, least2, L2, Fe2, hk2, rfl, hE2, hP2, hM2⟩ := hrel
        have HE2 := hid hE2
        have HP2 := hid hP2
        have HM2 := hid hM2
        have c0 := below_keep hE2.out _ _ HC.out.1
        have c1 := below_keep hE2.out _ _ HC.out.2
        clear hE2 hP2 hM2 HE HP
        by_cases hlt2 : k2 < x.ln
        · obtain ⟨bl, ol, hlA, hlc⟩ := HLI.out.2 (by omega)
          obtain ⟨z, hz⟩ : ∃ z, x.ls[k2]? = some z := ⟨x.ls[k2]'(by rw [HLL.out]; omega), List.getElem?_eq_getElem _⟩
          have hzc := below_keep HE2.out.out _ _ (hlc k2 (.int .i64 z) (by rw [List.getElem?_map, hz]; rfl))
          have HZ := hid hz
          rw [hlA] at c0
          clear hlc hz
          go_wp2_with fail
          refine (peer_any z Be Fe2 ge te most2 most least2 L2 _ HE2.out.e HE2.out.hB).mono ?_
          rintro e w5 ⟨F5, rfl, h5, ht5, hk5⟩
          have HE5 := hid (HE2.out.enc h5 ht5 hk5)
          clear h5 ht5 hk5 c0 c1 hzc
          go_wp2_with fail
          go_roundw
          case rel =>
            refine ⟨k2 + 1, _, _, _, _, by omega, by go_num, HE5.out, HP2.out.peer z, fun z' _ h => ?_⟩
            have e1 : k2 + 1 - 1 = k2 := by omega
            rw [e1, HZ.out] at h
            injection h with h
            rw [h]
          case measure => simp [intOf]; omega
        · obtain rfl : k2 = x.ln := by omega
          clear hlt2
          go_wp2_with fail
          refine (encode_anyZ Be Fe2 ge te most2 most least2 L2 x.fA x.fn x.fc x.fs _ HE2.out.e (Rd.below HFS.out HE2.out.out) (HE2.out.row_off HFS.out) (by omega) HE2.out.hB).mono ?_
          intro e w5 hp
          clear c0 c1
          by_cases hlong : x.fs.any longF = true
          · unfold EncodePost at hp
            rw [if_pos hlong] at hp
            obtain ⟨rfl, hb5⟩ := hp
            have HE5 := hid (HE2.out.below hb5)
            clear hb5 hlong HM2
            go_wp2_with (go_at_call 8; go_must (refine (first9_any _).mono ?_; rintro e w6 ⟨rfl, hb6⟩; have HE6 := hid (HE5.out.below hb6); clear hb6))
            go_ret
            exact ⟨rfl, HE6.out.out⟩
          have hl2 : x.fs.any longF = false := by simpa using hlong
          obtain ⟨A5, m5, c5, F5, rfl, hq⟩ := encode_ok hl2 hp
          have hE5 := HE2.out.enc hq.enc hq.turn_ hq.kf
          have hBs := Bs.of_own hq.row
          have hst := back_step HF.out HXM.out HP2.out hl2
          clear hp hq hlong hl2
          obtain ⟨r, hr⟩ : ∃ r, blockP most2 most least2 L2 x.fs = r := ⟨_, rfl⟩
          rw [hr] at hE5 hBs hst
          obtain ⟨o1, L1⟩ := r
          dsimp only at hE5 hBs hst
          have HR := hid hr
          have HE5 := hid hE5
          have HBS := hid hBs
          have HO := hid hst.2.1
          have HT := hid hst.2.2.1
          have HP5 := hid hst.2.2.2
          have hm5 : m5 ≤ 16777216 := by have := hBs.len; have := hst.1; omega
          clear hr hE5 hBs hst HE2 HP2
          go_wp2_with fail
          refine (decode_any 2147483647 Bd Fq gd td false most L A5 m5 c5 o1 w5 HE5.out.d HBS.out (by omega)).mono ?_
          intro e w6 hp
          obtain ⟨A6, n6, c6, F6, rfl, hx6, hE6⟩ := HE5.out.dec hp HO.out HT.out
          have HE6 := hid hE6
          have HX6 := hid hx6
          have c1 := below_keep hE6.out _ _ HC.out.2
          clear hp hx6 hE6 HE5 HBS HO HT
          go_wp2_with fail
          refine (exact_any A6 n6 c6 x.fA x.fn x.fc x.fs w6 HX6.out (Rd.below HFS.out HE6.out.out) (by have := HX6.out.len; have := HFS.out.len; omega)).mono ?_
          rintro e w7 ⟨rfl, hb7⟩
          have HE7 := hid (HE6.out.below hb7)
          have hL1 : L1.length ≤ 4096 := HE7.out.e.ok.len
          clear hb7 HE6 HX6 c1
          go_wp2_with (first
            | (go_at_call 10; go_must (refine (encTable_any _ F5 ge te _ _ _ _ _ HE7.out.e).mono ?_; rintro e w8 ⟨rfl, rfl⟩))
            | (go_at_call 24; go_must (refine (decTable_any _ F6 gd td _ _ _ _ HE7.out.d).mono ?_; rintro e w8 ⟨rfl, rfl⟩))
            | (go_at_call 12; (refine (len_tb HE7.out.e.tb).mono ?_; rintro e w8 ⟨rfl, rfl⟩))
            | (go_at_call 12; (refine (len_tb HE7.out.d.tb).mono ?_; rintro e w8 ⟨rfl, rfl⟩))
            | (go_at_call 25; (refine (size_tb HE7.out.e.tb).mono ?_; rintro e w8 ⟨rfl, rfl⟩))
            | (go_at_call 25; (refine (size_tb HE7.out.d.tb).mono ?_; rintro e w8 ⟨rfl, rfl⟩))
            | (go_at_call 14; (refine (most_tb HE7.out.e.tb).mono ?_; rintro e w8 ⟨rfl, rfl⟩))
            | (go_at_call 14; (refine (most_tb HE7.out.d.tb).mono ?_; rintro e w8 ⟨rfl, rfl⟩)))
          go_loopw [13] (fun j wv => ∃ k3 : Nat, 1 ≤ k3 ∧ k3 ≤ L1.length + 1 ∧ j = .int .i64 k3 ∧ ED w wv ge te gd td most2 most2 4096 L1 most2 L1 Be Bd F5 F6) (fun j _ => L1.length + 1 - (intOf j).toNat)
          case atStart => exact ⟨1, by omega, by omega, rfl, HE7.out⟩
          case round =>
            obtain ⟨k3, hk3, hk4, rfl, hE8⟩ := hrel
            have HE8 := hid hE8
            clear hE8 HE7
            by_cases hlt3 : k3 ≤ L1.length
            · go_wp2_with (first
                | (go_at_call 12; (refine (len_tb HE8.out.e.tb).mono ?_; rintro e w9 ⟨rfl, rfl⟩)))
              refine (get_in HE8.out.e.tb (by omega) hk3 hlt3).mono ?_
              rintro e w9 ⟨rfl, hb9⟩
              have HE9 := hid (HE8.out.below hb9)
              obtain ⟨f, hf⟩ : ∃ f, gF L1 k3 = f := ⟨_, rfl⟩
              rw [hf]
              have HGF := hid hf
              clear hb9 hf HE8
              go_upto_region 26 with fail
              have hF : BoxAt (w9.alloc (.cells #[.string f.n, .string f.v, .bool f.x] 23)) w9.heap.size f := Blk.new w9 _ _
              have hba : Below w9.heap.size w9 (w9.alloc (.cells #[.string f.n, .string f.v, .bool f.x] 23)) := (Below.refl _ _).alloc (Nat.le_refl _) _
              generalize w9.alloc (.cells #[.string f.n, .string f.v, .bool f.x] 23) = wa at hF hba ⊢
              have HEa := hid (HE9.out.below hba)
              have HFa := hid hF
              clear hF hba HE9
              generalize w9.heap.size = bx at HFa ⊢
              go_wp2_with fail
              refine (get_in HEa.out.d.tb (by omega) hk3 hlt3).mono ?_
              rintro e w10 ⟨rfl, hb10⟩
              rw [HGF.out]
              have HE10 := hid (HEa.out.below hb10)
              have HF10 := hid (HFa.out.below hb10)
              clear hb10 HEa HFa
              go_upto_region 27 with fail
              have hF : BoxAt (w10.alloc (.cells #[.string f.n, .string f.v, .bool f.x] 23)) w10.heap.size f := Blk.new w10 _ _
              have hba : Below w10.heap.size w10 (w10.alloc (.cells #[.string f.n, .string f.v, .bool f.x] 23)) := (Below.refl _ _).alloc (Nat.le_refl _) _
              generalize w10.alloc (.cells #[.string f.n, .string f.v, .bool f.x] 23) = wb at hF hba ⊢
              have HEb := hid (HE10.out.below hba)
              have HFb := hid hF
              have HFa := hid (HF10.out.below hba)
              clear hF hba HE10 HF10
              generalize w10.heap.size = by_ at HFb ⊢
              obtain ⟨p0, p1, p2⟩ := HFa.out.c
              obtain ⟨q0, q1, q2⟩ := HFb.out.c
              go_wp2_with fail
              go_roundw
              case rel => exact ⟨k3 + 1, by omega, by omega, by go_num, HEb.out⟩
              case measure => simp [intOf]; omega
            · obtain rfl : k3 = L1.length + 1 := by omega
              have c0 := below_keep HE8.out.out _ _ HC.out.1
              by_cases hz0 : 0 < x.ln
              · obtain ⟨bl, ol, hlA, hlc⟩ := HLI.out.2 (by omega)
                obtain ⟨z, hz⟩ : ∃ z, x.ls[x.ln - 1]? = some z := ⟨x.ls[x.ln - 1]'(by rw [HLL.out]; omega), List.getElem?_eq_getElem _⟩
                have hzc := below_keep HE8.out.out _ _ (hlc (x.ln - 1) (.int .i64 z) (by rw [List.getElem?_map, hz]; rfl))
                have hmz : most2 = min (max z 0) 4096 := HM2.out z hz0 hz
                rw [hlA] at c0
                go_upto_region 30 with (first
                  | (go_at_call 12; (refine (len_tb HE8.out.e.tb).mono ?_; rintro e w9 ⟨rfl, rfl⟩)))
                obtain ⟨m, hm⟩ : ∃ m, x.ln = m + 1 := ⟨x.ln - 1, by omega⟩
                have e1 : x.ln - 1 = m := by omega
                rw [e1] at hzc
                rw [hm] at c0 ⊢
                have L0 : Hid (∀ w', Below wr.heap.size wr w' → (Instr.loadAt 43 (.pointer (some ⟨b, o + k * 2, none⟩))).run Tryd.prog w' = .ok (.slice (some ⟨bl, ol, none⟩) (m + 1) x.lc) w') := hid fun w' hw => by
                  have z0 := below_keep hw _ _ c0
                  clear c0 hzc
                  go_simp
                have L1 : Hid (∀ w', Below wr.heap.size wr w' → (Instr.loadAt 3 (.pointer (some ⟨bl, ol + m, none⟩))).run Tryd.prog w' = .ok (.int .i64 z) w') := hid fun w' hw => by
                  have z0 := below_keep hw _ _ hzc
                  clear c0 hzc
                  go_simp
                have HSB := hid (show Below wr.heap.size wr wr.drew from (Below.refl _ _).drew)
                have hm50 : m < 50 := by omega
                have hzz : min (max z 0) 4096 = most2 := hmz.symm
                have hwm : IntKind.i64.wrap (m : Int) = (m : Int) := by rw [IntWalk.i64_in _ (by omega)]
                clear c0 hzc hlc hz hlA hmz e1 hm hz0
                (refine wp_mixC (Below wr.heap.size wr) ?_ ?_ (HSB.out) ?_; (focus kernel_rfl); (focus kernel_rfl); intro KK hKK; go_wp2_with (first
                                                        | (first
                  | ((with_reducible refine mixS_load L0.out ?_ ?_ ?_); (focus rfl); (focus rfl))
                  | ((with_reducible refine mixS_load L1.out ?_ ?_ ?_); (focus rfl); (focus rfl))
                  | (go_at_call 14; go_must (refine (most_tb (HE8.out.e.tb.below HSB.out)).mono ?_; rintro e w12 ⟨rfl, rfl⟩))
                  | ((with_reducible refine And.intro ?_ ?_); (focus (exact HSB.out))))
                                                        | (with_reducible refine mix_nil ?_)
                                                        | ((with_reducible refine mixS_on ?_ ?_); (focus rfl); intro K K' hK hK'; go_simp; (first | ((with_reducible refine hK _ _ ?_); clear hK hK' K K') | ((with_reducible refine hK' _ _ ?_); clear hK hK' K K') | skip))
                                                        | ((with_reducible refine mixS_off ?_ ?_); (focus rfl); intro K hK; go_simp; (first | ((with_reducible refine hK _ _ ?_); clear hK K) | skip))
                                                        | ((with_reducible refine mixS_step ?_); intro K K' hK hK'; go_simp; (first | ((with_reducible refine hK _ _ ?_); clear hK hK' K K') | ((with_reducible refine hK' _ _ ?_); clear hK hK' K K') | skip))))
                have HE9 := hid (HE8.out.below HSB.out)
                go_wp2_with fail
                go_roundw
                case rel => exact ⟨k + 1, _, _, _, _, by omega, by go_num, HE9.out, HP5.out⟩
                case measure => simp [intOf]; omega
              · have hz1 : x.ln = 0 := by omega
                rw [hz1] at c0
                go_upto_region 30 with (first
                  | (go_at_call 12; (refine (len_tb HE8.out.e.tb).mono ?_; rintro e w9 ⟨rfl, rfl⟩)))
                have HSB := hid (show Below wr.heap.size wr wr.drew from (Below.refl _ _).drew)
                clear c0
                (refine wp_mixC (Below wr.heap.size wr) ?_ ?_ (HSB.out) ?_; (focus kernel_rfl); (focus kernel_rfl); intro KK hKK; go_wp2_with (first
                                                        | (first
                  | ((with_reducible refine And.intro ?_ ?_); (focus (exact HSB.out))))
                                                        | (with_reducible refine mix_nil ?_)
                                                        | ((with_reducible refine mixS_on ?_ ?_); (focus rfl); intro K K' hK hK'; go_simp; (first | ((with_reducible refine hK _ _ ?_); clear hK hK' K K') | ((with_reducible refine hK' _ _ ?_); clear hK hK' K K') | skip))
                                                        | ((with_reducible refine mixS_off ?_ ?_); (focus rfl); intro K hK; go_simp; (first | ((with_reducible refine hK _ _ ?_); clear hK K) | skip))
                                                        | ((with_reducible refine mixS_step ?_); intro K K' hK hK'; go_simp; (first | ((with_reducible refine hK _ _ ?_); clear hK hK' K K') | ((with_reducible refine hK' _ _ ?_); clear hK hK' K K') | skip))))
                have HE9 := hid (HE8.out.below HSB.out)
                go_wp2_with fail
                go_roundw
                case rel => exact ⟨k + 1, _, _, _, _, by omega, by go_num, HE9.out, HP5.out⟩
                case measure => simp [intOf]; omega
    · obtain rfl : k = n := by omega
      go_wp2_with (go_at_call 8; go_must (refine (first9_any _).mono ?_; rintro e w5 ⟨rfl, hb5⟩; have HB5 := hid (HE.out.out.trans (hb5.mono HE.out.out.size)); clear hb5))
      go_ret
      exact ⟨rfl, HB5.out⟩
end Go.Proofs.YtjeocmglcgnclaaDoor
