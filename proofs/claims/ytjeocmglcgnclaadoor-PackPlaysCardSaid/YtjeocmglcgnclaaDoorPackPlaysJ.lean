/- The law PackPlays walked. No condition but the rows' length. -/
import Derived.Test.YtjeocmglcgnclaaDoorFew9J
import Derived.Test.YtjeocmglcgnclaaDoorGk
import Derived.Test.YtjeocmglcgnclaaDoorREncEJ
import Derived.Test.YtjeocmglcgnclaaDoorSame8J
import Derived.Test.YtjeocmglcgnclaaDoorGa
namespace Go.Proofs.YtjeocmglcgnclaaDoor
open Go.RowKit
attribute [local go_sem] kd kdS if_min if_max if_minN if_maxN

/-- An encoder and the reference's, none of their blocks shared. -/
structure ER (w wr : World) (ga ta gb tb : Nat) (ma oa ea : Int) (la : List Fd) (mb ob eb : Int) (sb : Bool) (lb : List Fd) (Ba Bb : Nat) (Fa Fb : List Nat) : Prop where
  a : EncAt wr Ba Fa ga ta ma oa ea la
  b : REnc wr Bb Fb gb tb mb ob eb sb lb
  off : ∀ k ∈ ga :: Fa, k ∉ gb :: Fb
  out : Below w.heap.size w wr
  wa : w.heap.size ≤ Ba
  wb : w.heap.size ≤ Bb
section
variable {w wr w' : World} {ga ta gb tb : Nat} {ma oa ea : Int} {la : List Fd} {mb ob eb : Int} {sb : Bool} {lb : List Fd} {ma' oa' ea' : Int} {la' : List Fd} {mb' ob' eb' : Int} {sb' : Bool} {lb' : List Fd} {Ba Bb : Nat} {Fa Fb Fa' Fb' : List Nat}
theorem ER.below (h : ER w wr ga ta gb tb ma oa ea la mb ob eb sb lb Ba Bb Fa Fb) (hb : Below wr.heap.size wr w') : ER w w' ga ta gb tb ma oa ea la mb ob eb sb lb Ba Bb Fa Fb :=
  ⟨h.a.below hb, h.b.below hb, h.off, h.out.trans (hb.mono h.out.size), h.wa, h.wb⟩
theorem ER.hA (h : ER w wr ga ta gb tb ma oa ea la mb ob eb sb lb Ba Bb Fa Fb) : Ba ≤ wr.heap.size := by
  have := h.a.ge_ ga (by simp)
  omega
theorem ER.hB (h : ER w wr ga ta gb tb ma oa ea la mb ob eb sb lb Ba Bb Fa Fb) : Bb ≤ wr.heap.size := by
  have := h.b.ge_ gb (by simp)
  omega
theorem ER.setA (h : ER w wr ga ta gb tb ma oa ea la mb ob eb sb lb Ba Bb Fa Fb) (he : EncAt w' Ba Fa' ga ta ma' oa' ea' la') (ht : Turned (ga :: Fa) wr w') (hk : ∀ k ∈ Fa', k ∈ Fa ∨ wr.heap.size ≤ k) : ER w w' ga ta gb tb ma' oa' ea' la' mb ob eb sb lb Ba Bb Fa' Fb := by
  refine ⟨he, h.b.turned ht (fun k hk hm => h.off k hm hk), fun k hm hn => ?_, h.out.trans (ht.below (fun b hb => Nat.le_trans h.wa (h.a.ge_ b hb).1) h.out.size), h.wa, h.wb⟩
  rcases List.mem_cons.1 hm with rfl | hm
  · exact h.off _ (by simp) hn
  · rcases hk k hm with h1 | h1
    · exact h.off k (by simp [h1]) hn
    · have := (h.b.ge_ k hn).2
      omega
theorem ER.setB (h : ER w wr ga ta gb tb ma oa ea la mb ob eb sb lb Ba Bb Fa Fb) (he : REnc w' Bb Fb' gb tb mb' ob' eb' sb' lb') (ht : Turned (gb :: Fb) wr w') (hk : ∀ k ∈ Fb', k ∈ Fb ∨ wr.heap.size ≤ k) : ER w w' ga ta gb tb ma oa ea la mb' ob' eb' sb' lb' Ba Bb Fa Fb' := by
  refine ⟨h.a.turned ht (fun k hk hm => h.off k hk hm), he, fun k hm hn => ?_, h.out.trans (ht.below (fun b hb => Nat.le_trans h.wb (h.b.ge_ b hb).1) h.out.size), h.wa, h.wb⟩
  rcases List.mem_cons.1 hn with rfl | hn
  · exact h.off _ hm (by simp)
  · rcases hk k hn with h1 | h1
    · exact h.off k hm (by simp [h1])
    · have := (h.a.ge_ k hm).2
      omega
/-- A row that came in lies off both's blocks. -/
theorem ER.offA (h : ER w wr ga ta gb tb ma oa ea la mb ob eb sb lb Ba Bb Fa Fb) {A : Option Addr} {n : Nat} {l : List Fd} (hl : Fs w A n l) : 0 < n → Off A (ga :: Fa) := fun hn ad e hm => by
  obtain ⟨b, o, f, ha, _, c0, _⟩ := hl.at_ hn
  rw [ha] at e
  injection e with e
  subst e
  have h1 := cell_lt c0
  have h2 := (h.a.ge_ _ hm).1
  have h3 := h.wa
  dsimp only at h1 h2
  omega
theorem ER.offB (h : ER w wr ga ta gb tb ma oa ea la mb ob eb sb lb Ba Bb Fa Fb) {A : Option Addr} {n : Nat} {l : List Fd} (hl : Fs w A n l) : 0 < n → Off A (gb :: Fb) := fun hn ad e hm => by
  obtain ⟨b, o, f, ha, _, c0, _⟩ := hl.at_ hn
  rw [ha] at e
  injection e with e
  subst e
  have h1 := cell_lt c0
  have h2 := (h.b.ge_ _ hm).1
  have h3 := h.wb
  dsimp only at h1 h2
  omega
end
theorem least_peer (least : Int) (set : Bool) (z : Int) : min (leastE least set) (peerN z) = leastE (leastR least (peerN z) set) true := by
  have hp := peerN_le z
  have e : leastE (leastR least (peerN z) set) true = leastR least (peerN z) set := rfl
  rw [e]
  unfold leastR
  rcases set with _ | _
  · rw [if_pos (.inl rfl)]
    have : leastE least false = 4096 := rfl
    omega
  · have e2 : leastE least true = least := rfl
    rw [e2]
    by_cases h : peerN z < least
    · rw [if_pos (.inr h)]
      omega
    · rw [if_neg (by rintro (h1 | h1); exact Bool.noConfusion h1; exact h h1)]
      omega

set_option maxHeartbeats 4000000 in
set_option maxRecDepth 100000 in
theorem pplays_walk (A : Option Addr) (n c : Nat) (os : List Op9) (w : World) (hs : Os9 w A n os) (hn : n ≤ 140737488355328) :
    Calls Tryd.prog 5 #[.slice A n c] w fun e w' => e = .returned (.bool true) ∧ Below w.heap.size w w' := by
  have HS := hid hs
  have HLN := hid hs.len
  clear hs
  go_enter Tryd.func5, Tryd.ntmps5
  go_wp2_with fail
  refine (first9_any w).mono ?_
  rintro e w1 ⟨rfl, hb1⟩
  have HB1 := hid hb1
  clear hb1
  go_wp2_with fail
  refine (encNew_any w1).mono ?_
  rintro e w2 ⟨Fa, ga, ta, rfl, h2, hb2⟩
  have H2 := hid h2
  have HB2 := hid hb2
  clear h2 hb2
  go_wp2_with fail
  refine (rencNew_any w2).mono ?_
  rintro e w3 ⟨Fb, gb, tb, rfl, h3, hb3⟩
  have HI := hid (show ER w w3 ga ta gb tb 4096 4096 (leastE 0 false) [] 4096 4096 0 false [] w1.heap.size w2.heap.size Fa Fb from ⟨H2.out.below hb3, h3, fun q hq hm => by have := (H2.out.ge_ q hq).2; have := (h3.ge_ q hm).1; omega, (HB1.out.trans (HB2.out.mono HB1.out.size)).trans (hb3.mono (Nat.le_trans HB1.out.size HB2.out.size)), HB1.out.size, Nat.le_trans HB1.out.size HB2.out.size⟩)
  clear h3 hb3 H2 HB2 HB1
  generalize w1.heap.size = Ba at HI
  generalize w2.heap.size = Bb at HI
  go_wp2_with fail
  refine (few9_any A n c os w3 (HS.out.below HI.out.out) hn).mono ?_
  rintro e w4 ⟨q, rfl, hq, hb4⟩
  have HI4 := hid (HI.out.below hb4)
  clear hb4 HI
  rcases q with _ | _
  · clear hq
    go_wp2_with (go_at_call 8; go_must (refine (first9_any _).mono ?_; rintro e w5 ⟨rfl, hb5⟩; have HB5 := hid (HI4.out.out.trans (hb5.mono HI4.out.out.size)); clear hb5))
    go_ret
    exact ⟨rfl, HB5.out⟩
  have HF := hid (hq rfl)
  clear hq
  go_wp2_with fail
  go_loopw [5] (fun i wr => ∃ (k : Nat) (most told least : Int) (set : Bool) (L : List Fd) (Fa Fb : List Nat), k ≤ n ∧ i = .int .i64 k ∧ ER w wr ga ta gb tb most told (leastE least set) L most told least set L Ba Bb Fa Fb ∧ (set = false → most = told)) (fun i _ => n - (intOf i).toNat)
  case atStart => exact ⟨0, _, _, 0, false, _, _, _, Nat.zero_le _, rfl, HI4.out, fun _ => rfl⟩
  case round =>
    obtain ⟨k, most, told, least, set, L, Fa, Fb, hk, rfl, hE, hst⟩ := hrel
    have HE := hid hE
    have HST := hid hst
    clear hE hst HI4
    by_cases hlt : k < n
    · obtain ⟨b, o, rfl, hc⟩ := HS.out.at_ (by omega)
      obtain ⟨x, hx⟩ : ∃ x, os[k]? = some x := ⟨os[k]'(by rw [HLN.out]; omega), List.getElem?_eq_getElem _⟩
      have HC := hid (hc k x hx)
      have HXM := hid (List.mem_of_getElem? hx)
      have hbd := HS.out.body x HXM.out
      have HLI := hid hbd.1
      have HFS := hid hbd.2
      have hfl := hbd.2.len
      have hll : x.ls.length = x.ln := by have := hbd.1.1; simpa using this
      have hea := HF.out.each x HXM.out
      have hfn : x.fn ≤ 200 := by omega
      have hln : x.ln ≤ 50 := by omega
      have HLL := hid hll
      clear hc hx hbd hfl hea hll
      go_wp2_with fail
      go_loopw [6] (fun j wv => ∃ (k2 : Nat) (most2 told2 least2 : Int) (set2 : Bool) (L2 : List Fd) (Fa2 Fb2 : List Nat), k2 ≤ x.ln ∧ j = .int .i64 k2 ∧ ER w wv ga ta gb tb most2 told2 (leastE least2 set2) L2 most2 told2 least2 set2 L2 Ba Bb Fa2 Fb2 ∧ (set2 = false → most2 = told2)) (fun j _ => x.ln - (intOf j).toNat)
      case atStart => exact ⟨0, _, _, _, _, _, _, _, Nat.zero_le _, rfl, HE.out, HST.out⟩
      case round =>
        obtain ⟨k2, most2, told2, least2, set2, L2, Fa2, Fb2, hk2, rfl, hE2, hst2⟩ := hrel
        have HE2 := hid hE2
        have HST2 := hid hst2
        have c0 := below_keep hE2.out _ _ HC.out.1
        have c1 := below_keep hE2.out _ _ HC.out.2
        clear hE2 hst2 HE HST
        by_cases hlt2 : k2 < x.ln
        · obtain ⟨bl, ol, hlA, hlc⟩ := HLI.out.2 (by omega)
          obtain ⟨z, hz⟩ : ∃ z, x.ls[k2]? = some z := ⟨x.ls[k2]'(by rw [HLL.out]; omega), List.getElem?_eq_getElem _⟩
          have HZC := hid (hlc k2 (.int .i64 z) (by rw [List.getElem?_map, hz]; rfl))
          have hzc := below_keep HE2.out.out _ _ HZC.out
          rw [hlA] at c0
          have HLA := hid hlA
          clear hlc hz hlA
          go_wp2_with fail
          refine (peer_any z Ba Fa2 ga ta most2 told2 (leastE least2 set2) L2 _ HE2.out.a HE2.out.hA).mono ?_
          rintro e w5 ⟨F5, rfl, h5, ht5, hk5⟩
          have HE5 := hid (HE2.out.setA h5 ht5 hk5)
          clear h5 ht5 hk5 c0 c1 hzc
          have c0 := below_keep HE5.out.out _ _ HC.out.1
          have c1 := below_keep HE5.out.out _ _ HC.out.2
          have hzc := below_keep HE5.out.out _ _ HZC.out
          rw [HLA.out] at c0
          go_wp2_with fail
          refine (rpeer_any z Bb Fb2 gb tb most2 told2 least2 set2 L2 w5 HE5.out.b HE5.out.hB).mono ?_
          rintro e w6 ⟨F6, rfl, h6, ht6, hk6⟩
          have HE6 := hid (HE5.out.setB h6 ht6 hk6)
          rw [least_peer] at HE6
          clear h6 ht6 hk6 c0 c1 hzc
          go_wp2_with fail
          go_roundw
          case rel => exact ⟨k2 + 1, _, _, _, _, _, _, _, by omega, by go_num, HE6.out, (fun h => by cases h)⟩
          case measure => simp [intOf]; omega
        · obtain rfl : k2 = x.ln := by omega
          clear hlt2
          go_wp2_with fail
          refine (encode_anyZ Ba Fa2 ga ta most2 told2 (leastE least2 set2) L2 x.fA x.fn x.fc x.fs _ HE2.out.a (Rd.below HFS.out HE2.out.out) (HE2.out.offA HFS.out) (by omega) HE2.out.hA).mono ?_
          intro e w5 hp
          clear c0 c1
          have HLD := hid (show ∀ w', Below w.heap.size w w' → w'.cell? ⟨b, o + k * 2, none⟩ = some (.slice x.lA x.ln x.lc) ∧ w'.cell? ⟨b, o + k * 2 + 1, none⟩ = some (.slice x.fA x.fn x.fc) from fun w' hw => ⟨below_keep hw _ _ HC.out.1, below_keep hw _ _ HC.out.2⟩)
          by_cases hlong : x.fs.any longF = true
          · unfold EncodePost at hp
            rw [if_pos hlong] at hp
            obtain ⟨rfl, hb5⟩ := hp
            have HE5 := hid (HE2.out.below hb5)
            have HLONG := hid hlong
            obtain ⟨c0, c1⟩ := HLD.out w5 HE5.out.out
            clear hb5 hlong HE2
            go_wp2_with fail
            refine (rencode_any Bb Fb2 gb tb most2 told2 least2 set2 L2 x.fA x.fn x.fc x.fs _ HE5.out.b HST2.out (Rd.below HFS.out HE5.out.out) (HE5.out.offB HFS.out) (by omega)).mono ?_
            intro e w6 hp
            unfold REncodePost at hp
            rw [if_pos HLONG.out] at hp
            obtain ⟨rfl, hb6⟩ := hp
            have HE6 := hid (HE5.out.below hb6)
            clear hb6 HE5 c0 c1
            have L0 : Hid (∀ w', Below w6.heap.size w6 w' → (Instr.loadAt 48 (.pointer (some ⟨gb, 0, none⟩))).run Tryd.prog w' = .ok (.pointer (some ⟨tb, 0, none⟩)) w') := hid fun w' hw => by
              have z := (HE6.out.b.blk.below hw HE6.out.b.blk.lt).cell 0
              simp at z
              go_simp
            have HSB := hid (show Below w6.heap.size w6 w6.drew from (Below.refl _ _).drew)
            have hLl := HE6.out.a.ok.len
            go_upto_region 16 with fail
            (refine wp_mixC (Below w6.heap.size w6) ?_ ?_ (HSB.out) ?_; (focus kernel_rfl); (focus kernel_rfl); intro KK hKK; go_wp2_with (first
                                                    | (first
              | ((with_reducible refine mixS_load L0.out ?_ ?_ ?_); (focus rfl); (focus rfl))
              | (go_at_call 19; go_must (refine (same_bytes none none 0 0 0 0 [] [] _ (Bs.nil _ _) (Bs.nil _ _)).mono ?_; rintro e w7 ⟨rfl, rfl⟩))
              | (go_at_call 10; go_must (refine (encTable_any Ba Fa2 ga ta _ _ _ _ _ (HE6.out.a.below HSB.out)).mono ?_; rintro e w7 ⟨rfl, rfl⟩))
              | (go_at_call 20; go_must (refine (same8_any (HE6.out.a.below HSB.out).tb (HE6.out.b.below HSB.out).tb hLl).mono ?_; rintro e w8 ⟨rfl, hb8⟩; have HSB := hid (HSB.out.trans (hb8.mono HSB.out.size)); clear hb8))
              | ((with_reducible refine And.intro ?_ ?_); (focus (exact HSB.out))))
                                                    | (with_reducible refine mix_nil ?_)
                                                    | ((with_reducible refine mixS_on ?_ ?_); (focus rfl); intro K K' hK hK'; go_simp; (first | ((with_reducible refine hK _ _ ?_); clear hK hK' K K') | ((with_reducible refine hK' _ _ ?_); clear hK hK' K K') | skip))
                                                    | ((with_reducible refine mixS_off ?_ ?_); (focus rfl); intro K hK; go_simp; (first | ((with_reducible refine hK _ _ ?_); clear hK K) | skip))
                                                    | ((with_reducible refine mixS_step ?_); intro K K' hK hK'; go_simp; (first | ((with_reducible refine hK _ _ ?_); clear hK hK' K K') | ((with_reducible refine hK' _ _ ?_); clear hK hK' K K') | skip))))
            go_wp2_with fail
            go_roundw
            case rel => exact ⟨k + 1, _, _, _, _, _, _, _, by omega, by go_num, HE6.out.below HSB.out, HST2.out⟩
            case measure => simp [intOf]; omega
          have hl2 : x.fs.any longF = false := by simpa using hlong
          obtain ⟨A5, m5, c5, F5, rfl, hq⟩ := encode_ok hl2 hp
          have HE5 := hid (HE2.out.setA hq.enc hq.turn_ hq.kf)
          have HQ5 := hid hq.row
          have HL2 := hid hl2
          have HGB := hid (fun q hq => (HE2.out.b.ge_ q hq).2)
          have HW2 := hid (HE2.out.out.size)
          obtain ⟨c0, c1⟩ := HLD.out w5 HE5.out.out
          clear hq hp hlong hl2 HE2
          go_wp2_with fail
          refine (rencode_any Bb Fb2 gb tb most2 told2 least2 set2 L2 x.fA x.fn x.fc x.fs _ HE5.out.b HST2.out (Rd.below HFS.out HE5.out.out) (HE5.out.offB HFS.out) (by omega)).mono ?_
          intro e w6 hp
          unfold REncodePost at hp
          rw [if_neg (by rw [HL2.out]; simp)] at hp
          obtain ⟨A6, m6, c6, F6, rfl, hq⟩ := hp
          have HE6 := hid (HE5.out.setB hq.enc hq.tn hq.kf)
          have HQ6 := hid (Bs.of_own hq.row)
          have HQ5b := hid (Bs.of_own (own_turned HQ5.out hq.tn (fun q hq hm => by have h1 := (own_row_lt HQ5.out q hq).1; have h2 := HGB.out q hm; omega)))
          clear hq HE5 HQ5 c0 c1 HGB
          obtain ⟨r, hr⟩ : ∃ r, blockP most2 told2 (leastE least2 set2) L2 x.fs = r := ⟨_, rfl⟩
          rw [hr] at HE6 HQ6 HQ5b
          clear hr
          obtain ⟨o1, L1⟩ := r
          dsimp only at HE6 HQ6 HQ5b
          have L0 : Hid (∀ w', Below w6.heap.size w6 w' → (Instr.loadAt 48 (.pointer (some ⟨gb, 0, none⟩))).run Tryd.prog w' = .ok (.pointer (some ⟨tb, 0, none⟩)) w') := hid fun w' hw => by
            have z := (HE6.out.b.blk.below hw HE6.out.b.blk.lt).cell 0
            simp at z
            go_simp
          have HSB := hid (show Below w6.heap.size w6 w6.drew from (Below.refl _ _).drew)
          have hLl := HE6.out.a.ok.len
          have hoo : (o1 == o1) = true := by simp
          go_upto_region 16 with fail
          (refine wp_mixC (Below w6.heap.size w6) ?_ ?_ (HSB.out) ?_; (focus kernel_rfl); (focus kernel_rfl); intro KK hKK; go_wp2_with (first
                                                  | (first
            | ((with_reducible refine mixS_load L0.out ?_ ?_ ?_); (focus rfl); (focus rfl))
            | (go_at_call 19; go_must (refine (same_bytes A5 A6 m5 c5 m6 c6 o1 o1 _ (HQ5b.out.below HSB.out) (HQ6.out.below HSB.out)).mono ?_; rintro e w7 ⟨rfl, rfl⟩))
            | (go_at_call 10; go_must (refine (encTable_any Ba F5 ga ta _ _ _ _ _ (HE6.out.a.below HSB.out)).mono ?_; rintro e w7 ⟨rfl, rfl⟩))
            | (go_at_call 20; go_must (refine (same8_any (HE6.out.a.below HSB.out).tb (HE6.out.b.below HSB.out).tb hLl).mono ?_; rintro e w8 ⟨rfl, hb8⟩; have HSB := hid (HSB.out.trans (hb8.mono HSB.out.size)); clear hb8))
            | ((with_reducible refine And.intro ?_ ?_); (focus (exact HSB.out))))
                                                  | (with_reducible refine mix_nil ?_)
                                                  | ((with_reducible refine mixS_on ?_ ?_); (focus rfl); intro K K' hK hK'; go_simp; (first | ((with_reducible refine hK _ _ ?_); clear hK hK' K K') | ((with_reducible refine hK' _ _ ?_); clear hK hK' K K') | skip))
                                                  | ((with_reducible refine mixS_off ?_ ?_); (focus rfl); intro K hK; go_simp; (first | ((with_reducible refine hK _ _ ?_); clear hK K) | skip))
                                                  | ((with_reducible refine mixS_step ?_); intro K K' hK hK'; go_simp; (first | ((with_reducible refine hK _ _ ?_); clear hK hK' K K') | ((with_reducible refine hK' _ _ ?_); clear hK hK' K K') | skip))))
          go_wp2_with fail
          go_roundw
          case rel => exact ⟨k + 1, _, _, least2, false, _, _, _, by omega, by go_num, HE6.out.below HSB.out, fun _ => rfl⟩
          case measure => simp [intOf]; omega
    · obtain rfl : k = n := by omega
      go_wp2_with (go_at_call 8; go_must (refine (first9_any _).mono ?_; rintro e w5 ⟨rfl, hb5⟩; have HB5 := hid (HE.out.out.trans (hb5.mono HE.out.out.size)); clear hb5))
      go_ret
      exact ⟨rfl, HB5.out⟩
end Go.Proofs.YtjeocmglcgnclaaDoor
