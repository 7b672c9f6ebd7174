/- The law UnpackPlays walked. No condition but the rows' length. -/
import Derived.Test.YtdiejemhhcaicaaDoorRwsJ
import Derived.Test.YtdiejemhhcaicaaDoorExactJ
import Derived.Test.YtdiejemhhcaicaaDoorUnpTwoJ
import Derived.Test.YtdiejemhhcaicaaDoorGu
import Derived.Test.YtdiejemhhcaicaaDoorRDecodeJ
import Derived.Test.YtdiejemhhcaicaaDoorSame8J
namespace Go.Proofs.YtdiejemhhcaicaaDoor
open Go.RowKit
attribute [local go_sem] kd kdS if_min if_max if_minN if_maxN

/-- A decoder and the reference's, none of their blocks shared. -/
structure TR (w wr : World) (ga ta gb tb : Nat) (da : Bool) (ma : Int) (la : List Fd) (db : Bool) (mb : Int) (lb : List Fd) (Ba Bb : Nat) (Fa Fb : List Nat) : Prop where
  a : DecAt wr Ba Fa ga ta da ma la
  b : RDec wr Bb Fb gb tb db mb lb
  off : ∀ k ∈ ga :: Fa, k ∉ gb :: Fb
  out : Below w.heap.size w wr
  wa : w.heap.size ≤ Ba
  wb : w.heap.size ≤ Bb
section
variable {w wr w' : World} {ga ta gb tb : Nat} {da : Bool} {ma : Int} {la : List Fd} {db : Bool} {mb : Int} {lb : List Fd} {Ba Bb : Nat} {Fa Fb : List Nat} {e : Ending} {bs : List UInt8} {room : Int}
theorem TR.below (h : TR w wr ga ta gb tb da ma la db mb lb Ba Bb Fa Fb) (hb : Below wr.heap.size wr w') : TR w w' ga ta gb tb da ma la db mb lb Ba Bb Fa Fb :=
  ⟨h.a.below hb, h.b.below hb, h.off, h.out.trans (hb.mono h.out.size), h.wa, h.wb⟩
theorem TR.lt (h : TR w wr ga ta gb tb da ma la db mb lb Ba Bb Fa Fb) : ∀ k ∈ gb :: Fb, k < wr.heap.size := fun k hk => (h.b.ge_ k hk).2
theorem TR.decA (h : TR w wr ga ta gb tb da ma la db mb lb Ba Bb Fa Fb) (hp : DecodePost bs room Ba Fa ga ta da ma la wr e w') :
    ∃ A' n' c' F', e = .returned (.tuple #[.slice A' n' c', .int .i64 (decO bs room da ma la).2]) ∧ w'.ownsRow wr.heap.size 31 3 (.slice A' n' c') n' (flat (decO bs room da ma la).1) ∧
      TR w w' ga ta gb tb (decT bs da ma la).1 (decT bs da ma la).2.1 (decT bs da ma la).2.2 db mb lb Ba Bb F' Fb := by
  obtain ⟨A', n', c', F', he, ho, hd, ht, hk, hr⟩ := hp
  refine ⟨A', n', c', F', he, ho, ⟨hd, h.b.turned ht (fun k hk hm => h.off k hm hk), fun k hm hn => ?_, h.out.trans (ht.below (fun b hb => Nat.le_trans h.wa (h.a.ge_ b hb).1) h.out.size), h.wa, h.wb⟩⟩
  rcases List.mem_cons.1 hm with rfl | hm
  · exact h.off _ (by simp) hn
  · rcases hk k hm with h1 | h1
    · exact h.off k (by simp [h1]) hn
    · have := h.lt k hn
      omega
theorem TR.decB (h : TR w wr ga ta gb tb da ma la db mb lb Ba Bb Fa Fb) (hp : RDecodePost bs room Bb Fb gb tb db mb lb wr e w') :
    ∃ A' n' c' F' m' l', e = .returned (.tuple #[.slice A' n' c', .int .i64 (decO bs room db mb lb).2]) ∧ Fs w' A' n' (decO bs room db mb lb).1 ∧
      TR w w' ga ta gb tb da ma la (decT bs db mb lb).1 m' l' Ba Bb Fa F' ∧ ((decT bs db mb lb).1 = false → m' = (decT bs db mb lb).2.1 ∧ l' = (decT bs db mb lb).2.2) ∧ Turned (gb :: Fb) wr w' := by
  obtain ⟨A', n', c', F', m', l', he, ho, hd, hm⟩ := hp
  refine ⟨A', n', c', F', m', l', he, ho, ⟨h.a.turned hd.tn (fun k hk hm => h.off k hk hm), hd.dec, fun k hm hn => ?_, h.out.trans (hd.tn.below (fun b hb => Nat.le_trans h.wb (h.b.ge_ b hb).1) h.out.size), h.wa, h.wb⟩, hm, hd.tn⟩
  rcases List.mem_cons.1 hn with rfl | hn
  · exact h.off _ hm (by simp)
  · rcases hd.kf k hn with h1 | h1
    · exact h.off k hm (by simp [h1])
    · have := (h.a.ge_ k hm).2
      omega
/-- A row that came in lies off the reference's blocks. -/
theorem TR.row_off (h : TR w wr ga ta gb tb da ma la db mb lb Ba Bb Fa Fb) {A : Option Addr} {n : Nat} {l : List UInt8} (hl : Bs w A n l) : 0 < n → Off A (gb :: Fb) := fun hn ad e hm => by
  obtain ⟨b, o, x, ha, _, c0⟩ := hl.at_ hn
  rw [ha] at e
  injection e with e
  subst e
  have h1 := cell_lt c0
  have h2 := (h.b.ge_ _ hm).1
  have h3 := h.wb
  dsimp only at h1 h2
  omega
end
theorem decO_len (bs : List UInt8) (room : Int) (dead : Bool) (most : Int) (L : List Fd) (hb : bs.length ≤ 20000) (hL : TabOk most L) : (decO bs room dead most L).1.length ≤ 700000000 := by
  rcases four_ways bs room dead most L hb hL with ⟨_, h, _⟩ | ⟨_, h, _⟩ | ⟨l, _, _, _, _, h, _⟩ | ⟨l, _, _, _, h1, h, _⟩
  · rw [h]; simp
  · rw [h]; simp
  · rw [h]; simp
  · rw [h]; exact h1

set_option maxHeartbeats 4000000 in
set_option maxRecDepth 100000 in
theorem uplays_walk (A : Option Addr) (n c : Nat) (rs : List Row) (room : Int) (w : World) (hs : Rws w A n rs) (hn : n ≤ 140737488355328) :
    Calls Tryd.prog 5 #[.slice A n c, .int .i64 room] w fun e w' => e = .returned (.bool true) ∧ Below w.heap.size w w' := by
  have HS := hid hs
  have HLN := hid hs.len
  clear hs
  go_enter Tryd.func5, Tryd.ntmps5
  go_wp2_with fail
  refine (first8_any w).mono ?_
  rintro e w1 ⟨rfl, hb1⟩
  have HB1 := hid hb1
  clear hb1
  have HS1 := hid (HS.out.below HB1.out)
  go_wp2_with fail
  go_loop [5, 6] (fun s i => ∃ k : Nat, k ≤ n ∧ k ≤ 50 ∧ i = .int .i64 k ∧ s = .int .i64 (rowSum rs k)) (fun _ i => 50 - (intOf i).toNat)
  case atStart => exact ⟨0, Nat.zero_le _, by omega, rfl, rfl⟩
  case round =>
    obtain ⟨k, hk, hk1, rfl, rfl⟩ := hrel
    have hsl := rowSum_le rs k
    by_cases hkn : k < n ∧ k < 50
    · obtain ⟨hk2, hk3⟩ := hkn
      obtain ⟨b, o, rfl, hc⟩ := HS1.out.at_ (by omega)
      obtain ⟨x, hx⟩ : ∃ x, rs[k]? = some x := ⟨rs[k]'(by rw [HLN.out]; omega), List.getElem?_eq_getElem _⟩
      have hcx := hc k x hx
      have hrs := rowSum_succ hx
      obtain ⟨q, hq⟩ : ∃ q : Nat, min (x.n : Int) 20001 = q := ⟨min x.n 20001, by omega⟩
      have hrq : rowSum rs (k + 1) = rowSum rs k + q := by rw [hrs]; omega
      have HRQ := hid hrq
      clear hc hx hrs hrq
      go_wp2_with fail
      go_round
      case rel => exact ⟨k + 1, by omega, by omega, by go_num, by rw [HRQ.out]; go_num⟩
      case measure => simp [intOf]; omega
    · have hend : n ≤ k ∨ 50 ≤ k := by omega
      clear hkn
      by_cases hkn : k < n
      · have hk100 : k = 50 := by omega
        subst hk100
        go_wp2_with (go_at_call 8; go_must (refine (first8_any _).mono ?_; rintro e w3 ⟨rfl, hb3⟩; have HB3 := hid (HB1.out.trans (hb3.mono HB1.out.size)); clear hb3))
        go_ret
        exact ⟨rfl, HB3.out⟩
      · obtain rfl : k = n := by omega
        by_cases hbig : 20000 < rowSum rs k
        · have hbg : (20000 : Int) < (rowSum rs k : Nat) := by omega
          go_wp2_with (go_at_call 8; go_must (refine (first8_any _).mono ?_; rintro e w3 ⟨rfl, hb3⟩; have HB3 := hid (HB1.out.trans (hb3.mono HB1.out.size)); clear hb3))
          go_ret
          exact ⟨rfl, HB3.out⟩
        have hbg : ((rowSum rs k : Nat) : Int) ≤ 20000 := by omega
        go_wp2_with fail
        refine (decNew_any w1).mono ?_
        rintro e w2 ⟨Fa, ga, ta, rfl, h2, hb2⟩
        have H2 := hid h2
        have HB2 := hid hb2
        clear h2 hb2
        go_wp2_with fail
        refine (rdecNew_any w2).mono ?_
        rintro e w3 ⟨Fb, gb, tb, rfl, h3, hb3⟩
        have HI := hid (show TR w w3 ga ta gb tb false 4096 [] false 4096 [] w1.heap.size w2.heap.size Fa Fb from ⟨H2.out.below hb3, h3, fun q hq hm => by have := (H2.out.ge_ q hq).2; have := (h3.ge_ q hm).1; omega, (HB1.out.trans (HB2.out.mono HB1.out.size)).trans (hb3.mono (Nat.le_trans HB1.out.size HB2.out.size)), HB1.out.size, Nat.le_trans HB1.out.size HB2.out.size⟩)
        clear h3 hb3 H2 HB2 HS1 HB1
        generalize w1.heap.size = Ba at HI
        generalize w2.heap.size = Bb at HI
        go_wp2_with fail
        go_loopw [9] (fun i wr => ∃ (k2 : Nat) (dead : Bool) (most : Int) (L : List Fd) (mb : Int) (lb : List Fd) (Fa Fb : List Nat), k2 ≤ k ∧ i = .int .i64 k2 ∧ TR w wr ga ta gb tb dead most L dead mb lb Ba Bb Fa Fb ∧ (dead = false → mb = most ∧ lb = L)) (fun i _ => k - (intOf i).toNat)
        case atStart => exact ⟨0, _, _, _, _, _, _, _, Nat.zero_le _, rfl, HI.out, fun _ => ⟨rfl, rfl⟩⟩
        case round =>
          obtain ⟨k2, dead, most, L, mb, lb, Fa, Fb, hk2, rfl, hinv, halike⟩ := hrel
          have HT := hid hinv
          have HLIKE := hid halike
          clear hinv HI halike
          have hmn := rowSum_mono rs hk2
          by_cases hkn2 : k2 < k
          · obtain ⟨b, o, rfl, hc⟩ := HS.out.at_ (by omega)
            obtain ⟨x, hx⟩ : ∃ x, rs[k2]? = some x := ⟨rs[k2]'(by rw [HLN.out]; omega), List.getElem?_eq_getElem _⟩
            have HC := hid (hc k2 x hx)
            have hcx := below_keep HT.out.out _ _ HC.out
            have hrs := rowSum_succ hx
            have hmn2 := rowSum_mono rs (show k2 + 1 ≤ k by omega)
            obtain ⟨hbx, hbc⟩ := HS.out.body x (List.mem_of_getElem? hx)
            have HBX := hid hbx
            have HBC := hid hbc
            have hxn : x.n ≤ 20000 := by omega
            have HXL := hid (show x.l.length ≤ 20000 by have := hbx.len; omega)
            have HSAM : Hid (decO x.l room dead mb lb = decO x.l room dead most L ∧ (decT x.l dead mb lb).1 = (decT x.l dead most L).1 ∧ ((decT x.l dead most L).1 = false → (decT x.l dead mb lb).2 = (decT x.l dead most L).2)) := hid (by
              rcases dead with _ | _
              · obtain ⟨rfl, rfl⟩ := HLIKE.out rfl
                exact ⟨rfl, rfl, fun _ => rfl⟩
              · rw [(decO_dead x.l room mb lb).1, (decO_dead x.l room most L).1, (decO_dead x.l room mb lb).2, (decO_dead x.l room most L).2]
                exact ⟨rfl, rfl, fun h => by cases h⟩)
            clear hc hx hbx hrs hmn2 hbc
            go_wp2_with fail
            refine (decode_any room Ba Fa ga ta dead most L x.A x.n x.c x.l _ HT.out.a (HBX.out.below HT.out.out) (by omega)).mono ?_
            intro e w3 hp
            obtain ⟨A3, n3, c3, F3, rfl, ho3, hT3⟩ := HT.out.decA hp
            have HLT := hid HT.out.lt
            have HO3 := hid ho3
            have HT3 := hid hT3
            have HOK := hid HT.out.a.ok
            have hcx3 := below_keep hT3.out _ _ HC.out
            clear hp ho3 hT3 hcx
            go_wp2_with fail
            refine (rdecode_any room Bb Fb gb tb dead mb lb x.A x.n x.c x.l w3 HT3.out.b (HBX.out.below HT3.out.out) HBC.out (HT3.out.row_off HBX.out) (by omega)).mono ?_
            intro e w4 hp
            obtain ⟨A4, n4, c4, F4, m4, l4, rfl, hy4, hT4, hm4, ht4⟩ := HT3.out.decB hp
            have hx4 := row_kept HLT.out ht4 HO3.out
            have hlen4 := decO_len x.l room dead most L HXL.out HOK.out
            rw [HSAM.out.1] at hy4 ⊢
            rw [HSAM.out.2.1] at hT4 hm4
            have hm5 : (decT x.l dead most L).1 = false → m4 = (decT x.l dead most L).2.1 ∧ l4 = (decT x.l dead most L).2.2 := fun h => by
              have h1 := hm4 h
              rw [HSAM.out.2.2 h] at h1
              exact h1
            have HTL := hid hT4.a.ok
            clear hp ht4 hcx3 HT HT3 HO3 HLT HC HBX HSAM hm4 HLIKE HBC
            obtain ⟨d', hd'⟩ : ∃ d', decT x.l dead most L = d' := ⟨_, rfl⟩
            rw [hd'] at hT4 hm5 HTL
            clear hd'
            obtain ⟨d', m', L'⟩ := d'
            dsimp only at hT4 hm5 HTL
            obtain ⟨u, hu⟩ : ∃ u, decO x.l room dead most L = u := ⟨_, rfl⟩
            rw [hu] at hx4 hy4 hlen4 ⊢
            clear hu HOK HXL
            obtain ⟨xs, er⟩ := u
            dsimp only at hx4 hy4 hlen4 ⊢
            have HT4 := hid hT4
            have HX4 := hid hx4
            have HY4 := hid hy4
            have HM5 := hid hm5
            have hLl := HTL.out.len
            have L0 : Hid (∀ w', Below w4.heap.size w4 w' → (Instr.loadAt 39 (.pointer (some ⟨gb, 0, none⟩))).run Tryd.prog w' = .ok (.pointer (some ⟨tb, 0, none⟩)) w') := hid fun w' hw => by
              have z := (hT4.b.blk.below hw hT4.b.blk.lt).cell 0
              simp at z
              clear hT4 hm5
              go_simp
            have L1 : Hid (∀ w', Below w4.heap.size w4 w' → (Instr.loadAt 4 (.pointer (some ⟨gb, 1, none⟩))).run Tryd.prog w' = .ok (.bool d') w') := hid fun w' hw => by
              have z := (hT4.b.blk.below hw hT4.b.blk.lt).cell 1
              simp at z
              clear hT4 hm5
              go_simp
            have HSB := hid (show Below w4.heap.size w4 w4.drew from (Below.refl _ _).drew)
            clear hT4 hx4 hy4 hm5
            rcases d' with _ | _
            · obtain ⟨rfl, rfl⟩ := HM5.out rfl
              go_upto_region 18 with fail
              (refine wp_mixC (Below w4.heap.size w4) ?_ ?_ (HSB.out) ?_; (focus kernel_rfl); (focus kernel_rfl); intro KK hKK; go_wp2_with (first
                                                      | (first
                | ((with_reducible refine mixS_load L0.out ?_ ?_ ?_); (focus rfl); (focus rfl))
                | ((with_reducible refine mixS_load L1.out ?_ ?_ ?_); (focus rfl); (focus rfl))
                | (go_at_call 15; go_must (refine (exact_any A3 n3 c3 A4 n4 c4 xs _ (Rd.below HX4.out HSB.out) (Rd.below HY4.out HSB.out) (by have := HX4.out.len; omega)).mono ?_; rintro e w6 ⟨rfl, hb6⟩; have HSB := hid (HSB.out.trans (hb6.mono HSB.out.size)); clear hb6))
                | (go_at_call 12; go_must (refine (decDead_any _ F3 ga ta _ _ _ _ (HT4.out.a.below HSB.out)).mono ?_; rintro e w7 ⟨rfl, rfl⟩))
                | (go_at_call 17; go_must (refine (decTable_any _ F3 ga ta _ _ _ _ (HT4.out.a.below HSB.out)).mono ?_; rintro e w7 ⟨rfl, rfl⟩))
                | (go_at_call 16; go_must (refine (same8_any (HT4.out.a.below HSB.out).tb (HT4.out.b.below HSB.out).tb hLl).mono ?_; rintro e w8 ⟨rfl, hb8⟩; have HSB := hid (HSB.out.trans (hb8.mono HSB.out.size)); clear hb8))
                | ((with_reducible refine And.intro ?_ ?_); (focus (exact HSB.out))))
                                                      | (with_reducible refine mix_nil ?_)
                                                      | ((with_reducible refine mixS_on ?_ ?_); (focus rfl); intro K K' hK hK'; go_simp; (first | ((with_reducible refine hK _ _ ?_); clear hK hK' K K') | ((with_reducible refine hK' _ _ ?_); clear hK hK' K K') | skip))
                                                      | ((with_reducible refine mixS_off ?_ ?_); (focus rfl); intro K hK; go_simp; (first | ((with_reducible refine hK _ _ ?_); clear hK K) | skip))
                                                      | ((with_reducible refine mixS_step ?_); intro K K' hK hK'; go_simp; (first | ((with_reducible refine hK _ _ ?_); clear hK hK' K K') | ((with_reducible refine hK' _ _ ?_); clear hK hK' K K') | skip))))
              go_wp2_with fail
              go_roundw
              case rel => exact ⟨k2 + 1, _, _, _, _, _, _, _, by omega, by go_num, HT4.out.below HSB.out, fun _ => ⟨rfl, rfl⟩⟩
              case measure => simp [intOf]; omega
            · go_upto_region 18 with fail
              (refine wp_mixC (Below w4.heap.size w4) ?_ ?_ (HSB.out) ?_; (focus kernel_rfl); (focus kernel_rfl); intro KK hKK; go_wp2_with (first
                                                      | (first
                | ((with_reducible refine mixS_load L0.out ?_ ?_ ?_); (focus rfl); (focus rfl))
                | ((with_reducible refine mixS_load L1.out ?_ ?_ ?_); (focus rfl); (focus rfl))
                | (go_at_call 15; go_must (refine (exact_any A3 n3 c3 A4 n4 c4 xs _ (Rd.below HX4.out HSB.out) (Rd.below HY4.out HSB.out) (by have := HX4.out.len; omega)).mono ?_; rintro e w6 ⟨rfl, hb6⟩; have HSB := hid (HSB.out.trans (hb6.mono HSB.out.size)); clear hb6))
                | (go_at_call 12; go_must (refine (decDead_any _ F3 ga ta _ _ _ _ (HT4.out.a.below HSB.out)).mono ?_; rintro e w7 ⟨rfl, rfl⟩))
                | ((with_reducible refine And.intro ?_ ?_); (focus (exact HSB.out))))
                                                      | (with_reducible refine mix_nil ?_)
                                                      | ((with_reducible refine mixS_on ?_ ?_); (focus rfl); intro K K' hK hK'; go_simp; (first | ((with_reducible refine hK _ _ ?_); clear hK hK' K K') | ((with_reducible refine hK' _ _ ?_); clear hK hK' K K') | skip))
                                                      | ((with_reducible refine mixS_off ?_ ?_); (focus rfl); intro K hK; go_simp; (first | ((with_reducible refine hK _ _ ?_); clear hK K) | skip))
                                                      | ((with_reducible refine mixS_step ?_); intro K K' hK hK'; go_simp; (first | ((with_reducible refine hK _ _ ?_); clear hK hK' K K') | ((with_reducible refine hK' _ _ ?_); clear hK hK' K K') | skip))))
              go_wp2_with fail
              go_roundw
              case rel => exact ⟨k2 + 1, _, _, _, _, _, _, _, by omega, by go_num, HT4.out.below HSB.out, fun h => by cases h⟩
              case measure => simp [intOf]; omega
          · obtain rfl : k2 = k := by omega
            go_wp2_with (go_at_call 8; go_must (refine (first8_any _).mono ?_; rintro e w3 ⟨rfl, hb3⟩; have HB3 := hid (HT.out.out.trans (hb3.mono HT.out.out.size)); clear hb3))
            go_ret
            exact ⟨rfl, HB3.out⟩
end Go.Proofs.YtdiejemhhcaicaaDoor
