/- PartCuts' walk where 0 bytes are more (printed by gen_cuts2.py). Condition: the stream is one. -/
import Derived.Test.YtdiahjeplaegnaaCutsS
import Derived.Test.YtdiahjeplaegnaaCutsG
namespace Go.Proofs.Ytdiahjeplaegnaa
open Go.RowKit
attribute [local go_sem] kd kdS
attribute [local go_sem ↓] sliced_word
attribute [local go_sem] offA_zero

set_option maxHeartbeats 20000000 in
set_option maxRecDepth 100000 in
theorem cuts_walk0 (stream : Int) (w : World) (hst : 1 ≤ stream) (hs2 : stream ≤ 2147483647) :
    Calls Try.prog 5 #[.int .i64 stream, .int .i64 0] w fun e w' => e = .returned (.bool true) ∧ Below w.heap.size w w' := by
  obtain ⟨i0, hi0, hz0, hz1, hz2⟩ := info_parts u8_info
  have hi := hid hi0
  have hz := hid hz0
  have hsz := hid hz1
  have hby := hid hz2
  clear hi0 hz0 hz1 hz2
  go_enter Try.func5, Try.ntmps5
  go_wp2_with fail
  refine (first_any w).mono ?_
  rintro e w1 ⟨rfl, hb1⟩
  have HB1 := hid hb1
  clear hb1
  have ht : Tabs ((w1.alloc (.cells #[.int .i64 5, .int .i64 4, .int .i64 6, .int .i64 8, .int .i64 8, .int .i64 4] 3)).alloc (.cells #[.int .i64 2, .int .i64 3, .int .i64 4, .int .i64 6, .int .i64 7, .int .i64 8] 3)) w1.heap.size := by
    refine ⟨(Blk.new w1 _ _).alloc _, ?_⟩
    have := Blk.new (w1.alloc (.cells #[.int .i64 5, .int .i64 4, .int .i64 6, .int .i64 8, .int .i64 8, .int .i64 4] 3)) 3 #[.int .i64 2, .int .i64 3, .int .i64 4, .int .i64 6, .int .i64 7, .int .i64 8]
    rw [World.size_alloc] at this
    exact this
  have hbt : Below w.heap.size w ((w1.alloc (.cells #[.int .i64 5, .int .i64 4, .int .i64 6, .int .i64 8, .int .i64 8, .int .i64 4] 3)).alloc (.cells #[.int .i64 2, .int .i64 3, .int .i64 4, .int .i64 6, .int .i64 7, .int .i64 8] 3)) := (HB1.out.alloc HB1.out.size _).alloc (by have := HB1.out.size; simp; omega) _
  go_upto_region 7 with fail
  generalize (w1.alloc (.cells #[.int .i64 5, .int .i64 4, .int .i64 6, .int .i64 8, .int .i64 8, .int .i64 4] 3)).alloc (.cells #[.int .i64 2, .int .i64 3, .int .i64 4, .int .i64 6, .int .i64 7, .int .i64 8] 3) = wt at ht hbt ⊢
  have HT := hid ht
  have HBT := hid hbt
  clear ht hbt HB1
  generalize w1.heap.size = g at HT ⊢
  go_wp2_with fail
  go_loopw [7] (fun i wr => ∃ k : Nat, k ≤ 6 ∧ i = .int .i64 k ∧ Tabs wr g ∧ Below w.heap.size w wr) (fun i _ => 6 - (intOf i).toNat)
  case atStart => exact ⟨0, by omega, rfl, HT.out, HBT.out⟩
  case round =>
    obtain ⟨k, hk, rfl, hg, hb⟩ := hrel
    have HG := hid hg
    have HB := hid hb
    clear hg hb HT HBT
    rcases (show k = 0 ∨ k = 1 ∨ k = 2 ∨ k = 3 ∨ k = 4 ∨ k = 5 ∨ k = 6 by omega) with rfl | rfl | rfl | rfl | rfl | rfl | rfl
    · have c5 : wr.cell? ⟨g, 0, none⟩ = some (.int .i64 5) := HG.out.sizes.cell 0
      have c6 : wr.cell? ⟨g + 1, 0, none⟩ = some (.int .i64 2) := HG.out.kinds.cell 0
      have HC6 := hid c6
      go_upto_region 16 with fail
      clear c5 c6
      refine wp_region_inv (JC wr (G16 g 0 0 2 stream 4) 8 true false 6) rfl ?_ ?_ ?_ ?_
      · kernel_rfl
      · exact JC.start ((Below.refl _ _).drew)
      · refine ⟨?_, ?_, ?_, ?_, ?_, ?_, ?_, ?_, ?_, ?_, ?_, ?_, ?_, ?_, ?_, ?_, trivial⟩
        · intro d x a wx F hdi hdep hj
          have e : a.tmps.getD 6 undef = .slice (some ⟨g + 1, 0, none⟩) 6 6 := F.kept (t := 6) (by kernel_rfl)
          have eq := e
          rw [Array.getD_eq_getD_getElem?] at eq
          exact wp_val (v := .slice (some ⟨g + 1, 0, none⟩) 6 6) (w' := wx) (by clear hj F hdep; go_simp) ⟨_, rfl, hj.quiet (g16_ok g 0 0 2 stream 4) (by omega) (Below.refl _ _) rfl⟩
        · intro d x a wx F hdi hdep hj
          have e : a.tmps.getD 7 undef = .int .i64 0 := F.kept (t := 7) (by kernel_rfl)
          have eq := e
          rw [Array.getD_eq_getD_getElem?] at eq
          exact wp_val (v := .int .i64 0) (w' := wx) (by clear hj F hdep; go_simp) ⟨_, rfl, hj.quiet (g16_ok g 0 0 2 stream 4) (by omega) (Below.refl _ _) rfl⟩
        · intro d x a wx F hdi hdep hj
          have D0 : d 0 = true := hdep ⟨0, .data⟩ (by simp) rfl
          have D1 : d 1 = true := hdep ⟨1, .data⟩ (by simp) rfl
          have e62 := (F.got (i := 0) (t := 62) rfl rfl (D0) (Nat.lt_of_lt_of_eq (show 62 < 132 by omega) rfl)).trans (hj.pre 0 (by omega) D0)
          have e62q := e62
          rw [Array.getD_eq_getD_getElem?] at e62q
          have e63 := (F.got (i := 1) (t := 63) rfl rfl (D1) (Nat.lt_of_lt_of_eq (show 63 < 132 by omega) rfl)).trans (hj.pre 1 (by omega) D1)
          have e63q := e63
          rw [Array.getD_eq_getD_getElem?] at e63q
          exact wp_val (v := .pointer (some ⟨g + 1, 0, none⟩)) (w' := wx) (by clear hj F hdep; go_simp) ⟨_, rfl, hj.quiet (g16_ok g 0 0 2 stream 4) (by omega) (Below.refl _ _) rfl⟩
        · intro d x a wx F hdi hdep hj
          have D2 : d 2 = true := hdep ⟨2, .data⟩ (by simp) rfl
          have e64 := (F.got (i := 2) (t := 64) rfl rfl (D2) (Nat.lt_of_lt_of_eq (show 64 < 132 by omega) rfl)).trans (hj.pre 2 (by omega) D2)
          have e64q := e64
          rw [Array.getD_eq_getD_getElem?] at e64q
          have z := below_keep hj.below _ _ HC6.out
          exact wp_val (v := .int .i64 2) (w' := wx) (by clear hj F hdep; go_simp) ⟨_, rfl, hj.quiet (g16_ok g 0 0 2 stream 4) (by omega) (Below.refl _ _) rfl⟩
        · intro d x a wx F hdi hdep hj
          have e : a.tmps.getD 8 undef = .int .i64 stream := F.kept (t := 8) (by kernel_rfl)
          have eq := e
          rw [Array.getD_eq_getD_getElem?] at eq
          exact wp_val (v := .int .i64 stream) (w' := wx) (by clear hj F hdep; go_simp) ⟨_, rfl, hj.quiet (g16_ok g 0 0 2 stream 4) (by omega) (Below.refl _ _) rfl⟩
        · intro d x a wx F hdi hdep hj
          have e : a.tmps.getD 9 undef = .int .i64 4 := F.kept (t := 9) (by kernel_rfl)
          have eq := e
          rw [Array.getD_eq_getD_getElem?] at eq
          exact wp_val (v := .int .i64 4) (w' := wx) (by clear hj F hdep; go_simp) ⟨_, rfl, hj.quiet (g16_ok g 0 0 2 stream 4) (by omega) (Below.refl _ _) rfl⟩
        · intro d x a wx F hdi hdep hj
          have D5 : d 5 = true := hdep ⟨5, .data⟩ (by simp) rfl
          have e67 := (F.got (i := 5) (t := 67) rfl rfl (D5) (Nat.lt_of_lt_of_eq (show 67 < 132 by omega) rfl)).trans (hj.pre 5 (by omega) D5)
          have e67q := e67
          rw [Array.getD_eq_getD_getElem?] at e67q
          have hmk : ∀ w, (Instr.makeSlice 25 (.int .i64 4) (.int .i64 4)).run Try.prog w = .ok (.slice (some ⟨w.heap.size, 0, none⟩) 4 4) (w.alloc (.cells #[.int .u8 0, .int .u8 0, .int .u8 0, .int .u8 0] 5)) := fun _ => by kernel_rfl
          exact wp_val (v := .slice (some ⟨wx.heap.size, 0, none⟩) 4 4) (w' := wx.alloc (.cells #[.int .u8 0, .int .u8 0, .int .u8 0, .int .u8 0] 5)) (by clear hj F hdep; go_simp) ⟨_, rfl, hj.quiet (g16_ok g 0 0 2 stream 4) (by omega) ((Below.refl _ _).alloc (Nat.le_refl _) _) ⟨wx.heap.size, rfl, .inr (rd_new (size := 1) rfl rfl)⟩⟩
        · intro d x a wx F hdi hdep hj
          have D3 : d 3 = true := hdep ⟨3, .data⟩ (by simp) rfl
          have D4 : d 4 = true := hdep ⟨4, .data⟩ (by simp) rfl
          have D6 : d 6 = true := hdep ⟨6, .data⟩ (by simp) rfl
          have e65 := (F.got (i := 3) (t := 65) rfl rfl (D3) (Nat.lt_of_lt_of_eq (show 65 < 132 by omega) rfl)).trans (hj.pre 3 (by omega) D3)
          have e65q := e65
          rw [Array.getD_eq_getD_getElem?] at e65q
          have e66 := (F.got (i := 4) (t := 66) rfl rfl (D4) (Nat.lt_of_lt_of_eq (show 66 < 132 by omega) rfl)).trans (hj.pre 4 (by omega) D4)
          have e66q := e66
          rw [Array.getD_eq_getD_getElem?] at e66q
          obtain ⟨b, eb, hB⟩ := hj.pre 6 (by omega) D6
          have e68 := (F.got (i := 6) (t := 68) rfl rfl (D6) (Nat.lt_of_lt_of_eq (show 68 < 132 by omega) rfl)).trans eb
          have e68q := e68
          rw [Array.getD_eq_getD_getElem?] at e68q
          have HBq := hid hB
          clear hB eb
          exact wp_val (v := .agg #[.int .i64 2, .int .i64 0, .int .i64 stream, .slice (some ⟨b, 0, none⟩) 4 4]) (w' := wx) (by clear hj F hdep; go_simp) ⟨_, rfl, hj.quiet (g16_ok g 0 0 2 stream 4) (by omega) (Below.refl _ _) ⟨b, rfl, HBq.out.imp setB_of id⟩⟩
        · intro d x a wx F hdi hdep hj
          have D7 : d 7 = true := hdep ⟨7, .data⟩ (by simp) rfl
          obtain ⟨b, eb, hB⟩ := hj.pre 7 (by omega) D7
          have e69 := (F.got (i := 7) (t := 69) rfl rfl (D7) (Nat.lt_of_lt_of_eq (show 69 < 132 by omega) rfl)).trans eb
          have HBq := hid (hB.resolve_left (by rw [hdi]; simp))
          clear hB eb
          have e69q := e69
          rw [Array.getD_eq_getD_getElem?] at e69q
          exact wp_call (f := 9) (args := #[.agg #[.int .i64 2, .int .i64 0, .int .i64 stream, .slice (some ⟨b, 0, none⟩) 4 4]]) (by clear hj F hdep; go_simp) (Calls.mono (read_any 2 0 stream (some ⟨b, 0, none⟩) 4 4 (zl 4) wx HBq.out (Nat.le_refl _) (by omega)) (fun e w' hp => cut_spec_0_0 stream hst wx e w' hp)) (fun u w' hu hb => ⟨_, rfl, hj.call (g16_ok g 0 0 2 stream 4) hb D7 hu⟩)
        · intro d x a wx F hdi hdep hj
          have D8 : d 8 = true := hdep ⟨8, .data⟩ (by simp) rfl
          obtain ⟨u, hu, ex⟩ := hj.c0 D8
          have e := (F.got (i := 8) (t := 70) rfl rfl (D8) (Nat.lt_of_lt_of_eq (show 70 < 132 by omega) rfl)).trans ex
          have eq := e
          rw [Array.getD_eq_getD_getElem?] at eq
          exact wp_val (v := .tuple #[u, .agg #[.bool true, .bool false, .int .i64 6]]) (w' := wx) (by clear hj F hdep; go_simp) ⟨_, rfl, hj.plain (g16_ok g 0 0 2 stream 4) (q := 1) rfl (by omega) (by omega) hdi (fun _ => ⟨D8, u, hu, rfl⟩) (fun e => absurd e (by omega)) (fun e => absurd e (by omega))⟩
        · intro d x a wx F hdi hdep hj
          have D9 : d 9 = true := hdep ⟨9, .data⟩ (by simp) rfl
          obtain ⟨D, u, hu, ex⟩ := hj.c1 D9
          have e := (F.got (i := 9) (t := 61) rfl rfl (D9) (Nat.lt_of_lt_of_eq (show 61 < 132 by omega) rfl)).trans ex
          have eq := e
          rw [Array.getD_eq_getD_getElem?] at eq
          exact wp_val (v := u) (w' := wx) (by clear hj F hdep; go_simp) ⟨_, rfl, hj.plain (g16_ok g 0 0 2 stream 4) (q := 2) rfl (by omega) (by omega) hdi (fun e => absurd e (by omega)) (fun _ => ⟨D, hu⟩) (fun e => absurd e (by omega))⟩
        · intro d x a wx F hdi hdep hj
          have D9 : d 9 = true := hdep ⟨9, .data⟩ (by simp) rfl
          obtain ⟨D, u, hu, ex⟩ := hj.c1 D9
          have e := (F.got (i := 9) (t := 61) rfl rfl (D9) (Nat.lt_of_lt_of_eq (show 61 < 132 by omega) rfl)).trans ex
          have eq := e
          rw [Array.getD_eq_getD_getElem?] at eq
          exact wp_val (v := .agg #[.bool true, .bool false, .int .i64 6]) (w' := wx) (by clear hj F hdep; go_simp) ⟨_, rfl, hj.plain (g16_ok g 0 0 2 stream 4) (q := 3) rfl (by omega) (by omega) hdi (fun e => absurd e (by omega)) (fun e => absurd e (by omega)) (fun _ => ⟨D, rfl⟩)⟩
        · intro d x a wx F hdi hdep hj
          exact wp_val (v := .pointer (some ⟨wx.heap.size, 0, none⟩)) (w' := wx.alloc (.cells zeroPart 28)) (by clear hj F hdep; unfold zeroPart; go_simp) ⟨_, rfl, hj.allA (g16_ok g 0 0 2 stream 4) hdi⟩
        · intro d x a wx F hdi hdep hj
          exact wp_val (v := .pointer (some ⟨wx.heap.size, 0, none⟩)) (w' := wx.alloc (.cells zeroFault 30)) (by clear hj F hdep; unfold zeroFault; go_simp) ⟨_, rfl, hj.allB (g16_ok g 0 0 2 stream 4) hdi⟩
        · intro d x a wx F hdi hdep hj
          have D10 : d 10 = true := hdep ⟨10, .data⟩ (by simp) rfl
          have D12 : d 12 = true := hdep ⟨12, .data⟩ (by simp) rfl
          obtain ⟨D, hp⟩ := hj.c2 D10
          obtain ⟨Ad, nd, cd, pad, code, last, step, As, ns, cs, ee, aa, ww, ex⟩ := hp
          obtain ⟨p, ep, hp1, hp2, hp3⟩ := hj.bA D12
          have hB := hp3.resolve_left (by rw [hdi]; simp)
          have e1 := (F.got (i := 10) (t := 71) rfl rfl (D10) (Nat.lt_of_lt_of_eq (show 71 < 132 by omega) rfl)).trans ex
          have e2 := (F.got (i := 12) (t := 10) rfl rfl (D12) (Nat.lt_of_lt_of_eq (show 10 < 132 by omega) rfl)).trans ep
          have e1q := e1
          rw [Array.getD_eq_getD_getElem?] at e1q
          have e2q := e2
          rw [Array.getD_eq_getD_getElem?] at e2q
          have z0 := hB.cell 0
          have f0 := hB.frozen 0
          have z1 := hB.cell 1
          have f1 := hB.frozen 1
          have z2 := hB.cell 2
          have f2 := hB.frozen 2
          have z3 := hB.cell 3
          have f3 := hB.frozen 3
          have z4 := hB.cell 4
          have f4 := hB.frozen 4
          have z5 := hB.cell 5
          have f5 := hB.frozen 5
          have z6 := hB.cell 6
          have f6 := hB.frozen 6
          have z7 := hB.cell 7
          have f7 := hB.frozen 7
          have z8 := hB.cell 8
          have f8 := hB.frozen 8
          simp [zeroPart] at z0 z1 z2 z3 z4 z5 z6 z7 z8
          have HJ := hid hj
          have HH := hid (And.intro hdi D12)
          have HD := hid D
          have HE := hid ep
          clear hj F hdep ex ep hp1 hp2 hp3 hB hdi D D10 D12
          unfold Oper.wp
          go_simp
          exact ⟨undef, HJ.out.stA (g16_ok g 0 0 2 stream 4) HH.out.1 HH.out.2 HD.out HE.out ((((((((((Turned.refl _ _).setCell (by simp) _).setCell (by simp) _).setCell (by simp) _).setCell (by simp) _).setCell (by simp) _).setCell (by simp) _).setCell (by simp) _).setCell (by simp) _).setCell (by simp) _)⟩
        · intro d x a wx F hdi hdep hj
          have D11 : d 11 = true := hdep ⟨11, .data⟩ (by simp) rfl
          have D13 : d 13 = true := hdep ⟨13, .data⟩ (by simp) rfl
          obtain ⟨D, ex⟩ := hj.c3 D11
          obtain ⟨p, ep, hp1, hp2, hp3⟩ := hj.bB D13
          have hB := hp3.resolve_left (by rw [hdi]; simp)
          have e1 := (F.got (i := 11) (t := 72) rfl rfl (D11) (Nat.lt_of_lt_of_eq (show 72 < 132 by omega) rfl)).trans ex
          have e2 := (F.got (i := 13) (t := 11) rfl rfl (D13) (Nat.lt_of_lt_of_eq (show 11 < 132 by omega) rfl)).trans ep
          have e1q := e1
          rw [Array.getD_eq_getD_getElem?] at e1q
          have e2q := e2
          rw [Array.getD_eq_getD_getElem?] at e2q
          have z0 := hB.cell 0
          have f0 := hB.frozen 0
          have z1 := hB.cell 1
          have f1 := hB.frozen 1
          have z2 := hB.cell 2
          have f2 := hB.frozen 2
          simp [zeroFault] at z0 z1 z2
          have HJ := hid hj
          have HH := hid (And.intro hdi D13)
          have HD := hid D
          have HE := hid ep
          have HBB := hid hB
          clear hj F hdep ex ep hp1 hp2 hp3 hB hdi D D11 D13
          unfold Oper.wp
          go_simp
          exact ⟨undef, HJ.out.stB (g16_ok g 0 0 2 stream 4) HH.out.1 HH.out.2 HD.out HE.out ((((Turned.refl _ _).setCell (by simp) _).setCell (by simp) _).setCell (by simp) _) (by have h9 := ((HBB.out.set_ 0 (.bool true)).set_ 1 (.bool false)).set_ 2 (.int .i64 6); simpa [zeroFault] using h9)⟩
      · intro d x wx hall hj
        obtain ⟨_, q, eq, hqb, hql, hqB⟩ := hj.fin (hall 15 (show 15 < 16 by omega))
        have HBw := hid hj.below
        have HQ := hid (hqB.resolve_left id)
        have m0 := HQ.out.cell 0
        have m1 := HQ.out.cell 1
        have m2 := HQ.out.cell 2
        simp at m0 m1 m2 eq
        have c6 := below_keep HBw.out _ _ HC6.out
        have HG1 := hid (HG.out.below HBw.out)
        clear hj hall hqB hqb hql
        simp only [putAll, Act.put]
        go_wp2_with fail
        (refine wp_mix ?_ ?_ ?_; (focus kernel_rfl); (focus kernel_rfl); intro KK hKK; go_wp2_with (first
              | (fail)
              | (with_reducible refine mix_nil ?_)
              | ((with_reducible refine mix_on ?_ ?_); (focus rfl); intro K hK; go_simp; (first | ((with_reducible refine hK _ _ ?_); clear hK K) | skip))
              | ((with_reducible refine mix_off ?_ ?_); (focus rfl); intro K hK; go_simp; (first | ((with_reducible refine hK _ _ ?_); clear hK K) | skip))
              | ((with_reducible refine mix_step ?_); intro K hK; go_simp; (first | ((with_reducible refine hK _ _ ?_); clear hK K) | skip))))
        go_upto_region 20 with fail
        clear m0 m1 m2 c6 eq
        have HB2 := hid (HBw.out.trans ((Below.refl wx.heap.size wx).drew.mono HBw.out.size))
        have HG2 := hid (HG1.out.below (Below.refl wx.heap.size wx).drew)
        generalize wx.drew = wy at HB2 HG2 ⊢
        clear HBw HQ HG1
        refine wp_region_inv (JC wy (G20 wy.heap.size g 0 0 2 5 stream 4) 14 false false 0) rfl ?_ ?_ ?_ ?_
        · kernel_rfl
        · exact JC.start ((Below.refl _ _).drew)
        · refine ⟨?_, ?_, ?_, ?_, ?_, ?_, ?_, ?_, ?_, ?_, ?_, ?_, ?_, ?_, ?_, ?_, ?_, ?_, ?_, ?_, ?_, ?_, trivial⟩
          · intro d x a wx F hdi hdep hj
            have e : a.tmps.getD 6 undef = .slice (some ⟨g + 1, 0, none⟩) 6 6 := F.kept (t := 6) (by kernel_rfl)
            have eq := e
            rw [Array.getD_eq_getD_getElem?] at eq
            exact wp_val (v := .slice (some ⟨g + 1, 0, none⟩) 6 6) (w' := wx) (by clear hj F hdep; go_simp) ⟨_, rfl, hj.quiet (g20_ok wy.heap.size g 0 0 2 5 stream 4) (by omega) (Below.refl _ _) rfl⟩
          · intro d x a wx F hdi hdep hj
            have e : a.tmps.getD 7 undef = .int .i64 0 := F.kept (t := 7) (by kernel_rfl)
            have eq := e
            rw [Array.getD_eq_getD_getElem?] at eq
            exact wp_val (v := .int .i64 0) (w' := wx) (by clear hj F hdep; go_simp) ⟨_, rfl, hj.quiet (g20_ok wy.heap.size g 0 0 2 5 stream 4) (by omega) (Below.refl _ _) rfl⟩
          · intro d x a wx F hdi hdep hj
            have D0 : d 0 = true := hdep ⟨0, .data⟩ (by simp) rfl
            have D1 : d 1 = true := hdep ⟨1, .data⟩ (by simp) rfl
            have e112 := (F.got (i := 0) (t := 112) rfl rfl (D0) (Nat.lt_of_lt_of_eq (show 112 < 132 by omega) rfl)).trans (hj.pre 0 (by omega) D0)
            have e112q := e112
            rw [Array.getD_eq_getD_getElem?] at e112q
            have e113 := (F.got (i := 1) (t := 113) rfl rfl (D1) (Nat.lt_of_lt_of_eq (show 113 < 132 by omega) rfl)).trans (hj.pre 1 (by omega) D1)
            have e113q := e113
            rw [Array.getD_eq_getD_getElem?] at e113q
            exact wp_val (v := .pointer (some ⟨g + 1, 0, none⟩)) (w' := wx) (by clear hj F hdep; go_simp) ⟨_, rfl, hj.quiet (g20_ok wy.heap.size g 0 0 2 5 stream 4) (by omega) (Below.refl _ _) rfl⟩
          · intro d x a wx F hdi hdep hj
            have D2 : d 2 = true := hdep ⟨2, .data⟩ (by simp) rfl
            have e114 := (F.got (i := 2) (t := 114) rfl rfl (D2) (Nat.lt_of_lt_of_eq (show 114 < 132 by omega) rfl)).trans (hj.pre 2 (by omega) D2)
            have e114q := e114
            rw [Array.getD_eq_getD_getElem?] at e114q
            have z := below_keep hj.below _ _ (show wy.cell? ⟨g + 1, 0, none⟩ = some (.int .i64 2) from HG2.out.kinds.cell 0)
            exact wp_val (v := .int .i64 2) (w' := wx) (by clear hj F hdep; go_simp) ⟨_, rfl, hj.quiet (g20_ok wy.heap.size g 0 0 2 5 stream 4) (by omega) (Below.refl _ _) rfl⟩
          · intro d x a wx F hdi hdep hj
            have e : a.tmps.getD 8 undef = .int .i64 stream := F.kept (t := 8) (by kernel_rfl)
            have eq := e
            rw [Array.getD_eq_getD_getElem?] at eq
            exact wp_val (v := .int .i64 stream) (w' := wx) (by clear hj F hdep; go_simp) ⟨_, rfl, hj.quiet (g20_ok wy.heap.size g 0 0 2 5 stream 4) (by omega) (Below.refl _ _) rfl⟩
          · intro d x a wx F hdi hdep hj
            have e : a.tmps.getD 5 undef = .slice (some ⟨g, 0, none⟩) 6 6 := F.kept (t := 5) (by kernel_rfl)
            have eq := e
            rw [Array.getD_eq_getD_getElem?] at eq
            exact wp_val (v := .slice (some ⟨g, 0, none⟩) 6 6) (w' := wx) (by clear hj F hdep; go_simp) ⟨_, rfl, hj.quiet (g20_ok wy.heap.size g 0 0 2 5 stream 4) (by omega) (Below.refl _ _) rfl⟩
          · intro d x a wx F hdi hdep hj
            have e : a.tmps.getD 7 undef = .int .i64 0 := F.kept (t := 7) (by kernel_rfl)
            have eq := e
            rw [Array.getD_eq_getD_getElem?] at eq
            exact wp_val (v := .int .i64 0) (w' := wx) (by clear hj F hdep; go_simp) ⟨_, rfl, hj.quiet (g20_ok wy.heap.size g 0 0 2 5 stream 4) (by omega) (Below.refl _ _) rfl⟩
          · intro d x a wx F hdi hdep hj
            have D5 : d 5 = true := hdep ⟨5, .data⟩ (by simp) rfl
            have D6 : d 6 = true := hdep ⟨6, .data⟩ (by simp) rfl
            have e117 := (F.got (i := 5) (t := 117) rfl rfl (D5) (Nat.lt_of_lt_of_eq (show 117 < 132 by omega) rfl)).trans (hj.pre 5 (by omega) D5)
            have e117q := e117
            rw [Array.getD_eq_getD_getElem?] at e117q
            have e118 := (F.got (i := 6) (t := 118) rfl rfl (D6) (Nat.lt_of_lt_of_eq (show 118 < 132 by omega) rfl)).trans (hj.pre 6 (by omega) D6)
            have e118q := e118
            rw [Array.getD_eq_getD_getElem?] at e118q
            exact wp_val (v := .pointer (some ⟨g, 0, none⟩)) (w' := wx) (by clear hj F hdep; go_simp) ⟨_, rfl, hj.quiet (g20_ok wy.heap.size g 0 0 2 5 stream 4) (by omega) (Below.refl _ _) rfl⟩
          · intro d x a wx F hdi hdep hj
            have D7 : d 7 = true := hdep ⟨7, .data⟩ (by simp) rfl
            have e119 := (F.got (i := 7) (t := 119) rfl rfl (D7) (Nat.lt_of_lt_of_eq (show 119 < 132 by omega) rfl)).trans (hj.pre 7 (by omega) D7)
            have e119q := e119
            rw [Array.getD_eq_getD_getElem?] at e119q
            have z := below_keep hj.below _ _ (show wy.cell? ⟨g, 0, none⟩ = some (.int .i64 5) from HG2.out.sizes.cell 0)
            exact wp_val (v := .int .i64 5) (w' := wx) (by clear hj F hdep; go_simp) ⟨_, rfl, hj.quiet (g20_ok wy.heap.size g 0 0 2 5 stream 4) (by omega) (Below.refl _ _) rfl⟩
          · intro d x a wx F hdi hdep hj
            have D8 : d 8 = true := hdep ⟨8, .data⟩ (by simp) rfl
            have e120 := (F.got (i := 8) (t := 120) rfl rfl (D8) (Nat.lt_of_lt_of_eq (show 120 < 132 by omega) rfl)).trans (hj.pre 8 (by omega) D8)
            have e120q := e120
            rw [Array.getD_eq_getD_getElem?] at e120q
            have hw : IntKind.i64.wrap 4 = 4 := rfl
            exact wp_val (v := .int .i64 4) (w' := wx) (by clear hj F hdep; go_simp) ⟨_, rfl, hj.quiet (g20_ok wy.heap.size g 0 0 2 5 stream 4) (by omega) (Below.refl _ _) rfl⟩
          · intro d x a wx F hdi hdep hj
            have D9 : d 9 = true := hdep ⟨9, .data⟩ (by simp) rfl
            have e121 := (F.got (i := 9) (t := 121) rfl rfl (D9) (Nat.lt_of_lt_of_eq (show 121 < 132 by omega) rfl)).trans (hj.pre 9 (by omega) D9)
            have e121q := e121
            rw [Array.getD_eq_getD_getElem?] at e121q
            have hmk : ∀ w, (Instr.makeSlice 25 (.int .i64 4) (.int .i64 4)).run Try.prog w = .ok (.slice (some ⟨w.heap.size, 0, none⟩) 4 4) (w.alloc (.cells #[.int .u8 0, .int .u8 0, .int .u8 0, .int .u8 0] 5)) := fun _ => by kernel_rfl
            exact wp_val (v := .slice (some ⟨wx.heap.size, 0, none⟩) 4 4) (w' := wx.alloc (.cells #[.int .u8 0, .int .u8 0, .int .u8 0, .int .u8 0] 5)) (by clear hj F hdep; go_simp) ⟨_, rfl, hj.quiet (g20_ok wy.heap.size g 0 0 2 5 stream 4) (by omega) ((Below.refl _ _).alloc (Nat.le_refl _) _) (.inr (.inr (World.ownsRow_lit (base := wy.heap.size) (e := 5) (size := 1) wx #[.int .u8 0, .int .u8 0, .int .u8 0, .int .u8 0] 4 hj.below.size (by decide) rfl)))⟩
          · intro d x a wx F hdi hdep hj
            exact wp_val (v := .slice (some ⟨wx.heap.size, 0, none⟩) 1 1) (w' := wx.alloc (.cells #[.int .u8 1] 5)) (by clear hj F hdep; go_simp) ⟨_, rfl, hj.quiet (g20_ok wy.heap.size g 0 0 2 5 stream 4) (by omega) ((Below.refl _ _).alloc (Nat.le_refl _) _) (.inr (.inr ⟨wx.heap.size, rfl, rd_new (size := 1) rfl rfl⟩))⟩
          · intro d x a wx F hdi hdep hj
            have D10 : d 10 = true := hdep ⟨10, .data⟩ (by simp) rfl
            have D11 : d 11 = true := hdep ⟨11, .data⟩ (by simp) rfl
            have h14 : d 14 = false := by
              rcases h : d 14 with _ | _
              · rfl
              · have h13 := hj.cb h
                have h12 := (hj.pre 13 (by omega) h13).1
                rw [hdi] at h12
                cases h12
            have hown := ((hj.pre 10 (by omega) D10).resolve_left (by rw [hdi]; simp)).resolve_left (by rw [h14]; simp)
            obtain ⟨b, eb, hB⟩ := ((hj.pre 11 (by omega) D11).resolve_left (by rw [hdi]; simp)).resolve_left (by rw [h14]; simp)
            have e122 := F.got (i := 10) (t := 122) rfl rfl (D10) (Nat.lt_of_lt_of_eq (show 122 < 132 by omega) rfl)
            have e123 := (F.got (i := 11) (t := 123) rfl rfl (D11) (Nat.lt_of_lt_of_eq (show 123 < 132 by omega) rfl)).trans eb
            refine wp_app wx (.tmp 122) (.tmp 123) 25 rfl wy.heap.size 5 i0 _ 1 1 Try.underlying25 hi.out hz.out hsz.out hby.out rfl (by decide) (x 10) 4 _ e122 hown (some ⟨b, 0, none⟩) 1 1 ([1].map bv) e123 hB (bv_one _) (by decide) (by decide) hj.below.size ?_
            intro A' c' w' ho hg hat
            refine ⟨_, rfl, hj.step (by omega) (below_app hj.below hown hg (Nat.le_refl _) hj.below.size) hg.size (fun q hq => hq.grown hg (fun e => Blk.own_ne hq hown (by decide) e.symm)) (fun q cs hq => hq.grown hg (fun e => Blk.own_ne hq hown (by decide) e.symm)) (fun j hj' hne hd hG => ?_) ⟨A', c', rfl, .inr ⟨own_le ho, by have h9 := Bs.of_own (l := zl 4 ++ [1]) (by rw [List.map_append]; exact ho); exact h9⟩⟩⟩
            match j, hj' with
            | 0, _ => exact hG
            | 1, _ => exact hG
            | 2, _ => exact hG
            | 3, _ => exact hG
            | 4, _ => exact hG
            | 5, _ => exact hG
            | 6, _ => exact hG
            | 7, _ => exact hG
            | 8, _ => exact hG
            | 9, _ => exact hG
            | 10, _ => exact .inl (setB_self _ _)
            | 11, _ => exact .inl (setB_self _ _)
            | 12, _ => exact absurd rfl hne
            | 13, _ =>
              have h12 := hG.1
              rw [hdi] at h12
              cases h12
          · intro d x a wx F hdi hdep hj
            have D3 : d 3 = true := hdep ⟨3, .data⟩ (by simp) rfl
            have D4 : d 4 = true := hdep ⟨4, .data⟩ (by simp) rfl
            have D12 : d 12 = true := hdep ⟨12, .data⟩ (by simp) rfl
            have e115 := (F.got (i := 3) (t := 115) rfl rfl (D3) (Nat.lt_of_lt_of_eq (show 115 < 132 by omega) rfl)).trans (hj.pre 3 (by omega) D3)
            have e115q := e115
            rw [Array.getD_eq_getD_getElem?] at e115q
            have e116 := (F.got (i := 4) (t := 116) rfl rfl (D4) (Nat.lt_of_lt_of_eq (show 116 < 132 by omega) rfl)).trans (hj.pre 4 (by omega) D4)
            have e116q := e116
            rw [Array.getD_eq_getD_getElem?] at e116q
            obtain ⟨A, c, eb, hB⟩ := hj.pre 12 (by omega) D12
            have e124 := (F.got (i := 12) (t := 124) rfl rfl (D12) (Nat.lt_of_lt_of_eq (show 124 < 132 by omega) rfl)).trans eb
            have e124q := e124
            rw [Array.getD_eq_getD_getElem?] at e124q
            have HBq := hid hB
            clear hB eb
            exact wp_val (v := .agg #[.int .i64 2, .int .i64 0, .int .i64 stream, .slice A (4 + 1) c]) (w' := wx) (by clear hj F hdep; go_simp) ⟨_, rfl, hj.quiet (g20_ok wy.heap.size g 0 0 2 5 stream 4) (by omega) (Below.refl _ _) ⟨setB_of D12, A, c, rfl, HBq.out.imp setB_of id⟩⟩
          · intro d x a wx F hdi hdep hj
            have D13 : d 13 = true := hdep ⟨13, .data⟩ (by simp) rfl
            obtain ⟨_, A, c, eb, hB⟩ := hj.pre 13 (by omega) D13
            have e125 := (F.got (i := 13) (t := 125) rfl rfl (D13) (Nat.lt_of_lt_of_eq (show 125 < 132 by omega) rfl)).trans eb
            have HBq := hid (hB.resolve_left (by rw [hdi]; simp))
            clear hB eb
            have e125q := e125
            rw [Array.getD_eq_getD_getElem?] at e125q
            exact wp_call (f := 9) (args := #[.agg #[.int .i64 2, .int .i64 0, .int .i64 stream, .slice A (4 + 1) c]]) (by clear hj F hdep; go_simp) (Calls.mono (read_any 2 0 stream A (4 + 1) c (zl 4 ++ [1]) wx HBq.out.2 HBq.out.1 (by omega)) (fun e w' hp => cut_ok_0 stream hst wx e w' hp)) (fun u w' hu hb => ⟨_, rfl, hj.call (g20_ok wy.heap.size g 0 0 2 5 stream 4) hb D13 hu⟩)
          · intro d x a wx F hdi hdep hj
            have D14 : d 14 = true := hdep ⟨14, .data⟩ (by simp) rfl
            obtain ⟨u, hu, ex⟩ := hj.c0 D14
            have e := (F.got (i := 14) (t := 126) rfl rfl (D14) (Nat.lt_of_lt_of_eq (show 126 < 132 by omega) rfl)).trans ex
            have eq := e
            rw [Array.getD_eq_getD_getElem?] at eq
            exact wp_val (v := .tuple #[u, .agg #[.bool false, .bool false, .int .i64 0]]) (w' := wx) (by clear hj F hdep; go_simp) ⟨_, rfl, hj.plain (g20_ok wy.heap.size g 0 0 2 5 stream 4) (q := 1) rfl (by omega) (by omega) hdi (fun _ => ⟨D14, u, hu, rfl⟩) (fun e => absurd e (by omega)) (fun e => absurd e (by omega))⟩
          · intro d x a wx F hdi hdep hj
            have D15 : d 15 = true := hdep ⟨15, .data⟩ (by simp) rfl
            obtain ⟨D, u, hu, ex⟩ := hj.c1 D15
            have e := (F.got (i := 15) (t := 111) rfl rfl (D15) (Nat.lt_of_lt_of_eq (show 111 < 132 by omega) rfl)).trans ex
            have eq := e
            rw [Array.getD_eq_getD_getElem?] at eq
            exact wp_val (v := u) (w' := wx) (by clear hj F hdep; go_simp) ⟨_, rfl, hj.plain (g20_ok wy.heap.size g 0 0 2 5 stream 4) (q := 2) rfl (by omega) (by omega) hdi (fun e => absurd e (by omega)) (fun _ => ⟨D, hu⟩) (fun e => absurd e (by omega))⟩
          · intro d x a wx F hdi hdep hj
            have D15 : d 15 = true := hdep ⟨15, .data⟩ (by simp) rfl
            obtain ⟨D, u, hu, ex⟩ := hj.c1 D15
            have e := (F.got (i := 15) (t := 111) rfl rfl (D15) (Nat.lt_of_lt_of_eq (show 111 < 132 by omega) rfl)).trans ex
            have eq := e
            rw [Array.getD_eq_getD_getElem?] at eq
            exact wp_val (v := .agg #[.bool false, .bool false, .int .i64 0]) (w' := wx) (by clear hj F hdep; go_simp) ⟨_, rfl, hj.plain (g20_ok wy.heap.size g 0 0 2 5 stream 4) (q := 3) rfl (by omega) (by omega) hdi (fun e => absurd e (by omega)) (fun e => absurd e (by omega)) (fun _ => ⟨D, rfl⟩)⟩
          · intro d x a wx F hdi hdep hj
            exact wp_val (v := .pointer (some ⟨wx.heap.size, 0, none⟩)) (w' := wx.alloc (.cells zeroPart 28)) (by clear hj F hdep; unfold zeroPart; go_simp) ⟨_, rfl, hj.allA (g20_ok wy.heap.size g 0 0 2 5 stream 4) hdi⟩
          · intro d x a wx F hdi hdep hj
            exact wp_val (v := .pointer (some ⟨wx.heap.size, 0, none⟩)) (w' := wx.alloc (.cells zeroFault 30)) (by clear hj F hdep; unfold zeroFault; go_simp) ⟨_, rfl, hj.allB (g20_ok wy.heap.size g 0 0 2 5 stream 4) hdi⟩
          · intro d x a wx F hdi hdep hj
            have D16 : d 16 = true := hdep ⟨16, .data⟩ (by simp) rfl
            have D18 : d 18 = true := hdep ⟨18, .data⟩ (by simp) rfl
            obtain ⟨D, hp⟩ := hj.c2 D16
            obtain ⟨Ad, nd, cd, pad, code, last, step, As, ns, cs, ee, aa, ww, ex⟩ := hp
            obtain ⟨p, ep, hp1, hp2, hp3⟩ := hj.bA D18
            have hB := hp3.resolve_left (by rw [hdi]; simp)
            have e1 := (F.got (i := 16) (t := 127) rfl rfl (D16) (Nat.lt_of_lt_of_eq (show 127 < 132 by omega) rfl)).trans ex
            have e2 := (F.got (i := 18) (t := 13) rfl rfl (D18) (Nat.lt_of_lt_of_eq (show 13 < 132 by omega) rfl)).trans ep
            have e1q := e1
            rw [Array.getD_eq_getD_getElem?] at e1q
            have e2q := e2
            rw [Array.getD_eq_getD_getElem?] at e2q
            have z0 := hB.cell 0
            have f0 := hB.frozen 0
            have z1 := hB.cell 1
            have f1 := hB.frozen 1
            have z2 := hB.cell 2
            have f2 := hB.frozen 2
            have z3 := hB.cell 3
            have f3 := hB.frozen 3
            have z4 := hB.cell 4
            have f4 := hB.frozen 4
            have z5 := hB.cell 5
            have f5 := hB.frozen 5
            have z6 := hB.cell 6
            have f6 := hB.frozen 6
            have z7 := hB.cell 7
            have f7 := hB.frozen 7
            have z8 := hB.cell 8
            have f8 := hB.frozen 8
            simp [zeroPart] at z0 z1 z2 z3 z4 z5 z6 z7 z8
            have HJ := hid hj
            have HH := hid (And.intro hdi D18)
            have HD := hid D
            have HE := hid ep
            clear hj F hdep ex ep hp1 hp2 hp3 hB hdi D D16 D18
            unfold Oper.wp
            go_simp
            exact ⟨undef, HJ.out.stA (g20_ok wy.heap.size g 0 0 2 5 stream 4) HH.out.1 HH.out.2 HD.out HE.out ((((((((((Turned.refl _ _).setCell (by simp) _).setCell (by simp) _).setCell (by simp) _).setCell (by simp) _).setCell (by simp) _).setCell (by simp) _).setCell (by simp) _).setCell (by simp) _).setCell (by simp) _)⟩
          · intro d x a wx F hdi hdep hj
            have D17 : d 17 = true := hdep ⟨17, .data⟩ (by simp) rfl
            have D19 : d 19 = true := hdep ⟨19, .data⟩ (by simp) rfl
            obtain ⟨D, ex⟩ := hj.c3 D17
            obtain ⟨p, ep, hp1, hp2, hp3⟩ := hj.bB D19
            have hB := hp3.resolve_left (by rw [hdi]; simp)
            have e1 := (F.got (i := 17) (t := 128) rfl rfl (D17) (Nat.lt_of_lt_of_eq (show 128 < 132 by omega) rfl)).trans ex
            have e2 := (F.got (i := 19) (t := 14) rfl rfl (D19) (Nat.lt_of_lt_of_eq (show 14 < 132 by omega) rfl)).trans ep
            have e1q := e1
            rw [Array.getD_eq_getD_getElem?] at e1q
            have e2q := e2
            rw [Array.getD_eq_getD_getElem?] at e2q
            have z0 := hB.cell 0
            have f0 := hB.frozen 0
            have z1 := hB.cell 1
            have f1 := hB.frozen 1
            have z2 := hB.cell 2
            have f2 := hB.frozen 2
            simp [zeroFault] at z0 z1 z2
            have HJ := hid hj
            have HH := hid (And.intro hdi D19)
            have HD := hid D
            have HE := hid ep
            have HBB := hid hB
            clear hj F hdep ex ep hp1 hp2 hp3 hB hdi D D17 D19
            unfold Oper.wp
            go_simp
            exact ⟨undef, HJ.out.stB (g20_ok wy.heap.size g 0 0 2 5 stream 4) HH.out.1 HH.out.2 HD.out HE.out ((((Turned.refl _ _).setCell (by simp) _).setCell (by simp) _).setCell (by simp) _) (by have h9 := ((HBB.out.set_ 0 (.bool false)).set_ 1 (.bool false)).set_ 2 (.int .i64 0); simpa [zeroFault] using h9)⟩
        · intro d2 x2 wz hall hj
          obtain ⟨_, q2, eq2, hqb, hql, hqB⟩ := hj.fin (hall 21 (show 21 < 22 by omega))
          have HBz := hid hj.below
          have HQ := hid (hqB.resolve_left id)
          have m0 := HQ.out.cell 0
          simp at m0 eq2
          have HG3 := hid (HG2.out.below HBz.out)
          have HB3 := hid (HB.out.trans ((HB2.out.trans (HBz.out.mono HB2.out.size)).mono HB.out.size))
          clear hj hall hqB hqb hql
          simp only [putAll, Act.put]
          go_wp2_with fail
          go_roundw
          case rel => exact ⟨0 + 1, by omega, by go_num, HG3.out, HB3.out⟩
          case measure => simp [intOf]
    · have c5 : wr.cell? ⟨g, 1, none⟩ = some (.int .i64 4) := HG.out.sizes.cell 1
      have c6 : wr.cell? ⟨g + 1, 1, none⟩ = some (.int .i64 3) := HG.out.kinds.cell 1
      have HC6 := hid c6
      go_upto_region 16 with fail
      clear c5 c6
      refine wp_region_inv (JC wr (G16 g 1 1 3 stream 3) 8 true true 6) rfl ?_ ?_ ?_ ?_
      · kernel_rfl
      · exact JC.start ((Below.refl _ _).drew)
      · refine ⟨?_, ?_, ?_, ?_, ?_, ?_, ?_, ?_, ?_, ?_, ?_, ?_, ?_, ?_, ?_, ?_, trivial⟩
        · intro d x a wx F hdi hdep hj
          have e : a.tmps.getD 6 undef = .slice (some ⟨g + 1, 0, none⟩) 6 6 := F.kept (t := 6) (by kernel_rfl)
          have eq := e
          rw [Array.getD_eq_getD_getElem?] at eq
          exact wp_val (v := .slice (some ⟨g + 1, 0, none⟩) 6 6) (w' := wx) (by clear hj F hdep; go_simp) ⟨_, rfl, hj.quiet (g16_ok g 1 1 3 stream 3) (by omega) (Below.refl _ _) rfl⟩
        · intro d x a wx F hdi hdep hj
          have e : a.tmps.getD 7 undef = .int .i64 1 := F.kept (t := 7) (by kernel_rfl)
          have eq := e
          rw [Array.getD_eq_getD_getElem?] at eq
          exact wp_val (v := .int .i64 1) (w' := wx) (by clear hj F hdep; go_simp) ⟨_, rfl, hj.quiet (g16_ok g 1 1 3 stream 3) (by omega) (Below.refl _ _) rfl⟩
        · intro d x a wx F hdi hdep hj
          have D0 : d 0 = true := hdep ⟨0, .data⟩ (by simp) rfl
          have D1 : d 1 = true := hdep ⟨1, .data⟩ (by simp) rfl
          have e62 := (F.got (i := 0) (t := 62) rfl rfl (D0) (Nat.lt_of_lt_of_eq (show 62 < 132 by omega) rfl)).trans (hj.pre 0 (by omega) D0)
          have e62q := e62
          rw [Array.getD_eq_getD_getElem?] at e62q
          have e63 := (F.got (i := 1) (t := 63) rfl rfl (D1) (Nat.lt_of_lt_of_eq (show 63 < 132 by omega) rfl)).trans (hj.pre 1 (by omega) D1)
          have e63q := e63
          rw [Array.getD_eq_getD_getElem?] at e63q
          exact wp_val (v := .pointer (some ⟨g + 1, 1, none⟩)) (w' := wx) (by clear hj F hdep; go_simp) ⟨_, rfl, hj.quiet (g16_ok g 1 1 3 stream 3) (by omega) (Below.refl _ _) rfl⟩
        · intro d x a wx F hdi hdep hj
          have D2 : d 2 = true := hdep ⟨2, .data⟩ (by simp) rfl
          have e64 := (F.got (i := 2) (t := 64) rfl rfl (D2) (Nat.lt_of_lt_of_eq (show 64 < 132 by omega) rfl)).trans (hj.pre 2 (by omega) D2)
          have e64q := e64
          rw [Array.getD_eq_getD_getElem?] at e64q
          have z := below_keep hj.below _ _ HC6.out
          exact wp_val (v := .int .i64 3) (w' := wx) (by clear hj F hdep; go_simp) ⟨_, rfl, hj.quiet (g16_ok g 1 1 3 stream 3) (by omega) (Below.refl _ _) rfl⟩
        · intro d x a wx F hdi hdep hj
          have e : a.tmps.getD 8 undef = .int .i64 stream := F.kept (t := 8) (by kernel_rfl)
          have eq := e
          rw [Array.getD_eq_getD_getElem?] at eq
          exact wp_val (v := .int .i64 stream) (w' := wx) (by clear hj F hdep; go_simp) ⟨_, rfl, hj.quiet (g16_ok g 1 1 3 stream 3) (by omega) (Below.refl _ _) rfl⟩
        · intro d x a wx F hdi hdep hj
          have e : a.tmps.getD 9 undef = .int .i64 3 := F.kept (t := 9) (by kernel_rfl)
          have eq := e
          rw [Array.getD_eq_getD_getElem?] at eq
          exact wp_val (v := .int .i64 3) (w' := wx) (by clear hj F hdep; go_simp) ⟨_, rfl, hj.quiet (g16_ok g 1 1 3 stream 3) (by omega) (Below.refl _ _) rfl⟩
        · intro d x a wx F hdi hdep hj
          have D5 : d 5 = true := hdep ⟨5, .data⟩ (by simp) rfl
          have e67 := (F.got (i := 5) (t := 67) rfl rfl (D5) (Nat.lt_of_lt_of_eq (show 67 < 132 by omega) rfl)).trans (hj.pre 5 (by omega) D5)
          have e67q := e67
          rw [Array.getD_eq_getD_getElem?] at e67q
          have hmk : ∀ w, (Instr.makeSlice 25 (.int .i64 3) (.int .i64 3)).run Try.prog w = .ok (.slice (some ⟨w.heap.size, 0, none⟩) 3 3) (w.alloc (.cells #[.int .u8 0, .int .u8 0, .int .u8 0] 5)) := fun _ => by kernel_rfl
          exact wp_val (v := .slice (some ⟨wx.heap.size, 0, none⟩) 3 3) (w' := wx.alloc (.cells #[.int .u8 0, .int .u8 0, .int .u8 0] 5)) (by clear hj F hdep; go_simp) ⟨_, rfl, hj.quiet (g16_ok g 1 1 3 stream 3) (by omega) ((Below.refl _ _).alloc (Nat.le_refl _) _) ⟨wx.heap.size, rfl, .inr (rd_new (size := 1) rfl rfl)⟩⟩
        · intro d x a wx F hdi hdep hj
          have D3 : d 3 = true := hdep ⟨3, .data⟩ (by simp) rfl
          have D4 : d 4 = true := hdep ⟨4, .data⟩ (by simp) rfl
          have D6 : d 6 = true := hdep ⟨6, .data⟩ (by simp) rfl
          have e65 := (F.got (i := 3) (t := 65) rfl rfl (D3) (Nat.lt_of_lt_of_eq (show 65 < 132 by omega) rfl)).trans (hj.pre 3 (by omega) D3)
          have e65q := e65
          rw [Array.getD_eq_getD_getElem?] at e65q
          have e66 := (F.got (i := 4) (t := 66) rfl rfl (D4) (Nat.lt_of_lt_of_eq (show 66 < 132 by omega) rfl)).trans (hj.pre 4 (by omega) D4)
          have e66q := e66
          rw [Array.getD_eq_getD_getElem?] at e66q
          obtain ⟨b, eb, hB⟩ := hj.pre 6 (by omega) D6
          have e68 := (F.got (i := 6) (t := 68) rfl rfl (D6) (Nat.lt_of_lt_of_eq (show 68 < 132 by omega) rfl)).trans eb
          have e68q := e68
          rw [Array.getD_eq_getD_getElem?] at e68q
          have HBq := hid hB
          clear hB eb
          exact wp_val (v := .agg #[.int .i64 3, .int .i64 0, .int .i64 stream, .slice (some ⟨b, 0, none⟩) 3 3]) (w' := wx) (by clear hj F hdep; go_simp) ⟨_, rfl, hj.quiet (g16_ok g 1 1 3 stream 3) (by omega) (Below.refl _ _) ⟨b, rfl, HBq.out.imp setB_of id⟩⟩
        · intro d x a wx F hdi hdep hj
          have D7 : d 7 = true := hdep ⟨7, .data⟩ (by simp) rfl
          obtain ⟨b, eb, hB⟩ := hj.pre 7 (by omega) D7
          have e69 := (F.got (i := 7) (t := 69) rfl rfl (D7) (Nat.lt_of_lt_of_eq (show 69 < 132 by omega) rfl)).trans eb
          have HBq := hid (hB.resolve_left (by rw [hdi]; simp))
          clear hB eb
          have e69q := e69
          rw [Array.getD_eq_getD_getElem?] at e69q
          exact wp_call (f := 9) (args := #[.agg #[.int .i64 3, .int .i64 0, .int .i64 stream, .slice (some ⟨b, 0, none⟩) 3 3]]) (by clear hj F hdep; go_simp) (Calls.mono (read_any 3 0 stream (some ⟨b, 0, none⟩) 3 3 (zl 3) wx HBq.out (Nat.le_refl _) (by omega)) (fun e w' hp => cut_spec_1_0 stream hst wx e w' hp)) (fun u w' hu hb => ⟨_, rfl, hj.call (g16_ok g 1 1 3 stream 3) hb D7 hu⟩)
        · intro d x a wx F hdi hdep hj
          have D8 : d 8 = true := hdep ⟨8, .data⟩ (by simp) rfl
          obtain ⟨u, hu, ex⟩ := hj.c0 D8
          have e := (F.got (i := 8) (t := 70) rfl rfl (D8) (Nat.lt_of_lt_of_eq (show 70 < 132 by omega) rfl)).trans ex
          have eq := e
          rw [Array.getD_eq_getD_getElem?] at eq
          exact wp_val (v := .tuple #[u, .agg #[.bool true, .bool true, .int .i64 6]]) (w' := wx) (by clear hj F hdep; go_simp) ⟨_, rfl, hj.plain (g16_ok g 1 1 3 stream 3) (q := 1) rfl (by omega) (by omega) hdi (fun _ => ⟨D8, u, hu, rfl⟩) (fun e => absurd e (by omega)) (fun e => absurd e (by omega))⟩
        · intro d x a wx F hdi hdep hj
          have D9 : d 9 = true := hdep ⟨9, .data⟩ (by simp) rfl
          obtain ⟨D, u, hu, ex⟩ := hj.c1 D9
          have e := (F.got (i := 9) (t := 61) rfl rfl (D9) (Nat.lt_of_lt_of_eq (show 61 < 132 by omega) rfl)).trans ex
          have eq := e
          rw [Array.getD_eq_getD_getElem?] at eq
          exact wp_val (v := u) (w' := wx) (by clear hj F hdep; go_simp) ⟨_, rfl, hj.plain (g16_ok g 1 1 3 stream 3) (q := 2) rfl (by omega) (by omega) hdi (fun e => absurd e (by omega)) (fun _ => ⟨D, hu⟩) (fun e => absurd e (by omega))⟩
        · intro d x a wx F hdi hdep hj
          have D9 : d 9 = true := hdep ⟨9, .data⟩ (by simp) rfl
          obtain ⟨D, u, hu, ex⟩ := hj.c1 D9
          have e := (F.got (i := 9) (t := 61) rfl rfl (D9) (Nat.lt_of_lt_of_eq (show 61 < 132 by omega) rfl)).trans ex
          have eq := e
          rw [Array.getD_eq_getD_getElem?] at eq
          exact wp_val (v := .agg #[.bool true, .bool true, .int .i64 6]) (w' := wx) (by clear hj F hdep; go_simp) ⟨_, rfl, hj.plain (g16_ok g 1 1 3 stream 3) (q := 3) rfl (by omega) (by omega) hdi (fun e => absurd e (by omega)) (fun e => absurd e (by omega)) (fun _ => ⟨D, rfl⟩)⟩
        · intro d x a wx F hdi hdep hj
          exact wp_val (v := .pointer (some ⟨wx.heap.size, 0, none⟩)) (w' := wx.alloc (.cells zeroPart 28)) (by clear hj F hdep; unfold zeroPart; go_simp) ⟨_, rfl, hj.allA (g16_ok g 1 1 3 stream 3) hdi⟩
        · intro d x a wx F hdi hdep hj
          exact wp_val (v := .pointer (some ⟨wx.heap.size, 0, none⟩)) (w' := wx.alloc (.cells zeroFault 30)) (by clear hj F hdep; unfold zeroFault; go_simp) ⟨_, rfl, hj.allB (g16_ok g 1 1 3 stream 3) hdi⟩
        · intro d x a wx F hdi hdep hj
          have D10 : d 10 = true := hdep ⟨10, .data⟩ (by simp) rfl
          have D12 : d 12 = true := hdep ⟨12, .data⟩ (by simp) rfl
          obtain ⟨D, hp⟩ := hj.c2 D10
          obtain ⟨Ad, nd, cd, pad, code, last, step, As, ns, cs, ee, aa, ww, ex⟩ := hp
          obtain ⟨p, ep, hp1, hp2, hp3⟩ := hj.bA D12
          have hB := hp3.resolve_left (by rw [hdi]; simp)
          have e1 := (F.got (i := 10) (t := 71) rfl rfl (D10) (Nat.lt_of_lt_of_eq (show 71 < 132 by omega) rfl)).trans ex
          have e2 := (F.got (i := 12) (t := 10) rfl rfl (D12) (Nat.lt_of_lt_of_eq (show 10 < 132 by omega) rfl)).trans ep
          have e1q := e1
          rw [Array.getD_eq_getD_getElem?] at e1q
          have e2q := e2
          rw [Array.getD_eq_getD_getElem?] at e2q
          have z0 := hB.cell 0
          have f0 := hB.frozen 0
          have z1 := hB.cell 1
          have f1 := hB.frozen 1
          have z2 := hB.cell 2
          have f2 := hB.frozen 2
          have z3 := hB.cell 3
          have f3 := hB.frozen 3
          have z4 := hB.cell 4
          have f4 := hB.frozen 4
          have z5 := hB.cell 5
          have f5 := hB.frozen 5
          have z6 := hB.cell 6
          have f6 := hB.frozen 6
          have z7 := hB.cell 7
          have f7 := hB.frozen 7
          have z8 := hB.cell 8
          have f8 := hB.frozen 8
          simp [zeroPart] at z0 z1 z2 z3 z4 z5 z6 z7 z8
          have HJ := hid hj
          have HH := hid (And.intro hdi D12)
          have HD := hid D
          have HE := hid ep
          clear hj F hdep ex ep hp1 hp2 hp3 hB hdi D D10 D12
          unfold Oper.wp
          go_simp
          exact ⟨undef, HJ.out.stA (g16_ok g 1 1 3 stream 3) HH.out.1 HH.out.2 HD.out HE.out ((((((((((Turned.refl _ _).setCell (by simp) _).setCell (by simp) _).setCell (by simp) _).setCell (by simp) _).setCell (by simp) _).setCell (by simp) _).setCell (by simp) _).setCell (by simp) _).setCell (by simp) _)⟩
        · intro d x a wx F hdi hdep hj
          have D11 : d 11 = true := hdep ⟨11, .data⟩ (by simp) rfl
          have D13 : d 13 = true := hdep ⟨13, .data⟩ (by simp) rfl
          obtain ⟨D, ex⟩ := hj.c3 D11
          obtain ⟨p, ep, hp1, hp2, hp3⟩ := hj.bB D13
          have hB := hp3.resolve_left (by rw [hdi]; simp)
          have e1 := (F.got (i := 11) (t := 72) rfl rfl (D11) (Nat.lt_of_lt_of_eq (show 72 < 132 by omega) rfl)).trans ex
          have e2 := (F.got (i := 13) (t := 11) rfl rfl (D13) (Nat.lt_of_lt_of_eq (show 11 < 132 by omega) rfl)).trans ep
          have e1q := e1
          rw [Array.getD_eq_getD_getElem?] at e1q
          have e2q := e2
          rw [Array.getD_eq_getD_getElem?] at e2q
          have z0 := hB.cell 0
          have f0 := hB.frozen 0
          have z1 := hB.cell 1
          have f1 := hB.frozen 1
          have z2 := hB.cell 2
          have f2 := hB.frozen 2
          simp [zeroFault] at z0 z1 z2
          have HJ := hid hj
          have HH := hid (And.intro hdi D13)
          have HD := hid D
          have HE := hid ep
          have HBB := hid hB
          clear hj F hdep ex ep hp1 hp2 hp3 hB hdi D D11 D13
          unfold Oper.wp
          go_simp
          exact ⟨undef, HJ.out.stB (g16_ok g 1 1 3 stream 3) HH.out.1 HH.out.2 HD.out HE.out ((((Turned.refl _ _).setCell (by simp) _).setCell (by simp) _).setCell (by simp) _) (by have h9 := ((HBB.out.set_ 0 (.bool true)).set_ 1 (.bool true)).set_ 2 (.int .i64 6); simpa [zeroFault] using h9)⟩
      · intro d x wx hall hj
        obtain ⟨_, q, eq, hqb, hql, hqB⟩ := hj.fin (hall 15 (show 15 < 16 by omega))
        have HBw := hid hj.below
        have HQ := hid (hqB.resolve_left id)
        have m0 := HQ.out.cell 0
        have m1 := HQ.out.cell 1
        have m2 := HQ.out.cell 2
        simp at m0 m1 m2 eq
        have c6 := below_keep HBw.out _ _ HC6.out
        have HG1 := hid (HG.out.below HBw.out)
        clear hj hall hqB hqb hql
        simp only [putAll, Act.put]
        go_wp2_with fail
        (refine wp_mix ?_ ?_ ?_; (focus kernel_rfl); (focus kernel_rfl); intro KK hKK; go_wp2_with (first
              | (fail)
              | (with_reducible refine mix_nil ?_)
              | ((with_reducible refine mix_on ?_ ?_); (focus rfl); intro K hK; go_simp; (first | ((with_reducible refine hK _ _ ?_); clear hK K) | skip))
              | ((with_reducible refine mix_off ?_ ?_); (focus rfl); intro K hK; go_simp; (first | ((with_reducible refine hK _ _ ?_); clear hK K) | skip))
              | ((with_reducible refine mix_step ?_); intro K hK; go_simp; (first | ((with_reducible refine hK _ _ ?_); clear hK K) | skip))))
        go_upto_region 20 with fail
        clear m0 m1 m2 c6 eq
        have HB2 := hid (HBw.out.trans ((Below.refl wx.heap.size wx).drew.mono HBw.out.size))
        have HG2 := hid (HG1.out.below (Below.refl wx.heap.size wx).drew)
        generalize wx.drew = wy at HB2 HG2 ⊢
        clear HBw HQ HG1
        refine wp_region_inv (JC wy (G20 wy.heap.size g 1 1 3 4 stream 3) 14 false false 0) rfl ?_ ?_ ?_ ?_
        · kernel_rfl
        · exact JC.start ((Below.refl _ _).drew)
        · refine ⟨?_, ?_, ?_, ?_, ?_, ?_, ?_, ?_, ?_, ?_, ?_, ?_, ?_, ?_, ?_, ?_, ?_, ?_, ?_, ?_, ?_, ?_, trivial⟩
          · intro d x a wx F hdi hdep hj
            have e : a.tmps.getD 6 undef = .slice (some ⟨g + 1, 0, none⟩) 6 6 := F.kept (t := 6) (by kernel_rfl)
            have eq := e
            rw [Array.getD_eq_getD_getElem?] at eq
            exact wp_val (v := .slice (some ⟨g + 1, 0, none⟩) 6 6) (w' := wx) (by clear hj F hdep; go_simp) ⟨_, rfl, hj.quiet (g20_ok wy.heap.size g 1 1 3 4 stream 3) (by omega) (Below.refl _ _) rfl⟩
          · intro d x a wx F hdi hdep hj
            have e : a.tmps.getD 7 undef = .int .i64 1 := F.kept (t := 7) (by kernel_rfl)
            have eq := e
            rw [Array.getD_eq_getD_getElem?] at eq
            exact wp_val (v := .int .i64 1) (w' := wx) (by clear hj F hdep; go_simp) ⟨_, rfl, hj.quiet (g20_ok wy.heap.size g 1 1 3 4 stream 3) (by omega) (Below.refl _ _) rfl⟩
          · intro d x a wx F hdi hdep hj
            have D0 : d 0 = true := hdep ⟨0, .data⟩ (by simp) rfl
            have D1 : d 1 = true := hdep ⟨1, .data⟩ (by simp) rfl
            have e112 := (F.got (i := 0) (t := 112) rfl rfl (D0) (Nat.lt_of_lt_of_eq (show 112 < 132 by omega) rfl)).trans (hj.pre 0 (by omega) D0)
            have e112q := e112
            rw [Array.getD_eq_getD_getElem?] at e112q
            have e113 := (F.got (i := 1) (t := 113) rfl rfl (D1) (Nat.lt_of_lt_of_eq (show 113 < 132 by omega) rfl)).trans (hj.pre 1 (by omega) D1)
            have e113q := e113
            rw [Array.getD_eq_getD_getElem?] at e113q
            exact wp_val (v := .pointer (some ⟨g + 1, 1, none⟩)) (w' := wx) (by clear hj F hdep; go_simp) ⟨_, rfl, hj.quiet (g20_ok wy.heap.size g 1 1 3 4 stream 3) (by omega) (Below.refl _ _) rfl⟩
          · intro d x a wx F hdi hdep hj
            have D2 : d 2 = true := hdep ⟨2, .data⟩ (by simp) rfl
            have e114 := (F.got (i := 2) (t := 114) rfl rfl (D2) (Nat.lt_of_lt_of_eq (show 114 < 132 by omega) rfl)).trans (hj.pre 2 (by omega) D2)
            have e114q := e114
            rw [Array.getD_eq_getD_getElem?] at e114q
            have z := below_keep hj.below _ _ (show wy.cell? ⟨g + 1, 1, none⟩ = some (.int .i64 3) from HG2.out.kinds.cell 1)
            exact wp_val (v := .int .i64 3) (w' := wx) (by clear hj F hdep; go_simp) ⟨_, rfl, hj.quiet (g20_ok wy.heap.size g 1 1 3 4 stream 3) (by omega) (Below.refl _ _) rfl⟩
          · intro d x a wx F hdi hdep hj
            have e : a.tmps.getD 8 undef = .int .i64 stream := F.kept (t := 8) (by kernel_rfl)
            have eq := e
            rw [Array.getD_eq_getD_getElem?] at eq
            exact wp_val (v := .int .i64 stream) (w' := wx) (by clear hj F hdep; go_simp) ⟨_, rfl, hj.quiet (g20_ok wy.heap.size g 1 1 3 4 stream 3) (by omega) (Below.refl _ _) rfl⟩
          · intro d x a wx F hdi hdep hj
            have e : a.tmps.getD 5 undef = .slice (some ⟨g, 0, none⟩) 6 6 := F.kept (t := 5) (by kernel_rfl)
            have eq := e
            rw [Array.getD_eq_getD_getElem?] at eq
            exact wp_val (v := .slice (some ⟨g, 0, none⟩) 6 6) (w' := wx) (by clear hj F hdep; go_simp) ⟨_, rfl, hj.quiet (g20_ok wy.heap.size g 1 1 3 4 stream 3) (by omega) (Below.refl _ _) rfl⟩
          · intro d x a wx F hdi hdep hj
            have e : a.tmps.getD 7 undef = .int .i64 1 := F.kept (t := 7) (by kernel_rfl)
            have eq := e
            rw [Array.getD_eq_getD_getElem?] at eq
            exact wp_val (v := .int .i64 1) (w' := wx) (by clear hj F hdep; go_simp) ⟨_, rfl, hj.quiet (g20_ok wy.heap.size g 1 1 3 4 stream 3) (by omega) (Below.refl _ _) rfl⟩
          · intro d x a wx F hdi hdep hj
            have D5 : d 5 = true := hdep ⟨5, .data⟩ (by simp) rfl
            have D6 : d 6 = true := hdep ⟨6, .data⟩ (by simp) rfl
            have e117 := (F.got (i := 5) (t := 117) rfl rfl (D5) (Nat.lt_of_lt_of_eq (show 117 < 132 by omega) rfl)).trans (hj.pre 5 (by omega) D5)
            have e117q := e117
            rw [Array.getD_eq_getD_getElem?] at e117q
            have e118 := (F.got (i := 6) (t := 118) rfl rfl (D6) (Nat.lt_of_lt_of_eq (show 118 < 132 by omega) rfl)).trans (hj.pre 6 (by omega) D6)
            have e118q := e118
            rw [Array.getD_eq_getD_getElem?] at e118q
            exact wp_val (v := .pointer (some ⟨g, 1, none⟩)) (w' := wx) (by clear hj F hdep; go_simp) ⟨_, rfl, hj.quiet (g20_ok wy.heap.size g 1 1 3 4 stream 3) (by omega) (Below.refl _ _) rfl⟩
          · intro d x a wx F hdi hdep hj
            have D7 : d 7 = true := hdep ⟨7, .data⟩ (by simp) rfl
            have e119 := (F.got (i := 7) (t := 119) rfl rfl (D7) (Nat.lt_of_lt_of_eq (show 119 < 132 by omega) rfl)).trans (hj.pre 7 (by omega) D7)
            have e119q := e119
            rw [Array.getD_eq_getD_getElem?] at e119q
            have z := below_keep hj.below _ _ (show wy.cell? ⟨g, 1, none⟩ = some (.int .i64 4) from HG2.out.sizes.cell 1)
            exact wp_val (v := .int .i64 4) (w' := wx) (by clear hj F hdep; go_simp) ⟨_, rfl, hj.quiet (g20_ok wy.heap.size g 1 1 3 4 stream 3) (by omega) (Below.refl _ _) rfl⟩
          · intro d x a wx F hdi hdep hj
            have D8 : d 8 = true := hdep ⟨8, .data⟩ (by simp) rfl
            have e120 := (F.got (i := 8) (t := 120) rfl rfl (D8) (Nat.lt_of_lt_of_eq (show 120 < 132 by omega) rfl)).trans (hj.pre 8 (by omega) D8)
            have e120q := e120
            rw [Array.getD_eq_getD_getElem?] at e120q
            have hw : IntKind.i64.wrap 3 = 3 := rfl
            exact wp_val (v := .int .i64 3) (w' := wx) (by clear hj F hdep; go_simp) ⟨_, rfl, hj.quiet (g20_ok wy.heap.size g 1 1 3 4 stream 3) (by omega) (Below.refl _ _) rfl⟩
          · intro d x a wx F hdi hdep hj
            have D9 : d 9 = true := hdep ⟨9, .data⟩ (by simp) rfl
            have e121 := (F.got (i := 9) (t := 121) rfl rfl (D9) (Nat.lt_of_lt_of_eq (show 121 < 132 by omega) rfl)).trans (hj.pre 9 (by omega) D9)
            have e121q := e121
            rw [Array.getD_eq_getD_getElem?] at e121q
            have hmk : ∀ w, (Instr.makeSlice 25 (.int .i64 3) (.int .i64 3)).run Try.prog w = .ok (.slice (some ⟨w.heap.size, 0, none⟩) 3 3) (w.alloc (.cells #[.int .u8 0, .int .u8 0, .int .u8 0] 5)) := fun _ => by kernel_rfl
            exact wp_val (v := .slice (some ⟨wx.heap.size, 0, none⟩) 3 3) (w' := wx.alloc (.cells #[.int .u8 0, .int .u8 0, .int .u8 0] 5)) (by clear hj F hdep; go_simp) ⟨_, rfl, hj.quiet (g20_ok wy.heap.size g 1 1 3 4 stream 3) (by omega) ((Below.refl _ _).alloc (Nat.le_refl _) _) (.inr (.inr (World.ownsRow_lit (base := wy.heap.size) (e := 5) (size := 1) wx #[.int .u8 0, .int .u8 0, .int .u8 0] 3 hj.below.size (by decide) rfl)))⟩
          · intro d x a wx F hdi hdep hj
            exact wp_val (v := .slice (some ⟨wx.heap.size, 0, none⟩) 1 1) (w' := wx.alloc (.cells #[.int .u8 1] 5)) (by clear hj F hdep; go_simp) ⟨_, rfl, hj.quiet (g20_ok wy.heap.size g 1 1 3 4 stream 3) (by omega) ((Below.refl _ _).alloc (Nat.le_refl _) _) (.inr (.inr ⟨wx.heap.size, rfl, rd_new (size := 1) rfl rfl⟩))⟩
          · intro d x a wx F hdi hdep hj
            have D10 : d 10 = true := hdep ⟨10, .data⟩ (by simp) rfl
            have D11 : d 11 = true := hdep ⟨11, .data⟩ (by simp) rfl
            have h14 : d 14 = false := by
              rcases h : d 14 with _ | _
              · rfl
              · have h13 := hj.cb h
                have h12 := (hj.pre 13 (by omega) h13).1
                rw [hdi] at h12
                cases h12
            have hown := ((hj.pre 10 (by omega) D10).resolve_left (by rw [hdi]; simp)).resolve_left (by rw [h14]; simp)
            obtain ⟨b, eb, hB⟩ := ((hj.pre 11 (by omega) D11).resolve_left (by rw [hdi]; simp)).resolve_left (by rw [h14]; simp)
            have e122 := F.got (i := 10) (t := 122) rfl rfl (D10) (Nat.lt_of_lt_of_eq (show 122 < 132 by omega) rfl)
            have e123 := (F.got (i := 11) (t := 123) rfl rfl (D11) (Nat.lt_of_lt_of_eq (show 123 < 132 by omega) rfl)).trans eb
            refine wp_app wx (.tmp 122) (.tmp 123) 25 rfl wy.heap.size 5 i0 _ 1 1 Try.underlying25 hi.out hz.out hsz.out hby.out rfl (by decide) (x 10) 3 _ e122 hown (some ⟨b, 0, none⟩) 1 1 ([1].map bv) e123 hB (bv_one _) (by decide) (by decide) hj.below.size ?_
            intro A' c' w' ho hg hat
            refine ⟨_, rfl, hj.step (by omega) (below_app hj.below hown hg (Nat.le_refl _) hj.below.size) hg.size (fun q hq => hq.grown hg (fun e => Blk.own_ne hq hown (by decide) e.symm)) (fun q cs hq => hq.grown hg (fun e => Blk.own_ne hq hown (by decide) e.symm)) (fun j hj' hne hd hG => ?_) ⟨A', c', rfl, .inr ⟨own_le ho, by have h9 := Bs.of_own (l := zl 3 ++ [1]) (by rw [List.map_append]; exact ho); exact h9⟩⟩⟩
            match j, hj' with
            | 0, _ => exact hG
            | 1, _ => exact hG
            | 2, _ => exact hG
            | 3, _ => exact hG
            | 4, _ => exact hG
            | 5, _ => exact hG
            | 6, _ => exact hG
            | 7, _ => exact hG
            | 8, _ => exact hG
            | 9, _ => exact hG
            | 10, _ => exact .inl (setB_self _ _)
            | 11, _ => exact .inl (setB_self _ _)
            | 12, _ => exact absurd rfl hne
            | 13, _ =>
              have h12 := hG.1
              rw [hdi] at h12
              cases h12
          · intro d x a wx F hdi hdep hj
            have D3 : d 3 = true := hdep ⟨3, .data⟩ (by simp) rfl
            have D4 : d 4 = true := hdep ⟨4, .data⟩ (by simp) rfl
            have D12 : d 12 = true := hdep ⟨12, .data⟩ (by simp) rfl
            have e115 := (F.got (i := 3) (t := 115) rfl rfl (D3) (Nat.lt_of_lt_of_eq (show 115 < 132 by omega) rfl)).trans (hj.pre 3 (by omega) D3)
            have e115q := e115
            rw [Array.getD_eq_getD_getElem?] at e115q
            have e116 := (F.got (i := 4) (t := 116) rfl rfl (D4) (Nat.lt_of_lt_of_eq (show 116 < 132 by omega) rfl)).trans (hj.pre 4 (by omega) D4)
            have e116q := e116
            rw [Array.getD_eq_getD_getElem?] at e116q
            obtain ⟨A, c, eb, hB⟩ := hj.pre 12 (by omega) D12
            have e124 := (F.got (i := 12) (t := 124) rfl rfl (D12) (Nat.lt_of_lt_of_eq (show 124 < 132 by omega) rfl)).trans eb
            have e124q := e124
            rw [Array.getD_eq_getD_getElem?] at e124q
            have HBq := hid hB
            clear hB eb
            exact wp_val (v := .agg #[.int .i64 3, .int .i64 0, .int .i64 stream, .slice A (3 + 1) c]) (w' := wx) (by clear hj F hdep; go_simp) ⟨_, rfl, hj.quiet (g20_ok wy.heap.size g 1 1 3 4 stream 3) (by omega) (Below.refl _ _) ⟨setB_of D12, A, c, rfl, HBq.out.imp setB_of id⟩⟩
          · intro d x a wx F hdi hdep hj
            have D13 : d 13 = true := hdep ⟨13, .data⟩ (by simp) rfl
            obtain ⟨_, A, c, eb, hB⟩ := hj.pre 13 (by omega) D13
            have e125 := (F.got (i := 13) (t := 125) rfl rfl (D13) (Nat.lt_of_lt_of_eq (show 125 < 132 by omega) rfl)).trans eb
            have HBq := hid (hB.resolve_left (by rw [hdi]; simp))
            clear hB eb
            have e125q := e125
            rw [Array.getD_eq_getD_getElem?] at e125q
            exact wp_call (f := 9) (args := #[.agg #[.int .i64 3, .int .i64 0, .int .i64 stream, .slice A (3 + 1) c]]) (by clear hj F hdep; go_simp) (Calls.mono (read_any 3 0 stream A (3 + 1) c (zl 3 ++ [1]) wx HBq.out.2 HBq.out.1 (by omega)) (fun e w' hp => cut_ok_1 stream hst wx e w' hp)) (fun u w' hu hb => ⟨_, rfl, hj.call (g20_ok wy.heap.size g 1 1 3 4 stream 3) hb D13 hu⟩)
          · intro d x a wx F hdi hdep hj
            have D14 : d 14 = true := hdep ⟨14, .data⟩ (by simp) rfl
            obtain ⟨u, hu, ex⟩ := hj.c0 D14
            have e := (F.got (i := 14) (t := 126) rfl rfl (D14) (Nat.lt_of_lt_of_eq (show 126 < 132 by omega) rfl)).trans ex
            have eq := e
            rw [Array.getD_eq_getD_getElem?] at eq
            exact wp_val (v := .tuple #[u, .agg #[.bool false, .bool false, .int .i64 0]]) (w' := wx) (by clear hj F hdep; go_simp) ⟨_, rfl, hj.plain (g20_ok wy.heap.size g 1 1 3 4 stream 3) (q := 1) rfl (by omega) (by omega) hdi (fun _ => ⟨D14, u, hu, rfl⟩) (fun e => absurd e (by omega)) (fun e => absurd e (by omega))⟩
          · intro d x a wx F hdi hdep hj
            have D15 : d 15 = true := hdep ⟨15, .data⟩ (by simp) rfl
            obtain ⟨D, u, hu, ex⟩ := hj.c1 D15
            have e := (F.got (i := 15) (t := 111) rfl rfl (D15) (Nat.lt_of_lt_of_eq (show 111 < 132 by omega) rfl)).trans ex
            have eq := e
            rw [Array.getD_eq_getD_getElem?] at eq
            exact wp_val (v := u) (w' := wx) (by clear hj F hdep; go_simp) ⟨_, rfl, hj.plain (g20_ok wy.heap.size g 1 1 3 4 stream 3) (q := 2) rfl (by omega) (by omega) hdi (fun e => absurd e (by omega)) (fun _ => ⟨D, hu⟩) (fun e => absurd e (by omega))⟩
          · intro d x a wx F hdi hdep hj
            have D15 : d 15 = true := hdep ⟨15, .data⟩ (by simp) rfl
            obtain ⟨D, u, hu, ex⟩ := hj.c1 D15
            have e := (F.got (i := 15) (t := 111) rfl rfl (D15) (Nat.lt_of_lt_of_eq (show 111 < 132 by omega) rfl)).trans ex
            have eq := e
            rw [Array.getD_eq_getD_getElem?] at eq
            exact wp_val (v := .agg #[.bool false, .bool false, .int .i64 0]) (w' := wx) (by clear hj F hdep; go_simp) ⟨_, rfl, hj.plain (g20_ok wy.heap.size g 1 1 3 4 stream 3) (q := 3) rfl (by omega) (by omega) hdi (fun e => absurd e (by omega)) (fun e => absurd e (by omega)) (fun _ => ⟨D, rfl⟩)⟩
          · intro d x a wx F hdi hdep hj
            exact wp_val (v := .pointer (some ⟨wx.heap.size, 0, none⟩)) (w' := wx.alloc (.cells zeroPart 28)) (by clear hj F hdep; unfold zeroPart; go_simp) ⟨_, rfl, hj.allA (g20_ok wy.heap.size g 1 1 3 4 stream 3) hdi⟩
          · intro d x a wx F hdi hdep hj
            exact wp_val (v := .pointer (some ⟨wx.heap.size, 0, none⟩)) (w' := wx.alloc (.cells zeroFault 30)) (by clear hj F hdep; unfold zeroFault; go_simp) ⟨_, rfl, hj.allB (g20_ok wy.heap.size g 1 1 3 4 stream 3) hdi⟩
          · intro d x a wx F hdi hdep hj
            have D16 : d 16 = true := hdep ⟨16, .data⟩ (by simp) rfl
            have D18 : d 18 = true := hdep ⟨18, .data⟩ (by simp) rfl
            obtain ⟨D, hp⟩ := hj.c2 D16
            obtain ⟨Ad, nd, cd, pad, code, last, step, As, ns, cs, ee, aa, ww, ex⟩ := hp
            obtain ⟨p, ep, hp1, hp2, hp3⟩ := hj.bA D18
            have hB := hp3.resolve_left (by rw [hdi]; simp)
            have e1 := (F.got (i := 16) (t := 127) rfl rfl (D16) (Nat.lt_of_lt_of_eq (show 127 < 132 by omega) rfl)).trans ex
            have e2 := (F.got (i := 18) (t := 13) rfl rfl (D18) (Nat.lt_of_lt_of_eq (show 13 < 132 by omega) rfl)).trans ep
            have e1q := e1
            rw [Array.getD_eq_getD_getElem?] at e1q
            have e2q := e2
            rw [Array.getD_eq_getD_getElem?] at e2q
            have z0 := hB.cell 0
            have f0 := hB.frozen 0
            have z1 := hB.cell 1
            have f1 := hB.frozen 1
            have z2 := hB.cell 2
            have f2 := hB.frozen 2
            have z3 := hB.cell 3
            have f3 := hB.frozen 3
            have z4 := hB.cell 4
            have f4 := hB.frozen 4
            have z5 := hB.cell 5
            have f5 := hB.frozen 5
            have z6 := hB.cell 6
            have f6 := hB.frozen 6
            have z7 := hB.cell 7
            have f7 := hB.frozen 7
            have z8 := hB.cell 8
            have f8 := hB.frozen 8
            simp [zeroPart] at z0 z1 z2 z3 z4 z5 z6 z7 z8
            have HJ := hid hj
            have HH := hid (And.intro hdi D18)
            have HD := hid D
            have HE := hid ep
            clear hj F hdep ex ep hp1 hp2 hp3 hB hdi D D16 D18
            unfold Oper.wp
            go_simp
            exact ⟨undef, HJ.out.stA (g20_ok wy.heap.size g 1 1 3 4 stream 3) HH.out.1 HH.out.2 HD.out HE.out ((((((((((Turned.refl _ _).setCell (by simp) _).setCell (by simp) _).setCell (by simp) _).setCell (by simp) _).setCell (by simp) _).setCell (by simp) _).setCell (by simp) _).setCell (by simp) _).setCell (by simp) _)⟩
          · intro d x a wx F hdi hdep hj
            have D17 : d 17 = true := hdep ⟨17, .data⟩ (by simp) rfl
            have D19 : d 19 = true := hdep ⟨19, .data⟩ (by simp) rfl
            obtain ⟨D, ex⟩ := hj.c3 D17
            obtain ⟨p, ep, hp1, hp2, hp3⟩ := hj.bB D19
            have hB := hp3.resolve_left (by rw [hdi]; simp)
            have e1 := (F.got (i := 17) (t := 128) rfl rfl (D17) (Nat.lt_of_lt_of_eq (show 128 < 132 by omega) rfl)).trans ex
            have e2 := (F.got (i := 19) (t := 14) rfl rfl (D19) (Nat.lt_of_lt_of_eq (show 14 < 132 by omega) rfl)).trans ep
            have e1q := e1
            rw [Array.getD_eq_getD_getElem?] at e1q
            have e2q := e2
            rw [Array.getD_eq_getD_getElem?] at e2q
            have z0 := hB.cell 0
            have f0 := hB.frozen 0
            have z1 := hB.cell 1
            have f1 := hB.frozen 1
            have z2 := hB.cell 2
            have f2 := hB.frozen 2
            simp [zeroFault] at z0 z1 z2
            have HJ := hid hj
            have HH := hid (And.intro hdi D19)
            have HD := hid D
            have HE := hid ep
            have HBB := hid hB
            clear hj F hdep ex ep hp1 hp2 hp3 hB hdi D D17 D19
            unfold Oper.wp
            go_simp
            exact ⟨undef, HJ.out.stB (g20_ok wy.heap.size g 1 1 3 4 stream 3) HH.out.1 HH.out.2 HD.out HE.out ((((Turned.refl _ _).setCell (by simp) _).setCell (by simp) _).setCell (by simp) _) (by have h9 := ((HBB.out.set_ 0 (.bool false)).set_ 1 (.bool false)).set_ 2 (.int .i64 0); simpa [zeroFault] using h9)⟩
        · intro d2 x2 wz hall hj
          obtain ⟨_, q2, eq2, hqb, hql, hqB⟩ := hj.fin (hall 21 (show 21 < 22 by omega))
          have HBz := hid hj.below
          have HQ := hid (hqB.resolve_left id)
          have m0 := HQ.out.cell 0
          simp at m0 eq2
          have HG3 := hid (HG2.out.below HBz.out)
          have HB3 := hid (HB.out.trans ((HB2.out.trans (HBz.out.mono HB2.out.size)).mono HB.out.size))
          clear hj hall hqB hqb hql
          simp only [putAll, Act.put]
          go_wp2_with fail
          go_roundw
          case rel => exact ⟨1 + 1, by omega, by go_num, HG3.out, HB3.out⟩
          case measure => simp [intOf]
    · have c5 : wr.cell? ⟨g, 2, none⟩ = some (.int .i64 6) := HG.out.sizes.cell 2
      have c6 : wr.cell? ⟨g + 1, 2, none⟩ = some (.int .i64 4) := HG.out.kinds.cell 2
      have HC6 := hid c6
      go_upto_region 16 with fail
      clear c5 c6
      refine wp_region_inv (JC wr (G16 g 2 2 4 0 5) 8 true true 6) rfl ?_ ?_ ?_ ?_
      · kernel_rfl
      · exact JC.start ((Below.refl _ _).drew)
      · refine ⟨?_, ?_, ?_, ?_, ?_, ?_, ?_, ?_, ?_, ?_, ?_, ?_, ?_, ?_, ?_, ?_, trivial⟩
        · intro d x a wx F hdi hdep hj
          have e : a.tmps.getD 6 undef = .slice (some ⟨g + 1, 0, none⟩) 6 6 := F.kept (t := 6) (by kernel_rfl)
          have eq := e
          rw [Array.getD_eq_getD_getElem?] at eq
          exact wp_val (v := .slice (some ⟨g + 1, 0, none⟩) 6 6) (w' := wx) (by clear hj F hdep; go_simp) ⟨_, rfl, hj.quiet (g16_ok g 2 2 4 0 5) (by omega) (Below.refl _ _) rfl⟩
        · intro d x a wx F hdi hdep hj
          have e : a.tmps.getD 7 undef = .int .i64 2 := F.kept (t := 7) (by kernel_rfl)
          have eq := e
          rw [Array.getD_eq_getD_getElem?] at eq
          exact wp_val (v := .int .i64 2) (w' := wx) (by clear hj F hdep; go_simp) ⟨_, rfl, hj.quiet (g16_ok g 2 2 4 0 5) (by omega) (Below.refl _ _) rfl⟩
        · intro d x a wx F hdi hdep hj
          have D0 : d 0 = true := hdep ⟨0, .data⟩ (by simp) rfl
          have D1 : d 1 = true := hdep ⟨1, .data⟩ (by simp) rfl
          have e62 := (F.got (i := 0) (t := 62) rfl rfl (D0) (Nat.lt_of_lt_of_eq (show 62 < 132 by omega) rfl)).trans (hj.pre 0 (by omega) D0)
          have e62q := e62
          rw [Array.getD_eq_getD_getElem?] at e62q
          have e63 := (F.got (i := 1) (t := 63) rfl rfl (D1) (Nat.lt_of_lt_of_eq (show 63 < 132 by omega) rfl)).trans (hj.pre 1 (by omega) D1)
          have e63q := e63
          rw [Array.getD_eq_getD_getElem?] at e63q
          exact wp_val (v := .pointer (some ⟨g + 1, 2, none⟩)) (w' := wx) (by clear hj F hdep; go_simp) ⟨_, rfl, hj.quiet (g16_ok g 2 2 4 0 5) (by omega) (Below.refl _ _) rfl⟩
        · intro d x a wx F hdi hdep hj
          have D2 : d 2 = true := hdep ⟨2, .data⟩ (by simp) rfl
          have e64 := (F.got (i := 2) (t := 64) rfl rfl (D2) (Nat.lt_of_lt_of_eq (show 64 < 132 by omega) rfl)).trans (hj.pre 2 (by omega) D2)
          have e64q := e64
          rw [Array.getD_eq_getD_getElem?] at e64q
          have z := below_keep hj.below _ _ HC6.out
          exact wp_val (v := .int .i64 4) (w' := wx) (by clear hj F hdep; go_simp) ⟨_, rfl, hj.quiet (g16_ok g 2 2 4 0 5) (by omega) (Below.refl _ _) rfl⟩
        · intro d x a wx F hdi hdep hj
          have e : a.tmps.getD 8 undef = .int .i64 0 := F.kept (t := 8) (by kernel_rfl)
          have eq := e
          rw [Array.getD_eq_getD_getElem?] at eq
          exact wp_val (v := .int .i64 0) (w' := wx) (by clear hj F hdep; go_simp) ⟨_, rfl, hj.quiet (g16_ok g 2 2 4 0 5) (by omega) (Below.refl _ _) rfl⟩
        · intro d x a wx F hdi hdep hj
          have e : a.tmps.getD 9 undef = .int .i64 5 := F.kept (t := 9) (by kernel_rfl)
          have eq := e
          rw [Array.getD_eq_getD_getElem?] at eq
          exact wp_val (v := .int .i64 5) (w' := wx) (by clear hj F hdep; go_simp) ⟨_, rfl, hj.quiet (g16_ok g 2 2 4 0 5) (by omega) (Below.refl _ _) rfl⟩
        · intro d x a wx F hdi hdep hj
          have D5 : d 5 = true := hdep ⟨5, .data⟩ (by simp) rfl
          have e67 := (F.got (i := 5) (t := 67) rfl rfl (D5) (Nat.lt_of_lt_of_eq (show 67 < 132 by omega) rfl)).trans (hj.pre 5 (by omega) D5)
          have e67q := e67
          rw [Array.getD_eq_getD_getElem?] at e67q
          have hmk : ∀ w, (Instr.makeSlice 25 (.int .i64 5) (.int .i64 5)).run Try.prog w = .ok (.slice (some ⟨w.heap.size, 0, none⟩) 5 5) (w.alloc (.cells #[.int .u8 0, .int .u8 0, .int .u8 0, .int .u8 0, .int .u8 0] 5)) := fun _ => by kernel_rfl
          exact wp_val (v := .slice (some ⟨wx.heap.size, 0, none⟩) 5 5) (w' := wx.alloc (.cells #[.int .u8 0, .int .u8 0, .int .u8 0, .int .u8 0, .int .u8 0] 5)) (by clear hj F hdep; go_simp) ⟨_, rfl, hj.quiet (g16_ok g 2 2 4 0 5) (by omega) ((Below.refl _ _).alloc (Nat.le_refl _) _) ⟨wx.heap.size, rfl, .inr (rd_new (size := 1) rfl rfl)⟩⟩
        · intro d x a wx F hdi hdep hj
          have D3 : d 3 = true := hdep ⟨3, .data⟩ (by simp) rfl
          have D4 : d 4 = true := hdep ⟨4, .data⟩ (by simp) rfl
          have D6 : d 6 = true := hdep ⟨6, .data⟩ (by simp) rfl
          have e65 := (F.got (i := 3) (t := 65) rfl rfl (D3) (Nat.lt_of_lt_of_eq (show 65 < 132 by omega) rfl)).trans (hj.pre 3 (by omega) D3)
          have e65q := e65
          rw [Array.getD_eq_getD_getElem?] at e65q
          have e66 := (F.got (i := 4) (t := 66) rfl rfl (D4) (Nat.lt_of_lt_of_eq (show 66 < 132 by omega) rfl)).trans (hj.pre 4 (by omega) D4)
          have e66q := e66
          rw [Array.getD_eq_getD_getElem?] at e66q
          obtain ⟨b, eb, hB⟩ := hj.pre 6 (by omega) D6
          have e68 := (F.got (i := 6) (t := 68) rfl rfl (D6) (Nat.lt_of_lt_of_eq (show 68 < 132 by omega) rfl)).trans eb
          have e68q := e68
          rw [Array.getD_eq_getD_getElem?] at e68q
          have HBq := hid hB
          clear hB eb
          exact wp_val (v := .agg #[.int .i64 4, .int .i64 0, .int .i64 0, .slice (some ⟨b, 0, none⟩) 5 5]) (w' := wx) (by clear hj F hdep; go_simp) ⟨_, rfl, hj.quiet (g16_ok g 2 2 4 0 5) (by omega) (Below.refl _ _) ⟨b, rfl, HBq.out.imp setB_of id⟩⟩
        · intro d x a wx F hdi hdep hj
          have D7 : d 7 = true := hdep ⟨7, .data⟩ (by simp) rfl
          obtain ⟨b, eb, hB⟩ := hj.pre 7 (by omega) D7
          have e69 := (F.got (i := 7) (t := 69) rfl rfl (D7) (Nat.lt_of_lt_of_eq (show 69 < 132 by omega) rfl)).trans eb
          have HBq := hid (hB.resolve_left (by rw [hdi]; simp))
          clear hB eb
          have e69q := e69
          rw [Array.getD_eq_getD_getElem?] at e69q
          exact wp_call (f := 9) (args := #[.agg #[.int .i64 4, .int .i64 0, .int .i64 0, .slice (some ⟨b, 0, none⟩) 5 5]]) (by clear hj F hdep; go_simp) (Calls.mono (read_any 4 0 0 (some ⟨b, 0, none⟩) 5 5 (zl 5) wx HBq.out (Nat.le_refl _) (by omega)) (fun e w' hp => cut_spec_2_0 stream hst wx e w' hp)) (fun u w' hu hb => ⟨_, rfl, hj.call (g16_ok g 2 2 4 0 5) hb D7 hu⟩)
        · intro d x a wx F hdi hdep hj
          have D8 : d 8 = true := hdep ⟨8, .data⟩ (by simp) rfl
          obtain ⟨u, hu, ex⟩ := hj.c0 D8
          have e := (F.got (i := 8) (t := 70) rfl rfl (D8) (Nat.lt_of_lt_of_eq (show 70 < 132 by omega) rfl)).trans ex
          have eq := e
          rw [Array.getD_eq_getD_getElem?] at eq
          exact wp_val (v := .tuple #[u, .agg #[.bool true, .bool true, .int .i64 6]]) (w' := wx) (by clear hj F hdep; go_simp) ⟨_, rfl, hj.plain (g16_ok g 2 2 4 0 5) (q := 1) rfl (by omega) (by omega) hdi (fun _ => ⟨D8, u, hu, rfl⟩) (fun e => absurd e (by omega)) (fun e => absurd e (by omega))⟩
        · intro d x a wx F hdi hdep hj
          have D9 : d 9 = true := hdep ⟨9, .data⟩ (by simp) rfl
          obtain ⟨D, u, hu, ex⟩ := hj.c1 D9
          have e := (F.got (i := 9) (t := 61) rfl rfl (D9) (Nat.lt_of_lt_of_eq (show 61 < 132 by omega) rfl)).trans ex
          have eq := e
          rw [Array.getD_eq_getD_getElem?] at eq
          exact wp_val (v := u) (w' := wx) (by clear hj F hdep; go_simp) ⟨_, rfl, hj.plain (g16_ok g 2 2 4 0 5) (q := 2) rfl (by omega) (by omega) hdi (fun e => absurd e (by omega)) (fun _ => ⟨D, hu⟩) (fun e => absurd e (by omega))⟩
        · intro d x a wx F hdi hdep hj
          have D9 : d 9 = true := hdep ⟨9, .data⟩ (by simp) rfl
          obtain ⟨D, u, hu, ex⟩ := hj.c1 D9
          have e := (F.got (i := 9) (t := 61) rfl rfl (D9) (Nat.lt_of_lt_of_eq (show 61 < 132 by omega) rfl)).trans ex
          have eq := e
          rw [Array.getD_eq_getD_getElem?] at eq
          exact wp_val (v := .agg #[.bool true, .bool true, .int .i64 6]) (w' := wx) (by clear hj F hdep; go_simp) ⟨_, rfl, hj.plain (g16_ok g 2 2 4 0 5) (q := 3) rfl (by omega) (by omega) hdi (fun e => absurd e (by omega)) (fun e => absurd e (by omega)) (fun _ => ⟨D, rfl⟩)⟩
        · intro d x a wx F hdi hdep hj
          exact wp_val (v := .pointer (some ⟨wx.heap.size, 0, none⟩)) (w' := wx.alloc (.cells zeroPart 28)) (by clear hj F hdep; unfold zeroPart; go_simp) ⟨_, rfl, hj.allA (g16_ok g 2 2 4 0 5) hdi⟩
        · intro d x a wx F hdi hdep hj
          exact wp_val (v := .pointer (some ⟨wx.heap.size, 0, none⟩)) (w' := wx.alloc (.cells zeroFault 30)) (by clear hj F hdep; unfold zeroFault; go_simp) ⟨_, rfl, hj.allB (g16_ok g 2 2 4 0 5) hdi⟩
        · intro d x a wx F hdi hdep hj
          have D10 : d 10 = true := hdep ⟨10, .data⟩ (by simp) rfl
          have D12 : d 12 = true := hdep ⟨12, .data⟩ (by simp) rfl
          obtain ⟨D, hp⟩ := hj.c2 D10
          obtain ⟨Ad, nd, cd, pad, code, last, step, As, ns, cs, ee, aa, ww, ex⟩ := hp
          obtain ⟨p, ep, hp1, hp2, hp3⟩ := hj.bA D12
          have hB := hp3.resolve_left (by rw [hdi]; simp)
          have e1 := (F.got (i := 10) (t := 71) rfl rfl (D10) (Nat.lt_of_lt_of_eq (show 71 < 132 by omega) rfl)).trans ex
          have e2 := (F.got (i := 12) (t := 10) rfl rfl (D12) (Nat.lt_of_lt_of_eq (show 10 < 132 by omega) rfl)).trans ep
          have e1q := e1
          rw [Array.getD_eq_getD_getElem?] at e1q
          have e2q := e2
          rw [Array.getD_eq_getD_getElem?] at e2q
          have z0 := hB.cell 0
          have f0 := hB.frozen 0
          have z1 := hB.cell 1
          have f1 := hB.frozen 1
          have z2 := hB.cell 2
          have f2 := hB.frozen 2
          have z3 := hB.cell 3
          have f3 := hB.frozen 3
          have z4 := hB.cell 4
          have f4 := hB.frozen 4
          have z5 := hB.cell 5
          have f5 := hB.frozen 5
          have z6 := hB.cell 6
          have f6 := hB.frozen 6
          have z7 := hB.cell 7
          have f7 := hB.frozen 7
          have z8 := hB.cell 8
          have f8 := hB.frozen 8
          simp [zeroPart] at z0 z1 z2 z3 z4 z5 z6 z7 z8
          have HJ := hid hj
          have HH := hid (And.intro hdi D12)
          have HD := hid D
          have HE := hid ep
          clear hj F hdep ex ep hp1 hp2 hp3 hB hdi D D10 D12
          unfold Oper.wp
          go_simp
          exact ⟨undef, HJ.out.stA (g16_ok g 2 2 4 0 5) HH.out.1 HH.out.2 HD.out HE.out ((((((((((Turned.refl _ _).setCell (by simp) _).setCell (by simp) _).setCell (by simp) _).setCell (by simp) _).setCell (by simp) _).setCell (by simp) _).setCell (by simp) _).setCell (by simp) _).setCell (by simp) _)⟩
        · intro d x a wx F hdi hdep hj
          have D11 : d 11 = true := hdep ⟨11, .data⟩ (by simp) rfl
          have D13 : d 13 = true := hdep ⟨13, .data⟩ (by simp) rfl
          obtain ⟨D, ex⟩ := hj.c3 D11
          obtain ⟨p, ep, hp1, hp2, hp3⟩ := hj.bB D13
          have hB := hp3.resolve_left (by rw [hdi]; simp)
          have e1 := (F.got (i := 11) (t := 72) rfl rfl (D11) (Nat.lt_of_lt_of_eq (show 72 < 132 by omega) rfl)).trans ex
          have e2 := (F.got (i := 13) (t := 11) rfl rfl (D13) (Nat.lt_of_lt_of_eq (show 11 < 132 by omega) rfl)).trans ep
          have e1q := e1
          rw [Array.getD_eq_getD_getElem?] at e1q
          have e2q := e2
          rw [Array.getD_eq_getD_getElem?] at e2q
          have z0 := hB.cell 0
          have f0 := hB.frozen 0
          have z1 := hB.cell 1
          have f1 := hB.frozen 1
          have z2 := hB.cell 2
          have f2 := hB.frozen 2
          simp [zeroFault] at z0 z1 z2
          have HJ := hid hj
          have HH := hid (And.intro hdi D13)
          have HD := hid D
          have HE := hid ep
          have HBB := hid hB
          clear hj F hdep ex ep hp1 hp2 hp3 hB hdi D D11 D13
          unfold Oper.wp
          go_simp
          exact ⟨undef, HJ.out.stB (g16_ok g 2 2 4 0 5) HH.out.1 HH.out.2 HD.out HE.out ((((Turned.refl _ _).setCell (by simp) _).setCell (by simp) _).setCell (by simp) _) (by have h9 := ((HBB.out.set_ 0 (.bool true)).set_ 1 (.bool true)).set_ 2 (.int .i64 6); simpa [zeroFault] using h9)⟩
      · intro d x wx hall hj
        obtain ⟨_, q, eq, hqb, hql, hqB⟩ := hj.fin (hall 15 (show 15 < 16 by omega))
        have HBw := hid hj.below
        have HQ := hid (hqB.resolve_left id)
        have m0 := HQ.out.cell 0
        have m1 := HQ.out.cell 1
        have m2 := HQ.out.cell 2
        simp at m0 m1 m2 eq
        have c6 := below_keep HBw.out _ _ HC6.out
        have HG1 := hid (HG.out.below HBw.out)
        clear hj hall hqB hqb hql
        simp only [putAll, Act.put]
        go_wp2_with fail
        (refine wp_mix ?_ ?_ ?_; (focus kernel_rfl); (focus kernel_rfl); intro KK hKK; go_wp2_with (first
              | (fail)
              | (with_reducible refine mix_nil ?_)
              | ((with_reducible refine mix_on ?_ ?_); (focus rfl); intro K hK; go_simp; (first | ((with_reducible refine hK _ _ ?_); clear hK K) | skip))
              | ((with_reducible refine mix_off ?_ ?_); (focus rfl); intro K hK; go_simp; (first | ((with_reducible refine hK _ _ ?_); clear hK K) | skip))
              | ((with_reducible refine mix_step ?_); intro K hK; go_simp; (first | ((with_reducible refine hK _ _ ?_); clear hK K) | skip))))
        go_upto_region 20 with fail
        clear m0 m1 m2 c6 eq
        have HB2 := hid (HBw.out.trans ((Below.refl wx.heap.size wx).drew.mono HBw.out.size))
        have HG2 := hid (HG1.out.below (Below.refl wx.heap.size wx).drew)
        generalize wx.drew = wy at HB2 HG2 ⊢
        clear HBw HQ HG1
        refine wp_region_inv (JC wy (G20 wy.heap.size g 2 2 4 6 0 5) 14 false false 0) rfl ?_ ?_ ?_ ?_
        · kernel_rfl
        · exact JC.start ((Below.refl _ _).drew)
        · refine ⟨?_, ?_, ?_, ?_, ?_, ?_, ?_, ?_, ?_, ?_, ?_, ?_, ?_, ?_, ?_, ?_, ?_, ?_, ?_, ?_, ?_, ?_, trivial⟩
          · intro d x a wx F hdi hdep hj
            have e : a.tmps.getD 6 undef = .slice (some ⟨g + 1, 0, none⟩) 6 6 := F.kept (t := 6) (by kernel_rfl)
            have eq := e
            rw [Array.getD_eq_getD_getElem?] at eq
            exact wp_val (v := .slice (some ⟨g + 1, 0, none⟩) 6 6) (w' := wx) (by clear hj F hdep; go_simp) ⟨_, rfl, hj.quiet (g20_ok wy.heap.size g 2 2 4 6 0 5) (by omega) (Below.refl _ _) rfl⟩
          · intro d x a wx F hdi hdep hj
            have e : a.tmps.getD 7 undef = .int .i64 2 := F.kept (t := 7) (by kernel_rfl)
            have eq := e
            rw [Array.getD_eq_getD_getElem?] at eq
            exact wp_val (v := .int .i64 2) (w' := wx) (by clear hj F hdep; go_simp) ⟨_, rfl, hj.quiet (g20_ok wy.heap.size g 2 2 4 6 0 5) (by omega) (Below.refl _ _) rfl⟩
          · intro d x a wx F hdi hdep hj
            have D0 : d 0 = true := hdep ⟨0, .data⟩ (by simp) rfl
            have D1 : d 1 = true := hdep ⟨1, .data⟩ (by simp) rfl
            have e112 := (F.got (i := 0) (t := 112) rfl rfl (D0) (Nat.lt_of_lt_of_eq (show 112 < 132 by omega) rfl)).trans (hj.pre 0 (by omega) D0)
            have e112q := e112
            rw [Array.getD_eq_getD_getElem?] at e112q
            have e113 := (F.got (i := 1) (t := 113) rfl rfl (D1) (Nat.lt_of_lt_of_eq (show 113 < 132 by omega) rfl)).trans (hj.pre 1 (by omega) D1)
            have e113q := e113
            rw [Array.getD_eq_getD_getElem?] at e113q
            exact wp_val (v := .pointer (some ⟨g + 1, 2, none⟩)) (w' := wx) (by clear hj F hdep; go_simp) ⟨_, rfl, hj.quiet (g20_ok wy.heap.size g 2 2 4 6 0 5) (by omega) (Below.refl _ _) rfl⟩
          · intro d x a wx F hdi hdep hj
            have D2 : d 2 = true := hdep ⟨2, .data⟩ (by simp) rfl
            have e114 := (F.got (i := 2) (t := 114) rfl rfl (D2) (Nat.lt_of_lt_of_eq (show 114 < 132 by omega) rfl)).trans (hj.pre 2 (by omega) D2)
            have e114q := e114
            rw [Array.getD_eq_getD_getElem?] at e114q
            have z := below_keep hj.below _ _ (show wy.cell? ⟨g + 1, 2, none⟩ = some (.int .i64 4) from HG2.out.kinds.cell 2)
            exact wp_val (v := .int .i64 4) (w' := wx) (by clear hj F hdep; go_simp) ⟨_, rfl, hj.quiet (g20_ok wy.heap.size g 2 2 4 6 0 5) (by omega) (Below.refl _ _) rfl⟩
          · intro d x a wx F hdi hdep hj
            have e : a.tmps.getD 8 undef = .int .i64 0 := F.kept (t := 8) (by kernel_rfl)
            have eq := e
            rw [Array.getD_eq_getD_getElem?] at eq
            exact wp_val (v := .int .i64 0) (w' := wx) (by clear hj F hdep; go_simp) ⟨_, rfl, hj.quiet (g20_ok wy.heap.size g 2 2 4 6 0 5) (by omega) (Below.refl _ _) rfl⟩
          · intro d x a wx F hdi hdep hj
            have e : a.tmps.getD 5 undef = .slice (some ⟨g, 0, none⟩) 6 6 := F.kept (t := 5) (by kernel_rfl)
            have eq := e
            rw [Array.getD_eq_getD_getElem?] at eq
            exact wp_val (v := .slice (some ⟨g, 0, none⟩) 6 6) (w' := wx) (by clear hj F hdep; go_simp) ⟨_, rfl, hj.quiet (g20_ok wy.heap.size g 2 2 4 6 0 5) (by omega) (Below.refl _ _) rfl⟩
          · intro d x a wx F hdi hdep hj
            have e : a.tmps.getD 7 undef = .int .i64 2 := F.kept (t := 7) (by kernel_rfl)
            have eq := e
            rw [Array.getD_eq_getD_getElem?] at eq
            exact wp_val (v := .int .i64 2) (w' := wx) (by clear hj F hdep; go_simp) ⟨_, rfl, hj.quiet (g20_ok wy.heap.size g 2 2 4 6 0 5) (by omega) (Below.refl _ _) rfl⟩
          · intro d x a wx F hdi hdep hj
            have D5 : d 5 = true := hdep ⟨5, .data⟩ (by simp) rfl
            have D6 : d 6 = true := hdep ⟨6, .data⟩ (by simp) rfl
            have e117 := (F.got (i := 5) (t := 117) rfl rfl (D5) (Nat.lt_of_lt_of_eq (show 117 < 132 by omega) rfl)).trans (hj.pre 5 (by omega) D5)
            have e117q := e117
            rw [Array.getD_eq_getD_getElem?] at e117q
            have e118 := (F.got (i := 6) (t := 118) rfl rfl (D6) (Nat.lt_of_lt_of_eq (show 118 < 132 by omega) rfl)).trans (hj.pre 6 (by omega) D6)
            have e118q := e118
            rw [Array.getD_eq_getD_getElem?] at e118q
            exact wp_val (v := .pointer (some ⟨g, 2, none⟩)) (w' := wx) (by clear hj F hdep; go_simp) ⟨_, rfl, hj.quiet (g20_ok wy.heap.size g 2 2 4 6 0 5) (by omega) (Below.refl _ _) rfl⟩
          · intro d x a wx F hdi hdep hj
            have D7 : d 7 = true := hdep ⟨7, .data⟩ (by simp) rfl
            have e119 := (F.got (i := 7) (t := 119) rfl rfl (D7) (Nat.lt_of_lt_of_eq (show 119 < 132 by omega) rfl)).trans (hj.pre 7 (by omega) D7)
            have e119q := e119
            rw [Array.getD_eq_getD_getElem?] at e119q
            have z := below_keep hj.below _ _ (show wy.cell? ⟨g, 2, none⟩ = some (.int .i64 6) from HG2.out.sizes.cell 2)
            exact wp_val (v := .int .i64 6) (w' := wx) (by clear hj F hdep; go_simp) ⟨_, rfl, hj.quiet (g20_ok wy.heap.size g 2 2 4 6 0 5) (by omega) (Below.refl _ _) rfl⟩
          · intro d x a wx F hdi hdep hj
            have D8 : d 8 = true := hdep ⟨8, .data⟩ (by simp) rfl
            have e120 := (F.got (i := 8) (t := 120) rfl rfl (D8) (Nat.lt_of_lt_of_eq (show 120 < 132 by omega) rfl)).trans (hj.pre 8 (by omega) D8)
            have e120q := e120
            rw [Array.getD_eq_getD_getElem?] at e120q
            have hw : IntKind.i64.wrap 5 = 5 := rfl
            exact wp_val (v := .int .i64 5) (w' := wx) (by clear hj F hdep; go_simp) ⟨_, rfl, hj.quiet (g20_ok wy.heap.size g 2 2 4 6 0 5) (by omega) (Below.refl _ _) rfl⟩
          · intro d x a wx F hdi hdep hj
            have D9 : d 9 = true := hdep ⟨9, .data⟩ (by simp) rfl
            have e121 := (F.got (i := 9) (t := 121) rfl rfl (D9) (Nat.lt_of_lt_of_eq (show 121 < 132 by omega) rfl)).trans (hj.pre 9 (by omega) D9)
            have e121q := e121
            rw [Array.getD_eq_getD_getElem?] at e121q
            have hmk : ∀ w, (Instr.makeSlice 25 (.int .i64 5) (.int .i64 5)).run Try.prog w = .ok (.slice (some ⟨w.heap.size, 0, none⟩) 5 5) (w.alloc (.cells #[.int .u8 0, .int .u8 0, .int .u8 0, .int .u8 0, .int .u8 0] 5)) := fun _ => by kernel_rfl
            exact wp_val (v := .slice (some ⟨wx.heap.size, 0, none⟩) 5 5) (w' := wx.alloc (.cells #[.int .u8 0, .int .u8 0, .int .u8 0, .int .u8 0, .int .u8 0] 5)) (by clear hj F hdep; go_simp) ⟨_, rfl, hj.quiet (g20_ok wy.heap.size g 2 2 4 6 0 5) (by omega) ((Below.refl _ _).alloc (Nat.le_refl _) _) (.inr (.inr (World.ownsRow_lit (base := wy.heap.size) (e := 5) (size := 1) wx #[.int .u8 0, .int .u8 0, .int .u8 0, .int .u8 0, .int .u8 0] 5 hj.below.size (by decide) rfl)))⟩
          · intro d x a wx F hdi hdep hj
            exact wp_val (v := .slice (some ⟨wx.heap.size, 0, none⟩) 1 1) (w' := wx.alloc (.cells #[.int .u8 1] 5)) (by clear hj F hdep; go_simp) ⟨_, rfl, hj.quiet (g20_ok wy.heap.size g 2 2 4 6 0 5) (by omega) ((Below.refl _ _).alloc (Nat.le_refl _) _) (.inr (.inr ⟨wx.heap.size, rfl, rd_new (size := 1) rfl rfl⟩))⟩
          · intro d x a wx F hdi hdep hj
            have D10 : d 10 = true := hdep ⟨10, .data⟩ (by simp) rfl
            have D11 : d 11 = true := hdep ⟨11, .data⟩ (by simp) rfl
            have h14 : d 14 = false := by
              rcases h : d 14 with _ | _
              · rfl
              · have h13 := hj.cb h
                have h12 := (hj.pre 13 (by omega) h13).1
                rw [hdi] at h12
                cases h12
            have hown := ((hj.pre 10 (by omega) D10).resolve_left (by rw [hdi]; simp)).resolve_left (by rw [h14]; simp)
            obtain ⟨b, eb, hB⟩ := ((hj.pre 11 (by omega) D11).resolve_left (by rw [hdi]; simp)).resolve_left (by rw [h14]; simp)
            have e122 := F.got (i := 10) (t := 122) rfl rfl (D10) (Nat.lt_of_lt_of_eq (show 122 < 132 by omega) rfl)
            have e123 := (F.got (i := 11) (t := 123) rfl rfl (D11) (Nat.lt_of_lt_of_eq (show 123 < 132 by omega) rfl)).trans eb
            refine wp_app wx (.tmp 122) (.tmp 123) 25 rfl wy.heap.size 5 i0 _ 1 1 Try.underlying25 hi.out hz.out hsz.out hby.out rfl (by decide) (x 10) 5 _ e122 hown (some ⟨b, 0, none⟩) 1 1 ([1].map bv) e123 hB (bv_one _) (by decide) (by decide) hj.below.size ?_
            intro A' c' w' ho hg hat
            refine ⟨_, rfl, hj.step (by omega) (below_app hj.below hown hg (Nat.le_refl _) hj.below.size) hg.size (fun q hq => hq.grown hg (fun e => Blk.own_ne hq hown (by decide) e.symm)) (fun q cs hq => hq.grown hg (fun e => Blk.own_ne hq hown (by decide) e.symm)) (fun j hj' hne hd hG => ?_) ⟨A', c', rfl, .inr ⟨own_le ho, by have h9 := Bs.of_own (l := zl 5 ++ [1]) (by rw [List.map_append]; exact ho); exact h9⟩⟩⟩
            match j, hj' with
            | 0, _ => exact hG
            | 1, _ => exact hG
            | 2, _ => exact hG
            | 3, _ => exact hG
            | 4, _ => exact hG
            | 5, _ => exact hG
            | 6, _ => exact hG
            | 7, _ => exact hG
            | 8, _ => exact hG
            | 9, _ => exact hG
            | 10, _ => exact .inl (setB_self _ _)
            | 11, _ => exact .inl (setB_self _ _)
            | 12, _ => exact absurd rfl hne
            | 13, _ =>
              have h12 := hG.1
              rw [hdi] at h12
              cases h12
          · intro d x a wx F hdi hdep hj
            have D3 : d 3 = true := hdep ⟨3, .data⟩ (by simp) rfl
            have D4 : d 4 = true := hdep ⟨4, .data⟩ (by simp) rfl
            have D12 : d 12 = true := hdep ⟨12, .data⟩ (by simp) rfl
            have e115 := (F.got (i := 3) (t := 115) rfl rfl (D3) (Nat.lt_of_lt_of_eq (show 115 < 132 by omega) rfl)).trans (hj.pre 3 (by omega) D3)
            have e115q := e115
            rw [Array.getD_eq_getD_getElem?] at e115q
            have e116 := (F.got (i := 4) (t := 116) rfl rfl (D4) (Nat.lt_of_lt_of_eq (show 116 < 132 by omega) rfl)).trans (hj.pre 4 (by omega) D4)
            have e116q := e116
            rw [Array.getD_eq_getD_getElem?] at e116q
            obtain ⟨A, c, eb, hB⟩ := hj.pre 12 (by omega) D12
            have e124 := (F.got (i := 12) (t := 124) rfl rfl (D12) (Nat.lt_of_lt_of_eq (show 124 < 132 by omega) rfl)).trans eb
            have e124q := e124
            rw [Array.getD_eq_getD_getElem?] at e124q
            have HBq := hid hB
            clear hB eb
            exact wp_val (v := .agg #[.int .i64 4, .int .i64 0, .int .i64 0, .slice A (5 + 1) c]) (w' := wx) (by clear hj F hdep; go_simp) ⟨_, rfl, hj.quiet (g20_ok wy.heap.size g 2 2 4 6 0 5) (by omega) (Below.refl _ _) ⟨setB_of D12, A, c, rfl, HBq.out.imp setB_of id⟩⟩
          · intro d x a wx F hdi hdep hj
            have D13 : d 13 = true := hdep ⟨13, .data⟩ (by simp) rfl
            obtain ⟨_, A, c, eb, hB⟩ := hj.pre 13 (by omega) D13
            have e125 := (F.got (i := 13) (t := 125) rfl rfl (D13) (Nat.lt_of_lt_of_eq (show 125 < 132 by omega) rfl)).trans eb
            have HBq := hid (hB.resolve_left (by rw [hdi]; simp))
            clear hB eb
            have e125q := e125
            rw [Array.getD_eq_getD_getElem?] at e125q
            exact wp_call (f := 9) (args := #[.agg #[.int .i64 4, .int .i64 0, .int .i64 0, .slice A (5 + 1) c]]) (by clear hj F hdep; go_simp) (Calls.mono (read_any 4 0 0 A (5 + 1) c (zl 5 ++ [1]) wx HBq.out.2 HBq.out.1 (by omega)) (fun e w' hp => cut_ok_2 stream hst wx e w' hp)) (fun u w' hu hb => ⟨_, rfl, hj.call (g20_ok wy.heap.size g 2 2 4 6 0 5) hb D13 hu⟩)
          · intro d x a wx F hdi hdep hj
            have D14 : d 14 = true := hdep ⟨14, .data⟩ (by simp) rfl
            obtain ⟨u, hu, ex⟩ := hj.c0 D14
            have e := (F.got (i := 14) (t := 126) rfl rfl (D14) (Nat.lt_of_lt_of_eq (show 126 < 132 by omega) rfl)).trans ex
            have eq := e
            rw [Array.getD_eq_getD_getElem?] at eq
            exact wp_val (v := .tuple #[u, .agg #[.bool false, .bool false, .int .i64 0]]) (w' := wx) (by clear hj F hdep; go_simp) ⟨_, rfl, hj.plain (g20_ok wy.heap.size g 2 2 4 6 0 5) (q := 1) rfl (by omega) (by omega) hdi (fun _ => ⟨D14, u, hu, rfl⟩) (fun e => absurd e (by omega)) (fun e => absurd e (by omega))⟩
          · intro d x a wx F hdi hdep hj
            have D15 : d 15 = true := hdep ⟨15, .data⟩ (by simp) rfl
            obtain ⟨D, u, hu, ex⟩ := hj.c1 D15
            have e := (F.got (i := 15) (t := 111) rfl rfl (D15) (Nat.lt_of_lt_of_eq (show 111 < 132 by omega) rfl)).trans ex
            have eq := e
            rw [Array.getD_eq_getD_getElem?] at eq
            exact wp_val (v := u) (w' := wx) (by clear hj F hdep; go_simp) ⟨_, rfl, hj.plain (g20_ok wy.heap.size g 2 2 4 6 0 5) (q := 2) rfl (by omega) (by omega) hdi (fun e => absurd e (by omega)) (fun _ => ⟨D, hu⟩) (fun e => absurd e (by omega))⟩
          · intro d x a wx F hdi hdep hj
            have D15 : d 15 = true := hdep ⟨15, .data⟩ (by simp) rfl
            obtain ⟨D, u, hu, ex⟩ := hj.c1 D15
            have e := (F.got (i := 15) (t := 111) rfl rfl (D15) (Nat.lt_of_lt_of_eq (show 111 < 132 by omega) rfl)).trans ex
            have eq := e
            rw [Array.getD_eq_getD_getElem?] at eq
            exact wp_val (v := .agg #[.bool false, .bool false, .int .i64 0]) (w' := wx) (by clear hj F hdep; go_simp) ⟨_, rfl, hj.plain (g20_ok wy.heap.size g 2 2 4 6 0 5) (q := 3) rfl (by omega) (by omega) hdi (fun e => absurd e (by omega)) (fun e => absurd e (by omega)) (fun _ => ⟨D, rfl⟩)⟩
          · intro d x a wx F hdi hdep hj
            exact wp_val (v := .pointer (some ⟨wx.heap.size, 0, none⟩)) (w' := wx.alloc (.cells zeroPart 28)) (by clear hj F hdep; unfold zeroPart; go_simp) ⟨_, rfl, hj.allA (g20_ok wy.heap.size g 2 2 4 6 0 5) hdi⟩
          · intro d x a wx F hdi hdep hj
            exact wp_val (v := .pointer (some ⟨wx.heap.size, 0, none⟩)) (w' := wx.alloc (.cells zeroFault 30)) (by clear hj F hdep; unfold zeroFault; go_simp) ⟨_, rfl, hj.allB (g20_ok wy.heap.size g 2 2 4 6 0 5) hdi⟩
          · intro d x a wx F hdi hdep hj
            have D16 : d 16 = true := hdep ⟨16, .data⟩ (by simp) rfl
            have D18 : d 18 = true := hdep ⟨18, .data⟩ (by simp) rfl
            obtain ⟨D, hp⟩ := hj.c2 D16
            obtain ⟨Ad, nd, cd, pad, code, last, step, As, ns, cs, ee, aa, ww, ex⟩ := hp
            obtain ⟨p, ep, hp1, hp2, hp3⟩ := hj.bA D18
            have hB := hp3.resolve_left (by rw [hdi]; simp)
            have e1 := (F.got (i := 16) (t := 127) rfl rfl (D16) (Nat.lt_of_lt_of_eq (show 127 < 132 by omega) rfl)).trans ex
            have e2 := (F.got (i := 18) (t := 13) rfl rfl (D18) (Nat.lt_of_lt_of_eq (show 13 < 132 by omega) rfl)).trans ep
            have e1q := e1
            rw [Array.getD_eq_getD_getElem?] at e1q
            have e2q := e2
            rw [Array.getD_eq_getD_getElem?] at e2q
            have z0 := hB.cell 0
            have f0 := hB.frozen 0
            have z1 := hB.cell 1
            have f1 := hB.frozen 1
            have z2 := hB.cell 2
            have f2 := hB.frozen 2
            have z3 := hB.cell 3
            have f3 := hB.frozen 3
            have z4 := hB.cell 4
            have f4 := hB.frozen 4
            have z5 := hB.cell 5
            have f5 := hB.frozen 5
            have z6 := hB.cell 6
            have f6 := hB.frozen 6
            have z7 := hB.cell 7
            have f7 := hB.frozen 7
            have z8 := hB.cell 8
            have f8 := hB.frozen 8
            simp [zeroPart] at z0 z1 z2 z3 z4 z5 z6 z7 z8
            have HJ := hid hj
            have HH := hid (And.intro hdi D18)
            have HD := hid D
            have HE := hid ep
            clear hj F hdep ex ep hp1 hp2 hp3 hB hdi D D16 D18
            unfold Oper.wp
            go_simp
            exact ⟨undef, HJ.out.stA (g20_ok wy.heap.size g 2 2 4 6 0 5) HH.out.1 HH.out.2 HD.out HE.out ((((((((((Turned.refl _ _).setCell (by simp) _).setCell (by simp) _).setCell (by simp) _).setCell (by simp) _).setCell (by simp) _).setCell (by simp) _).setCell (by simp) _).setCell (by simp) _).setCell (by simp) _)⟩
          · intro d x a wx F hdi hdep hj
            have D17 : d 17 = true := hdep ⟨17, .data⟩ (by simp) rfl
            have D19 : d 19 = true := hdep ⟨19, .data⟩ (by simp) rfl
            obtain ⟨D, ex⟩ := hj.c3 D17
            obtain ⟨p, ep, hp1, hp2, hp3⟩ := hj.bB D19
            have hB := hp3.resolve_left (by rw [hdi]; simp)
            have e1 := (F.got (i := 17) (t := 128) rfl rfl (D17) (Nat.lt_of_lt_of_eq (show 128 < 132 by omega) rfl)).trans ex
            have e2 := (F.got (i := 19) (t := 14) rfl rfl (D19) (Nat.lt_of_lt_of_eq (show 14 < 132 by omega) rfl)).trans ep
            have e1q := e1
            rw [Array.getD_eq_getD_getElem?] at e1q
            have e2q := e2
            rw [Array.getD_eq_getD_getElem?] at e2q
            have z0 := hB.cell 0
            have f0 := hB.frozen 0
            have z1 := hB.cell 1
            have f1 := hB.frozen 1
            have z2 := hB.cell 2
            have f2 := hB.frozen 2
            simp [zeroFault] at z0 z1 z2
            have HJ := hid hj
            have HH := hid (And.intro hdi D19)
            have HD := hid D
            have HE := hid ep
            have HBB := hid hB
            clear hj F hdep ex ep hp1 hp2 hp3 hB hdi D D17 D19
            unfold Oper.wp
            go_simp
            exact ⟨undef, HJ.out.stB (g20_ok wy.heap.size g 2 2 4 6 0 5) HH.out.1 HH.out.2 HD.out HE.out ((((Turned.refl _ _).setCell (by simp) _).setCell (by simp) _).setCell (by simp) _) (by have h9 := ((HBB.out.set_ 0 (.bool false)).set_ 1 (.bool false)).set_ 2 (.int .i64 0); simpa [zeroFault] using h9)⟩
        · intro d2 x2 wz hall hj
          obtain ⟨_, q2, eq2, hqb, hql, hqB⟩ := hj.fin (hall 21 (show 21 < 22 by omega))
          have HBz := hid hj.below
          have HQ := hid (hqB.resolve_left id)
          have m0 := HQ.out.cell 0
          simp at m0 eq2
          have HG3 := hid (HG2.out.below HBz.out)
          have HB3 := hid (HB.out.trans ((HB2.out.trans (HBz.out.mono HB2.out.size)).mono HB.out.size))
          clear hj hall hqB hqb hql
          simp only [putAll, Act.put]
          go_wp2_with fail
          go_roundw
          case rel => exact ⟨2 + 1, by omega, by go_num, HG3.out, HB3.out⟩
          case measure => simp [intOf]
    · have c5 : wr.cell? ⟨g, 3, none⟩ = some (.int .i64 8) := HG.out.sizes.cell 3
      have c6 : wr.cell? ⟨g + 1, 3, none⟩ = some (.int .i64 6) := HG.out.kinds.cell 3
      have HC6 := hid c6
      go_upto_region 16 with fail
      clear c5 c6
      refine wp_region_inv (JC wr (G16 g 3 3 6 0 7) 8 true true 6) rfl ?_ ?_ ?_ ?_
      · kernel_rfl
      · exact JC.start ((Below.refl _ _).drew)
      · refine ⟨?_, ?_, ?_, ?_, ?_, ?_, ?_, ?_, ?_, ?_, ?_, ?_, ?_, ?_, ?_, ?_, trivial⟩
        · intro d x a wx F hdi hdep hj
          have e : a.tmps.getD 6 undef = .slice (some ⟨g + 1, 0, none⟩) 6 6 := F.kept (t := 6) (by kernel_rfl)
          have eq := e
          rw [Array.getD_eq_getD_getElem?] at eq
          exact wp_val (v := .slice (some ⟨g + 1, 0, none⟩) 6 6) (w' := wx) (by clear hj F hdep; go_simp) ⟨_, rfl, hj.quiet (g16_ok g 3 3 6 0 7) (by omega) (Below.refl _ _) rfl⟩
        · intro d x a wx F hdi hdep hj
          have e : a.tmps.getD 7 undef = .int .i64 3 := F.kept (t := 7) (by kernel_rfl)
          have eq := e
          rw [Array.getD_eq_getD_getElem?] at eq
          exact wp_val (v := .int .i64 3) (w' := wx) (by clear hj F hdep; go_simp) ⟨_, rfl, hj.quiet (g16_ok g 3 3 6 0 7) (by omega) (Below.refl _ _) rfl⟩
        · intro d x a wx F hdi hdep hj
          have D0 : d 0 = true := hdep ⟨0, .data⟩ (by simp) rfl
          have D1 : d 1 = true := hdep ⟨1, .data⟩ (by simp) rfl
          have e62 := (F.got (i := 0) (t := 62) rfl rfl (D0) (Nat.lt_of_lt_of_eq (show 62 < 132 by omega) rfl)).trans (hj.pre 0 (by omega) D0)
          have e62q := e62
          rw [Array.getD_eq_getD_getElem?] at e62q
          have e63 := (F.got (i := 1) (t := 63) rfl rfl (D1) (Nat.lt_of_lt_of_eq (show 63 < 132 by omega) rfl)).trans (hj.pre 1 (by omega) D1)
          have e63q := e63
          rw [Array.getD_eq_getD_getElem?] at e63q
          exact wp_val (v := .pointer (some ⟨g + 1, 3, none⟩)) (w' := wx) (by clear hj F hdep; go_simp) ⟨_, rfl, hj.quiet (g16_ok g 3 3 6 0 7) (by omega) (Below.refl _ _) rfl⟩
        · intro d x a wx F hdi hdep hj
          have D2 : d 2 = true := hdep ⟨2, .data⟩ (by simp) rfl
          have e64 := (F.got (i := 2) (t := 64) rfl rfl (D2) (Nat.lt_of_lt_of_eq (show 64 < 132 by omega) rfl)).trans (hj.pre 2 (by omega) D2)
          have e64q := e64
          rw [Array.getD_eq_getD_getElem?] at e64q
          have z := below_keep hj.below _ _ HC6.out
          exact wp_val (v := .int .i64 6) (w' := wx) (by clear hj F hdep; go_simp) ⟨_, rfl, hj.quiet (g16_ok g 3 3 6 0 7) (by omega) (Below.refl _ _) rfl⟩
        · intro d x a wx F hdi hdep hj
          have e : a.tmps.getD 8 undef = .int .i64 0 := F.kept (t := 8) (by kernel_rfl)
          have eq := e
          rw [Array.getD_eq_getD_getElem?] at eq
          exact wp_val (v := .int .i64 0) (w' := wx) (by clear hj F hdep; go_simp) ⟨_, rfl, hj.quiet (g16_ok g 3 3 6 0 7) (by omega) (Below.refl _ _) rfl⟩
        · intro d x a wx F hdi hdep hj
          have e : a.tmps.getD 9 undef = .int .i64 7 := F.kept (t := 9) (by kernel_rfl)
          have eq := e
          rw [Array.getD_eq_getD_getElem?] at eq
          exact wp_val (v := .int .i64 7) (w' := wx) (by clear hj F hdep; go_simp) ⟨_, rfl, hj.quiet (g16_ok g 3 3 6 0 7) (by omega) (Below.refl _ _) rfl⟩
        · intro d x a wx F hdi hdep hj
          have D5 : d 5 = true := hdep ⟨5, .data⟩ (by simp) rfl
          have e67 := (F.got (i := 5) (t := 67) rfl rfl (D5) (Nat.lt_of_lt_of_eq (show 67 < 132 by omega) rfl)).trans (hj.pre 5 (by omega) D5)
          have e67q := e67
          rw [Array.getD_eq_getD_getElem?] at e67q
          have hmk : ∀ w, (Instr.makeSlice 25 (.int .i64 7) (.int .i64 7)).run Try.prog w = .ok (.slice (some ⟨w.heap.size, 0, none⟩) 7 7) (w.alloc (.cells #[.int .u8 0, .int .u8 0, .int .u8 0, .int .u8 0, .int .u8 0, .int .u8 0, .int .u8 0] 5)) := fun _ => by kernel_rfl
          exact wp_val (v := .slice (some ⟨wx.heap.size, 0, none⟩) 7 7) (w' := wx.alloc (.cells #[.int .u8 0, .int .u8 0, .int .u8 0, .int .u8 0, .int .u8 0, .int .u8 0, .int .u8 0] 5)) (by clear hj F hdep; go_simp) ⟨_, rfl, hj.quiet (g16_ok g 3 3 6 0 7) (by omega) ((Below.refl _ _).alloc (Nat.le_refl _) _) ⟨wx.heap.size, rfl, .inr (rd_new (size := 1) rfl rfl)⟩⟩
        · intro d x a wx F hdi hdep hj
          have D3 : d 3 = true := hdep ⟨3, .data⟩ (by simp) rfl
          have D4 : d 4 = true := hdep ⟨4, .data⟩ (by simp) rfl
          have D6 : d 6 = true := hdep ⟨6, .data⟩ (by simp) rfl
          have e65 := (F.got (i := 3) (t := 65) rfl rfl (D3) (Nat.lt_of_lt_of_eq (show 65 < 132 by omega) rfl)).trans (hj.pre 3 (by omega) D3)
          have e65q := e65
          rw [Array.getD_eq_getD_getElem?] at e65q
          have e66 := (F.got (i := 4) (t := 66) rfl rfl (D4) (Nat.lt_of_lt_of_eq (show 66 < 132 by omega) rfl)).trans (hj.pre 4 (by omega) D4)
          have e66q := e66
          rw [Array.getD_eq_getD_getElem?] at e66q
          obtain ⟨b, eb, hB⟩ := hj.pre 6 (by omega) D6
          have e68 := (F.got (i := 6) (t := 68) rfl rfl (D6) (Nat.lt_of_lt_of_eq (show 68 < 132 by omega) rfl)).trans eb
          have e68q := e68
          rw [Array.getD_eq_getD_getElem?] at e68q
          have HBq := hid hB
          clear hB eb
          exact wp_val (v := .agg #[.int .i64 6, .int .i64 0, .int .i64 0, .slice (some ⟨b, 0, none⟩) 7 7]) (w' := wx) (by clear hj F hdep; go_simp) ⟨_, rfl, hj.quiet (g16_ok g 3 3 6 0 7) (by omega) (Below.refl _ _) ⟨b, rfl, HBq.out.imp setB_of id⟩⟩
        · intro d x a wx F hdi hdep hj
          have D7 : d 7 = true := hdep ⟨7, .data⟩ (by simp) rfl
          obtain ⟨b, eb, hB⟩ := hj.pre 7 (by omega) D7
          have e69 := (F.got (i := 7) (t := 69) rfl rfl (D7) (Nat.lt_of_lt_of_eq (show 69 < 132 by omega) rfl)).trans eb
          have HBq := hid (hB.resolve_left (by rw [hdi]; simp))
          clear hB eb
          have e69q := e69
          rw [Array.getD_eq_getD_getElem?] at e69q
          exact wp_call (f := 9) (args := #[.agg #[.int .i64 6, .int .i64 0, .int .i64 0, .slice (some ⟨b, 0, none⟩) 7 7]]) (by clear hj F hdep; go_simp) (Calls.mono (read_any 6 0 0 (some ⟨b, 0, none⟩) 7 7 (zl 7) wx HBq.out (Nat.le_refl _) (by omega)) (fun e w' hp => cut_spec_3_0 stream hst wx e w' hp)) (fun u w' hu hb => ⟨_, rfl, hj.call (g16_ok g 3 3 6 0 7) hb D7 hu⟩)
        · intro d x a wx F hdi hdep hj
          have D8 : d 8 = true := hdep ⟨8, .data⟩ (by simp) rfl
          obtain ⟨u, hu, ex⟩ := hj.c0 D8
          have e := (F.got (i := 8) (t := 70) rfl rfl (D8) (Nat.lt_of_lt_of_eq (show 70 < 132 by omega) rfl)).trans ex
          have eq := e
          rw [Array.getD_eq_getD_getElem?] at eq
          exact wp_val (v := .tuple #[u, .agg #[.bool true, .bool true, .int .i64 6]]) (w' := wx) (by clear hj F hdep; go_simp) ⟨_, rfl, hj.plain (g16_ok g 3 3 6 0 7) (q := 1) rfl (by omega) (by omega) hdi (fun _ => ⟨D8, u, hu, rfl⟩) (fun e => absurd e (by omega)) (fun e => absurd e (by omega))⟩
        · intro d x a wx F hdi hdep hj
          have D9 : d 9 = true := hdep ⟨9, .data⟩ (by simp) rfl
          obtain ⟨D, u, hu, ex⟩ := hj.c1 D9
          have e := (F.got (i := 9) (t := 61) rfl rfl (D9) (Nat.lt_of_lt_of_eq (show 61 < 132 by omega) rfl)).trans ex
          have eq := e
          rw [Array.getD_eq_getD_getElem?] at eq
          exact wp_val (v := u) (w' := wx) (by clear hj F hdep; go_simp) ⟨_, rfl, hj.plain (g16_ok g 3 3 6 0 7) (q := 2) rfl (by omega) (by omega) hdi (fun e => absurd e (by omega)) (fun _ => ⟨D, hu⟩) (fun e => absurd e (by omega))⟩
        · intro d x a wx F hdi hdep hj
          have D9 : d 9 = true := hdep ⟨9, .data⟩ (by simp) rfl
          obtain ⟨D, u, hu, ex⟩ := hj.c1 D9
          have e := (F.got (i := 9) (t := 61) rfl rfl (D9) (Nat.lt_of_lt_of_eq (show 61 < 132 by omega) rfl)).trans ex
          have eq := e
          rw [Array.getD_eq_getD_getElem?] at eq
          exact wp_val (v := .agg #[.bool true, .bool true, .int .i64 6]) (w' := wx) (by clear hj F hdep; go_simp) ⟨_, rfl, hj.plain (g16_ok g 3 3 6 0 7) (q := 3) rfl (by omega) (by omega) hdi (fun e => absurd e (by omega)) (fun e => absurd e (by omega)) (fun _ => ⟨D, rfl⟩)⟩
        · intro d x a wx F hdi hdep hj
          exact wp_val (v := .pointer (some ⟨wx.heap.size, 0, none⟩)) (w' := wx.alloc (.cells zeroPart 28)) (by clear hj F hdep; unfold zeroPart; go_simp) ⟨_, rfl, hj.allA (g16_ok g 3 3 6 0 7) hdi⟩
        · intro d x a wx F hdi hdep hj
          exact wp_val (v := .pointer (some ⟨wx.heap.size, 0, none⟩)) (w' := wx.alloc (.cells zeroFault 30)) (by clear hj F hdep; unfold zeroFault; go_simp) ⟨_, rfl, hj.allB (g16_ok g 3 3 6 0 7) hdi⟩
        · intro d x a wx F hdi hdep hj
          have D10 : d 10 = true := hdep ⟨10, .data⟩ (by simp) rfl
          have D12 : d 12 = true := hdep ⟨12, .data⟩ (by simp) rfl
          obtain ⟨D, hp⟩ := hj.c2 D10
          obtain ⟨Ad, nd, cd, pad, code, last, step, As, ns, cs, ee, aa, ww, ex⟩ := hp
          obtain ⟨p, ep, hp1, hp2, hp3⟩ := hj.bA D12
          have hB := hp3.resolve_left (by rw [hdi]; simp)
          have e1 := (F.got (i := 10) (t := 71) rfl rfl (D10) (Nat.lt_of_lt_of_eq (show 71 < 132 by omega) rfl)).trans ex
          have e2 := (F.got (i := 12) (t := 10) rfl rfl (D12) (Nat.lt_of_lt_of_eq (show 10 < 132 by omega) rfl)).trans ep
          have e1q := e1
          rw [Array.getD_eq_getD_getElem?] at e1q
          have e2q := e2
          rw [Array.getD_eq_getD_getElem?] at e2q
          have z0 := hB.cell 0
          have f0 := hB.frozen 0
          have z1 := hB.cell 1
          have f1 := hB.frozen 1
          have z2 := hB.cell 2
          have f2 := hB.frozen 2
          have z3 := hB.cell 3
          have f3 := hB.frozen 3
          have z4 := hB.cell 4
          have f4 := hB.frozen 4
          have z5 := hB.cell 5
          have f5 := hB.frozen 5
          have z6 := hB.cell 6
          have f6 := hB.frozen 6
          have z7 := hB.cell 7
          have f7 := hB.frozen 7
          have z8 := hB.cell 8
          have f8 := hB.frozen 8
          simp [zeroPart] at z0 z1 z2 z3 z4 z5 z6 z7 z8
          have HJ := hid hj
          have HH := hid (And.intro hdi D12)
          have HD := hid D
          have HE := hid ep
          clear hj F hdep ex ep hp1 hp2 hp3 hB hdi D D10 D12
          unfold Oper.wp
          go_simp
          exact ⟨undef, HJ.out.stA (g16_ok g 3 3 6 0 7) HH.out.1 HH.out.2 HD.out HE.out ((((((((((Turned.refl _ _).setCell (by simp) _).setCell (by simp) _).setCell (by simp) _).setCell (by simp) _).setCell (by simp) _).setCell (by simp) _).setCell (by simp) _).setCell (by simp) _).setCell (by simp) _)⟩
        · intro d x a wx F hdi hdep hj
          have D11 : d 11 = true := hdep ⟨11, .data⟩ (by simp) rfl
          have D13 : d 13 = true := hdep ⟨13, .data⟩ (by simp) rfl
          obtain ⟨D, ex⟩ := hj.c3 D11
          obtain ⟨p, ep, hp1, hp2, hp3⟩ := hj.bB D13
          have hB := hp3.resolve_left (by rw [hdi]; simp)
          have e1 := (F.got (i := 11) (t := 72) rfl rfl (D11) (Nat.lt_of_lt_of_eq (show 72 < 132 by omega) rfl)).trans ex
          have e2 := (F.got (i := 13) (t := 11) rfl rfl (D13) (Nat.lt_of_lt_of_eq (show 11 < 132 by omega) rfl)).trans ep
          have e1q := e1
          rw [Array.getD_eq_getD_getElem?] at e1q
          have e2q := e2
          rw [Array.getD_eq_getD_getElem?] at e2q
          have z0 := hB.cell 0
          have f0 := hB.frozen 0
          have z1 := hB.cell 1
          have f1 := hB.frozen 1
          have z2 := hB.cell 2
          have f2 := hB.frozen 2
          simp [zeroFault] at z0 z1 z2
          have HJ := hid hj
          have HH := hid (And.intro hdi D13)
          have HD := hid D
          have HE := hid ep
          have HBB := hid hB
          clear hj F hdep ex ep hp1 hp2 hp3 hB hdi D D11 D13
          unfold Oper.wp
          go_simp
          exact ⟨undef, HJ.out.stB (g16_ok g 3 3 6 0 7) HH.out.1 HH.out.2 HD.out HE.out ((((Turned.refl _ _).setCell (by simp) _).setCell (by simp) _).setCell (by simp) _) (by have h9 := ((HBB.out.set_ 0 (.bool true)).set_ 1 (.bool true)).set_ 2 (.int .i64 6); simpa [zeroFault] using h9)⟩
      · intro d x wx hall hj
        obtain ⟨_, q, eq, hqb, hql, hqB⟩ := hj.fin (hall 15 (show 15 < 16 by omega))
        have HBw := hid hj.below
        have HQ := hid (hqB.resolve_left id)
        have m0 := HQ.out.cell 0
        have m1 := HQ.out.cell 1
        have m2 := HQ.out.cell 2
        simp at m0 m1 m2 eq
        have c6 := below_keep HBw.out _ _ HC6.out
        have HG1 := hid (HG.out.below HBw.out)
        clear hj hall hqB hqb hql
        simp only [putAll, Act.put]
        go_wp2_with fail
        (refine wp_mix ?_ ?_ ?_; (focus kernel_rfl); (focus kernel_rfl); intro KK hKK; go_wp2_with (first
              | (fail)
              | (with_reducible refine mix_nil ?_)
              | ((with_reducible refine mix_on ?_ ?_); (focus rfl); intro K hK; go_simp; (first | ((with_reducible refine hK _ _ ?_); clear hK K) | skip))
              | ((with_reducible refine mix_off ?_ ?_); (focus rfl); intro K hK; go_simp; (first | ((with_reducible refine hK _ _ ?_); clear hK K) | skip))
              | ((with_reducible refine mix_step ?_); intro K hK; go_simp; (first | ((with_reducible refine hK _ _ ?_); clear hK K) | skip))))
        go_upto_region 20 with fail
        clear m0 m1 m2 c6 eq
        have HB2 := hid (HBw.out.trans ((Below.refl wx.heap.size wx).drew.mono HBw.out.size))
        have HG2 := hid (HG1.out.below (Below.refl wx.heap.size wx).drew)
        generalize wx.drew = wy at HB2 HG2 ⊢
        clear HBw HQ HG1
        refine wp_region_inv (JC wy (G20 wy.heap.size g 3 3 6 8 0 7) 14 false false 0) rfl ?_ ?_ ?_ ?_
        · kernel_rfl
        · exact JC.start ((Below.refl _ _).drew)
        · refine ⟨?_, ?_, ?_, ?_, ?_, ?_, ?_, ?_, ?_, ?_, ?_, ?_, ?_, ?_, ?_, ?_, ?_, ?_, ?_, ?_, ?_, ?_, trivial⟩
          · intro d x a wx F hdi hdep hj
            have e : a.tmps.getD 6 undef = .slice (some ⟨g + 1, 0, none⟩) 6 6 := F.kept (t := 6) (by kernel_rfl)
            have eq := e
            rw [Array.getD_eq_getD_getElem?] at eq
            exact wp_val (v := .slice (some ⟨g + 1, 0, none⟩) 6 6) (w' := wx) (by clear hj F hdep; go_simp) ⟨_, rfl, hj.quiet (g20_ok wy.heap.size g 3 3 6 8 0 7) (by omega) (Below.refl _ _) rfl⟩
          · intro d x a wx F hdi hdep hj
            have e : a.tmps.getD 7 undef = .int .i64 3 := F.kept (t := 7) (by kernel_rfl)
            have eq := e
            rw [Array.getD_eq_getD_getElem?] at eq
            exact wp_val (v := .int .i64 3) (w' := wx) (by clear hj F hdep; go_simp) ⟨_, rfl, hj.quiet (g20_ok wy.heap.size g 3 3 6 8 0 7) (by omega) (Below.refl _ _) rfl⟩
          · intro d x a wx F hdi hdep hj
            have D0 : d 0 = true := hdep ⟨0, .data⟩ (by simp) rfl
            have D1 : d 1 = true := hdep ⟨1, .data⟩ (by simp) rfl
            have e112 := (F.got (i := 0) (t := 112) rfl rfl (D0) (Nat.lt_of_lt_of_eq (show 112 < 132 by omega) rfl)).trans (hj.pre 0 (by omega) D0)
            have e112q := e112
            rw [Array.getD_eq_getD_getElem?] at e112q
            have e113 := (F.got (i := 1) (t := 113) rfl rfl (D1) (Nat.lt_of_lt_of_eq (show 113 < 132 by omega) rfl)).trans (hj.pre 1 (by omega) D1)
            have e113q := e113
            rw [Array.getD_eq_getD_getElem?] at e113q
            exact wp_val (v := .pointer (some ⟨g + 1, 3, none⟩)) (w' := wx) (by clear hj F hdep; go_simp) ⟨_, rfl, hj.quiet (g20_ok wy.heap.size g 3 3 6 8 0 7) (by omega) (Below.refl _ _) rfl⟩
          · intro d x a wx F hdi hdep hj
            have D2 : d 2 = true := hdep ⟨2, .data⟩ (by simp) rfl
            have e114 := (F.got (i := 2) (t := 114) rfl rfl (D2) (Nat.lt_of_lt_of_eq (show 114 < 132 by omega) rfl)).trans (hj.pre 2 (by omega) D2)
            have e114q := e114
            rw [Array.getD_eq_getD_getElem?] at e114q
            have z := below_keep hj.below _ _ (show wy.cell? ⟨g + 1, 3, none⟩ = some (.int .i64 6) from HG2.out.kinds.cell 3)
            exact wp_val (v := .int .i64 6) (w' := wx) (by clear hj F hdep; go_simp) ⟨_, rfl, hj.quiet (g20_ok wy.heap.size g 3 3 6 8 0 7) (by omega) (Below.refl _ _) rfl⟩
          · intro d x a wx F hdi hdep hj
            have e : a.tmps.getD 8 undef = .int .i64 0 := F.kept (t := 8) (by kernel_rfl)
            have eq := e
            rw [Array.getD_eq_getD_getElem?] at eq
            exact wp_val (v := .int .i64 0) (w' := wx) (by clear hj F hdep; go_simp) ⟨_, rfl, hj.quiet (g20_ok wy.heap.size g 3 3 6 8 0 7) (by omega) (Below.refl _ _) rfl⟩
          · intro d x a wx F hdi hdep hj
            have e : a.tmps.getD 5 undef = .slice (some ⟨g, 0, none⟩) 6 6 := F.kept (t := 5) (by kernel_rfl)
            have eq := e
            rw [Array.getD_eq_getD_getElem?] at eq
            exact wp_val (v := .slice (some ⟨g, 0, none⟩) 6 6) (w' := wx) (by clear hj F hdep; go_simp) ⟨_, rfl, hj.quiet (g20_ok wy.heap.size g 3 3 6 8 0 7) (by omega) (Below.refl _ _) rfl⟩
          · intro d x a wx F hdi hdep hj
            have e : a.tmps.getD 7 undef = .int .i64 3 := F.kept (t := 7) (by kernel_rfl)
            have eq := e
            rw [Array.getD_eq_getD_getElem?] at eq
            exact wp_val (v := .int .i64 3) (w' := wx) (by clear hj F hdep; go_simp) ⟨_, rfl, hj.quiet (g20_ok wy.heap.size g 3 3 6 8 0 7) (by omega) (Below.refl _ _) rfl⟩
          · intro d x a wx F hdi hdep hj
            have D5 : d 5 = true := hdep ⟨5, .data⟩ (by simp) rfl
            have D6 : d 6 = true := hdep ⟨6, .data⟩ (by simp) rfl
            have e117 := (F.got (i := 5) (t := 117) rfl rfl (D5) (Nat.lt_of_lt_of_eq (show 117 < 132 by omega) rfl)).trans (hj.pre 5 (by omega) D5)
            have e117q := e117
            rw [Array.getD_eq_getD_getElem?] at e117q
            have e118 := (F.got (i := 6) (t := 118) rfl rfl (D6) (Nat.lt_of_lt_of_eq (show 118 < 132 by omega) rfl)).trans (hj.pre 6 (by omega) D6)
            have e118q := e118
            rw [Array.getD_eq_getD_getElem?] at e118q
            exact wp_val (v := .pointer (some ⟨g, 3, none⟩)) (w' := wx) (by clear hj F hdep; go_simp) ⟨_, rfl, hj.quiet (g20_ok wy.heap.size g 3 3 6 8 0 7) (by omega) (Below.refl _ _) rfl⟩
          · intro d x a wx F hdi hdep hj
            have D7 : d 7 = true := hdep ⟨7, .data⟩ (by simp) rfl
            have e119 := (F.got (i := 7) (t := 119) rfl rfl (D7) (Nat.lt_of_lt_of_eq (show 119 < 132 by omega) rfl)).trans (hj.pre 7 (by omega) D7)
            have e119q := e119
            rw [Array.getD_eq_getD_getElem?] at e119q
            have z := below_keep hj.below _ _ (show wy.cell? ⟨g, 3, none⟩ = some (.int .i64 8) from HG2.out.sizes.cell 3)
            exact wp_val (v := .int .i64 8) (w' := wx) (by clear hj F hdep; go_simp) ⟨_, rfl, hj.quiet (g20_ok wy.heap.size g 3 3 6 8 0 7) (by omega) (Below.refl _ _) rfl⟩
          · intro d x a wx F hdi hdep hj
            have D8 : d 8 = true := hdep ⟨8, .data⟩ (by simp) rfl
            have e120 := (F.got (i := 8) (t := 120) rfl rfl (D8) (Nat.lt_of_lt_of_eq (show 120 < 132 by omega) rfl)).trans (hj.pre 8 (by omega) D8)
            have e120q := e120
            rw [Array.getD_eq_getD_getElem?] at e120q
            have hw : IntKind.i64.wrap 7 = 7 := rfl
            exact wp_val (v := .int .i64 7) (w' := wx) (by clear hj F hdep; go_simp) ⟨_, rfl, hj.quiet (g20_ok wy.heap.size g 3 3 6 8 0 7) (by omega) (Below.refl _ _) rfl⟩
          · intro d x a wx F hdi hdep hj
            have D9 : d 9 = true := hdep ⟨9, .data⟩ (by simp) rfl
            have e121 := (F.got (i := 9) (t := 121) rfl rfl (D9) (Nat.lt_of_lt_of_eq (show 121 < 132 by omega) rfl)).trans (hj.pre 9 (by omega) D9)
            have e121q := e121
            rw [Array.getD_eq_getD_getElem?] at e121q
            have hmk : ∀ w, (Instr.makeSlice 25 (.int .i64 7) (.int .i64 7)).run Try.prog w = .ok (.slice (some ⟨w.heap.size, 0, none⟩) 7 7) (w.alloc (.cells #[.int .u8 0, .int .u8 0, .int .u8 0, .int .u8 0, .int .u8 0, .int .u8 0, .int .u8 0] 5)) := fun _ => by kernel_rfl
            exact wp_val (v := .slice (some ⟨wx.heap.size, 0, none⟩) 7 7) (w' := wx.alloc (.cells #[.int .u8 0, .int .u8 0, .int .u8 0, .int .u8 0, .int .u8 0, .int .u8 0, .int .u8 0] 5)) (by clear hj F hdep; go_simp) ⟨_, rfl, hj.quiet (g20_ok wy.heap.size g 3 3 6 8 0 7) (by omega) ((Below.refl _ _).alloc (Nat.le_refl _) _) (.inr (.inr (World.ownsRow_lit (base := wy.heap.size) (e := 5) (size := 1) wx #[.int .u8 0, .int .u8 0, .int .u8 0, .int .u8 0, .int .u8 0, .int .u8 0, .int .u8 0] 7 hj.below.size (by decide) rfl)))⟩
          · intro d x a wx F hdi hdep hj
            exact wp_val (v := .slice (some ⟨wx.heap.size, 0, none⟩) 1 1) (w' := wx.alloc (.cells #[.int .u8 1] 5)) (by clear hj F hdep; go_simp) ⟨_, rfl, hj.quiet (g20_ok wy.heap.size g 3 3 6 8 0 7) (by omega) ((Below.refl _ _).alloc (Nat.le_refl _) _) (.inr (.inr ⟨wx.heap.size, rfl, rd_new (size := 1) rfl rfl⟩))⟩
          · intro d x a wx F hdi hdep hj
            have D10 : d 10 = true := hdep ⟨10, .data⟩ (by simp) rfl
            have D11 : d 11 = true := hdep ⟨11, .data⟩ (by simp) rfl
            have h14 : d 14 = false := by
              rcases h : d 14 with _ | _
              · rfl
              · have h13 := hj.cb h
                have h12 := (hj.pre 13 (by omega) h13).1
                rw [hdi] at h12
                cases h12
            have hown := ((hj.pre 10 (by omega) D10).resolve_left (by rw [hdi]; simp)).resolve_left (by rw [h14]; simp)
            obtain ⟨b, eb, hB⟩ := ((hj.pre 11 (by omega) D11).resolve_left (by rw [hdi]; simp)).resolve_left (by rw [h14]; simp)
            have e122 := F.got (i := 10) (t := 122) rfl rfl (D10) (Nat.lt_of_lt_of_eq (show 122 < 132 by omega) rfl)
            have e123 := (F.got (i := 11) (t := 123) rfl rfl (D11) (Nat.lt_of_lt_of_eq (show 123 < 132 by omega) rfl)).trans eb
            refine wp_app wx (.tmp 122) (.tmp 123) 25 rfl wy.heap.size 5 i0 _ 1 1 Try.underlying25 hi.out hz.out hsz.out hby.out rfl (by decide) (x 10) 7 _ e122 hown (some ⟨b, 0, none⟩) 1 1 ([1].map bv) e123 hB (bv_one _) (by decide) (by decide) hj.below.size ?_
            intro A' c' w' ho hg hat
            refine ⟨_, rfl, hj.step (by omega) (below_app hj.below hown hg (Nat.le_refl _) hj.below.size) hg.size (fun q hq => hq.grown hg (fun e => Blk.own_ne hq hown (by decide) e.symm)) (fun q cs hq => hq.grown hg (fun e => Blk.own_ne hq hown (by decide) e.symm)) (fun j hj' hne hd hG => ?_) ⟨A', c', rfl, .inr ⟨own_le ho, by have h9 := Bs.of_own (l := zl 7 ++ [1]) (by rw [List.map_append]; exact ho); exact h9⟩⟩⟩
            match j, hj' with
            | 0, _ => exact hG
            | 1, _ => exact hG
            | 2, _ => exact hG
            | 3, _ => exact hG
            | 4, _ => exact hG
            | 5, _ => exact hG
            | 6, _ => exact hG
            | 7, _ => exact hG
            | 8, _ => exact hG
            | 9, _ => exact hG
            | 10, _ => exact .inl (setB_self _ _)
            | 11, _ => exact .inl (setB_self _ _)
            | 12, _ => exact absurd rfl hne
            | 13, _ =>
              have h12 := hG.1
              rw [hdi] at h12
              cases h12
          · intro d x a wx F hdi hdep hj
            have D3 : d 3 = true := hdep ⟨3, .data⟩ (by simp) rfl
            have D4 : d 4 = true := hdep ⟨4, .data⟩ (by simp) rfl
            have D12 : d 12 = true := hdep ⟨12, .data⟩ (by simp) rfl
            have e115 := (F.got (i := 3) (t := 115) rfl rfl (D3) (Nat.lt_of_lt_of_eq (show 115 < 132 by omega) rfl)).trans (hj.pre 3 (by omega) D3)
            have e115q := e115
            rw [Array.getD_eq_getD_getElem?] at e115q
            have e116 := (F.got (i := 4) (t := 116) rfl rfl (D4) (Nat.lt_of_lt_of_eq (show 116 < 132 by omega) rfl)).trans (hj.pre 4 (by omega) D4)
            have e116q := e116
            rw [Array.getD_eq_getD_getElem?] at e116q
            obtain ⟨A, c, eb, hB⟩ := hj.pre 12 (by omega) D12
            have e124 := (F.got (i := 12) (t := 124) rfl rfl (D12) (Nat.lt_of_lt_of_eq (show 124 < 132 by omega) rfl)).trans eb
            have e124q := e124
            rw [Array.getD_eq_getD_getElem?] at e124q
            have HBq := hid hB
            clear hB eb
            exact wp_val (v := .agg #[.int .i64 6, .int .i64 0, .int .i64 0, .slice A (7 + 1) c]) (w' := wx) (by clear hj F hdep; go_simp) ⟨_, rfl, hj.quiet (g20_ok wy.heap.size g 3 3 6 8 0 7) (by omega) (Below.refl _ _) ⟨setB_of D12, A, c, rfl, HBq.out.imp setB_of id⟩⟩
          · intro d x a wx F hdi hdep hj
            have D13 : d 13 = true := hdep ⟨13, .data⟩ (by simp) rfl
            obtain ⟨_, A, c, eb, hB⟩ := hj.pre 13 (by omega) D13
            have e125 := (F.got (i := 13) (t := 125) rfl rfl (D13) (Nat.lt_of_lt_of_eq (show 125 < 132 by omega) rfl)).trans eb
            have HBq := hid (hB.resolve_left (by rw [hdi]; simp))
            clear hB eb
            have e125q := e125
            rw [Array.getD_eq_getD_getElem?] at e125q
            exact wp_call (f := 9) (args := #[.agg #[.int .i64 6, .int .i64 0, .int .i64 0, .slice A (7 + 1) c]]) (by clear hj F hdep; go_simp) (Calls.mono (read_any 6 0 0 A (7 + 1) c (zl 7 ++ [1]) wx HBq.out.2 HBq.out.1 (by omega)) (fun e w' hp => cut_ok_3 stream hst wx e w' hp)) (fun u w' hu hb => ⟨_, rfl, hj.call (g20_ok wy.heap.size g 3 3 6 8 0 7) hb D13 hu⟩)
          · intro d x a wx F hdi hdep hj
            have D14 : d 14 = true := hdep ⟨14, .data⟩ (by simp) rfl
            obtain ⟨u, hu, ex⟩ := hj.c0 D14
            have e := (F.got (i := 14) (t := 126) rfl rfl (D14) (Nat.lt_of_lt_of_eq (show 126 < 132 by omega) rfl)).trans ex
            have eq := e
            rw [Array.getD_eq_getD_getElem?] at eq
            exact wp_val (v := .tuple #[u, .agg #[.bool false, .bool false, .int .i64 0]]) (w' := wx) (by clear hj F hdep; go_simp) ⟨_, rfl, hj.plain (g20_ok wy.heap.size g 3 3 6 8 0 7) (q := 1) rfl (by omega) (by omega) hdi (fun _ => ⟨D14, u, hu, rfl⟩) (fun e => absurd e (by omega)) (fun e => absurd e (by omega))⟩
          · intro d x a wx F hdi hdep hj
            have D15 : d 15 = true := hdep ⟨15, .data⟩ (by simp) rfl
            obtain ⟨D, u, hu, ex⟩ := hj.c1 D15
            have e := (F.got (i := 15) (t := 111) rfl rfl (D15) (Nat.lt_of_lt_of_eq (show 111 < 132 by omega) rfl)).trans ex
            have eq := e
            rw [Array.getD_eq_getD_getElem?] at eq
            exact wp_val (v := u) (w' := wx) (by clear hj F hdep; go_simp) ⟨_, rfl, hj.plain (g20_ok wy.heap.size g 3 3 6 8 0 7) (q := 2) rfl (by omega) (by omega) hdi (fun e => absurd e (by omega)) (fun _ => ⟨D, hu⟩) (fun e => absurd e (by omega))⟩
          · intro d x a wx F hdi hdep hj
            have D15 : d 15 = true := hdep ⟨15, .data⟩ (by simp) rfl
            obtain ⟨D, u, hu, ex⟩ := hj.c1 D15
            have e := (F.got (i := 15) (t := 111) rfl rfl (D15) (Nat.lt_of_lt_of_eq (show 111 < 132 by omega) rfl)).trans ex
            have eq := e
            rw [Array.getD_eq_getD_getElem?] at eq
            exact wp_val (v := .agg #[.bool false, .bool false, .int .i64 0]) (w' := wx) (by clear hj F hdep; go_simp) ⟨_, rfl, hj.plain (g20_ok wy.heap.size g 3 3 6 8 0 7) (q := 3) rfl (by omega) (by omega) hdi (fun e => absurd e (by omega)) (fun e => absurd e (by omega)) (fun _ => ⟨D, rfl⟩)⟩
          · intro d x a wx F hdi hdep hj
            exact wp_val (v := .pointer (some ⟨wx.heap.size, 0, none⟩)) (w' := wx.alloc (.cells zeroPart 28)) (by clear hj F hdep; unfold zeroPart; go_simp) ⟨_, rfl, hj.allA (g20_ok wy.heap.size g 3 3 6 8 0 7) hdi⟩
          · intro d x a wx F hdi hdep hj
            exact wp_val (v := .pointer (some ⟨wx.heap.size, 0, none⟩)) (w' := wx.alloc (.cells zeroFault 30)) (by clear hj F hdep; unfold zeroFault; go_simp) ⟨_, rfl, hj.allB (g20_ok wy.heap.size g 3 3 6 8 0 7) hdi⟩
          · intro d x a wx F hdi hdep hj
            have D16 : d 16 = true := hdep ⟨16, .data⟩ (by simp) rfl
            have D18 : d 18 = true := hdep ⟨18, .data⟩ (by simp) rfl
            obtain ⟨D, hp⟩ := hj.c2 D16
            obtain ⟨Ad, nd, cd, pad, code, last, step, As, ns, cs, ee, aa, ww, ex⟩ := hp
            obtain ⟨p, ep, hp1, hp2, hp3⟩ := hj.bA D18
            have hB := hp3.resolve_left (by rw [hdi]; simp)
            have e1 := (F.got (i := 16) (t := 127) rfl rfl (D16) (Nat.lt_of_lt_of_eq (show 127 < 132 by omega) rfl)).trans ex
            have e2 := (F.got (i := 18) (t := 13) rfl rfl (D18) (Nat.lt_of_lt_of_eq (show 13 < 132 by omega) rfl)).trans ep
            have e1q := e1
            rw [Array.getD_eq_getD_getElem?] at e1q
            have e2q := e2
            rw [Array.getD_eq_getD_getElem?] at e2q
            have z0 := hB.cell 0
            have f0 := hB.frozen 0
            have z1 := hB.cell 1
            have f1 := hB.frozen 1
            have z2 := hB.cell 2
            have f2 := hB.frozen 2
            have z3 := hB.cell 3
            have f3 := hB.frozen 3
            have z4 := hB.cell 4
            have f4 := hB.frozen 4
            have z5 := hB.cell 5
            have f5 := hB.frozen 5
            have z6 := hB.cell 6
            have f6 := hB.frozen 6
            have z7 := hB.cell 7
            have f7 := hB.frozen 7
            have z8 := hB.cell 8
            have f8 := hB.frozen 8
            simp [zeroPart] at z0 z1 z2 z3 z4 z5 z6 z7 z8
            have HJ := hid hj
            have HH := hid (And.intro hdi D18)
            have HD := hid D
            have HE := hid ep
            clear hj F hdep ex ep hp1 hp2 hp3 hB hdi D D16 D18
            unfold Oper.wp
            go_simp
            exact ⟨undef, HJ.out.stA (g20_ok wy.heap.size g 3 3 6 8 0 7) HH.out.1 HH.out.2 HD.out HE.out ((((((((((Turned.refl _ _).setCell (by simp) _).setCell (by simp) _).setCell (by simp) _).setCell (by simp) _).setCell (by simp) _).setCell (by simp) _).setCell (by simp) _).setCell (by simp) _).setCell (by simp) _)⟩
          · intro d x a wx F hdi hdep hj
            have D17 : d 17 = true := hdep ⟨17, .data⟩ (by simp) rfl
            have D19 : d 19 = true := hdep ⟨19, .data⟩ (by simp) rfl
            obtain ⟨D, ex⟩ := hj.c3 D17
            obtain ⟨p, ep, hp1, hp2, hp3⟩ := hj.bB D19
            have hB := hp3.resolve_left (by rw [hdi]; simp)
            have e1 := (F.got (i := 17) (t := 128) rfl rfl (D17) (Nat.lt_of_lt_of_eq (show 128 < 132 by omega) rfl)).trans ex
            have e2 := (F.got (i := 19) (t := 14) rfl rfl (D19) (Nat.lt_of_lt_of_eq (show 14 < 132 by omega) rfl)).trans ep
            have e1q := e1
            rw [Array.getD_eq_getD_getElem?] at e1q
            have e2q := e2
            rw [Array.getD_eq_getD_getElem?] at e2q
            have z0 := hB.cell 0
            have f0 := hB.frozen 0
            have z1 := hB.cell 1
            have f1 := hB.frozen 1
            have z2 := hB.cell 2
            have f2 := hB.frozen 2
            simp [zeroFault] at z0 z1 z2
            have HJ := hid hj
            have HH := hid (And.intro hdi D19)
            have HD := hid D
            have HE := hid ep
            have HBB := hid hB
            clear hj F hdep ex ep hp1 hp2 hp3 hB hdi D D17 D19
            unfold Oper.wp
            go_simp
            exact ⟨undef, HJ.out.stB (g20_ok wy.heap.size g 3 3 6 8 0 7) HH.out.1 HH.out.2 HD.out HE.out ((((Turned.refl _ _).setCell (by simp) _).setCell (by simp) _).setCell (by simp) _) (by have h9 := ((HBB.out.set_ 0 (.bool false)).set_ 1 (.bool false)).set_ 2 (.int .i64 0); simpa [zeroFault] using h9)⟩
        · intro d2 x2 wz hall hj
          obtain ⟨_, q2, eq2, hqb, hql, hqB⟩ := hj.fin (hall 21 (show 21 < 22 by omega))
          have HBz := hid hj.below
          have HQ := hid (hqB.resolve_left id)
          have m0 := HQ.out.cell 0
          simp at m0 eq2
          have HG3 := hid (HG2.out.below HBz.out)
          have HB3 := hid (HB.out.trans ((HB2.out.trans (HBz.out.mono HB2.out.size)).mono HB.out.size))
          clear hj hall hqB hqb hql
          simp only [putAll, Act.put]
          go_wp2_with fail
          go_roundw
          case rel => exact ⟨3 + 1, by omega, by go_num, HG3.out, HB3.out⟩
          case measure => simp [intOf]
    · have c5 : wr.cell? ⟨g, 4, none⟩ = some (.int .i64 8) := HG.out.sizes.cell 4
      have c6 : wr.cell? ⟨g + 1, 4, none⟩ = some (.int .i64 7) := HG.out.kinds.cell 4
      have HC6 := hid c6
      go_upto_region 16 with fail
      clear c5 c6
      refine wp_region_inv (JC wr (G16 g 4 4 7 0 7) 8 true true 6) rfl ?_ ?_ ?_ ?_
      · kernel_rfl
      · exact JC.start ((Below.refl _ _).drew)
      · refine ⟨?_, ?_, ?_, ?_, ?_, ?_, ?_, ?_, ?_, ?_, ?_, ?_, ?_, ?_, ?_, ?_, trivial⟩
        · intro d x a wx F hdi hdep hj
          have e : a.tmps.getD 6 undef = .slice (some ⟨g + 1, 0, none⟩) 6 6 := F.kept (t := 6) (by kernel_rfl)
          have eq := e
          rw [Array.getD_eq_getD_getElem?] at eq
          exact wp_val (v := .slice (some ⟨g + 1, 0, none⟩) 6 6) (w' := wx) (by clear hj F hdep; go_simp) ⟨_, rfl, hj.quiet (g16_ok g 4 4 7 0 7) (by omega) (Below.refl _ _) rfl⟩
        · intro d x a wx F hdi hdep hj
          have e : a.tmps.getD 7 undef = .int .i64 4 := F.kept (t := 7) (by kernel_rfl)
          have eq := e
          rw [Array.getD_eq_getD_getElem?] at eq
          exact wp_val (v := .int .i64 4) (w' := wx) (by clear hj F hdep; go_simp) ⟨_, rfl, hj.quiet (g16_ok g 4 4 7 0 7) (by omega) (Below.refl _ _) rfl⟩
        · intro d x a wx F hdi hdep hj
          have D0 : d 0 = true := hdep ⟨0, .data⟩ (by simp) rfl
          have D1 : d 1 = true := hdep ⟨1, .data⟩ (by simp) rfl
          have e62 := (F.got (i := 0) (t := 62) rfl rfl (D0) (Nat.lt_of_lt_of_eq (show 62 < 132 by omega) rfl)).trans (hj.pre 0 (by omega) D0)
          have e62q := e62
          rw [Array.getD_eq_getD_getElem?] at e62q
          have e63 := (F.got (i := 1) (t := 63) rfl rfl (D1) (Nat.lt_of_lt_of_eq (show 63 < 132 by omega) rfl)).trans (hj.pre 1 (by omega) D1)
          have e63q := e63
          rw [Array.getD_eq_getD_getElem?] at e63q
          exact wp_val (v := .pointer (some ⟨g + 1, 4, none⟩)) (w' := wx) (by clear hj F hdep; go_simp) ⟨_, rfl, hj.quiet (g16_ok g 4 4 7 0 7) (by omega) (Below.refl _ _) rfl⟩
        · intro d x a wx F hdi hdep hj
          have D2 : d 2 = true := hdep ⟨2, .data⟩ (by simp) rfl
          have e64 := (F.got (i := 2) (t := 64) rfl rfl (D2) (Nat.lt_of_lt_of_eq (show 64 < 132 by omega) rfl)).trans (hj.pre 2 (by omega) D2)
          have e64q := e64
          rw [Array.getD_eq_getD_getElem?] at e64q
          have z := below_keep hj.below _ _ HC6.out
          exact wp_val (v := .int .i64 7) (w' := wx) (by clear hj F hdep; go_simp) ⟨_, rfl, hj.quiet (g16_ok g 4 4 7 0 7) (by omega) (Below.refl _ _) rfl⟩
        · intro d x a wx F hdi hdep hj
          have e : a.tmps.getD 8 undef = .int .i64 0 := F.kept (t := 8) (by kernel_rfl)
          have eq := e
          rw [Array.getD_eq_getD_getElem?] at eq
          exact wp_val (v := .int .i64 0) (w' := wx) (by clear hj F hdep; go_simp) ⟨_, rfl, hj.quiet (g16_ok g 4 4 7 0 7) (by omega) (Below.refl _ _) rfl⟩
        · intro d x a wx F hdi hdep hj
          have e : a.tmps.getD 9 undef = .int .i64 7 := F.kept (t := 9) (by kernel_rfl)
          have eq := e
          rw [Array.getD_eq_getD_getElem?] at eq
          exact wp_val (v := .int .i64 7) (w' := wx) (by clear hj F hdep; go_simp) ⟨_, rfl, hj.quiet (g16_ok g 4 4 7 0 7) (by omega) (Below.refl _ _) rfl⟩
        · intro d x a wx F hdi hdep hj
          have D5 : d 5 = true := hdep ⟨5, .data⟩ (by simp) rfl
          have e67 := (F.got (i := 5) (t := 67) rfl rfl (D5) (Nat.lt_of_lt_of_eq (show 67 < 132 by omega) rfl)).trans (hj.pre 5 (by omega) D5)
          have e67q := e67
          rw [Array.getD_eq_getD_getElem?] at e67q
          have hmk : ∀ w, (Instr.makeSlice 25 (.int .i64 7) (.int .i64 7)).run Try.prog w = .ok (.slice (some ⟨w.heap.size, 0, none⟩) 7 7) (w.alloc (.cells #[.int .u8 0, .int .u8 0, .int .u8 0, .int .u8 0, .int .u8 0, .int .u8 0, .int .u8 0] 5)) := fun _ => by kernel_rfl
          exact wp_val (v := .slice (some ⟨wx.heap.size, 0, none⟩) 7 7) (w' := wx.alloc (.cells #[.int .u8 0, .int .u8 0, .int .u8 0, .int .u8 0, .int .u8 0, .int .u8 0, .int .u8 0] 5)) (by clear hj F hdep; go_simp) ⟨_, rfl, hj.quiet (g16_ok g 4 4 7 0 7) (by omega) ((Below.refl _ _).alloc (Nat.le_refl _) _) ⟨wx.heap.size, rfl, .inr (rd_new (size := 1) rfl rfl)⟩⟩
        · intro d x a wx F hdi hdep hj
          have D3 : d 3 = true := hdep ⟨3, .data⟩ (by simp) rfl
          have D4 : d 4 = true := hdep ⟨4, .data⟩ (by simp) rfl
          have D6 : d 6 = true := hdep ⟨6, .data⟩ (by simp) rfl
          have e65 := (F.got (i := 3) (t := 65) rfl rfl (D3) (Nat.lt_of_lt_of_eq (show 65 < 132 by omega) rfl)).trans (hj.pre 3 (by omega) D3)
          have e65q := e65
          rw [Array.getD_eq_getD_getElem?] at e65q
          have e66 := (F.got (i := 4) (t := 66) rfl rfl (D4) (Nat.lt_of_lt_of_eq (show 66 < 132 by omega) rfl)).trans (hj.pre 4 (by omega) D4)
          have e66q := e66
          rw [Array.getD_eq_getD_getElem?] at e66q
          obtain ⟨b, eb, hB⟩ := hj.pre 6 (by omega) D6
          have e68 := (F.got (i := 6) (t := 68) rfl rfl (D6) (Nat.lt_of_lt_of_eq (show 68 < 132 by omega) rfl)).trans eb
          have e68q := e68
          rw [Array.getD_eq_getD_getElem?] at e68q
          have HBq := hid hB
          clear hB eb
          exact wp_val (v := .agg #[.int .i64 7, .int .i64 0, .int .i64 0, .slice (some ⟨b, 0, none⟩) 7 7]) (w' := wx) (by clear hj F hdep; go_simp) ⟨_, rfl, hj.quiet (g16_ok g 4 4 7 0 7) (by omega) (Below.refl _ _) ⟨b, rfl, HBq.out.imp setB_of id⟩⟩
        · intro d x a wx F hdi hdep hj
          have D7 : d 7 = true := hdep ⟨7, .data⟩ (by simp) rfl
          obtain ⟨b, eb, hB⟩ := hj.pre 7 (by omega) D7
          have e69 := (F.got (i := 7) (t := 69) rfl rfl (D7) (Nat.lt_of_lt_of_eq (show 69 < 132 by omega) rfl)).trans eb
          have HBq := hid (hB.resolve_left (by rw [hdi]; simp))
          clear hB eb
          have e69q := e69
          rw [Array.getD_eq_getD_getElem?] at e69q
          exact wp_call (f := 9) (args := #[.agg #[.int .i64 7, .int .i64 0, .int .i64 0, .slice (some ⟨b, 0, none⟩) 7 7]]) (by clear hj F hdep; go_simp) (Calls.mono (read_any 7 0 0 (some ⟨b, 0, none⟩) 7 7 (zl 7) wx HBq.out (Nat.le_refl _) (by omega)) (fun e w' hp => cut_spec_4_0 stream hst wx e w' hp)) (fun u w' hu hb => ⟨_, rfl, hj.call (g16_ok g 4 4 7 0 7) hb D7 hu⟩)
        · intro d x a wx F hdi hdep hj
          have D8 : d 8 = true := hdep ⟨8, .data⟩ (by simp) rfl
          obtain ⟨u, hu, ex⟩ := hj.c0 D8
          have e := (F.got (i := 8) (t := 70) rfl rfl (D8) (Nat.lt_of_lt_of_eq (show 70 < 132 by omega) rfl)).trans ex
          have eq := e
          rw [Array.getD_eq_getD_getElem?] at eq
          exact wp_val (v := .tuple #[u, .agg #[.bool true, .bool true, .int .i64 6]]) (w' := wx) (by clear hj F hdep; go_simp) ⟨_, rfl, hj.plain (g16_ok g 4 4 7 0 7) (q := 1) rfl (by omega) (by omega) hdi (fun _ => ⟨D8, u, hu, rfl⟩) (fun e => absurd e (by omega)) (fun e => absurd e (by omega))⟩
        · intro d x a wx F hdi hdep hj
          have D9 : d 9 = true := hdep ⟨9, .data⟩ (by simp) rfl
          obtain ⟨D, u, hu, ex⟩ := hj.c1 D9
          have e := (F.got (i := 9) (t := 61) rfl rfl (D9) (Nat.lt_of_lt_of_eq (show 61 < 132 by omega) rfl)).trans ex
          have eq := e
          rw [Array.getD_eq_getD_getElem?] at eq
          exact wp_val (v := u) (w' := wx) (by clear hj F hdep; go_simp) ⟨_, rfl, hj.plain (g16_ok g 4 4 7 0 7) (q := 2) rfl (by omega) (by omega) hdi (fun e => absurd e (by omega)) (fun _ => ⟨D, hu⟩) (fun e => absurd e (by omega))⟩
        · intro d x a wx F hdi hdep hj
          have D9 : d 9 = true := hdep ⟨9, .data⟩ (by simp) rfl
          obtain ⟨D, u, hu, ex⟩ := hj.c1 D9
          have e := (F.got (i := 9) (t := 61) rfl rfl (D9) (Nat.lt_of_lt_of_eq (show 61 < 132 by omega) rfl)).trans ex
          have eq := e
          rw [Array.getD_eq_getD_getElem?] at eq
          exact wp_val (v := .agg #[.bool true, .bool true, .int .i64 6]) (w' := wx) (by clear hj F hdep; go_simp) ⟨_, rfl, hj.plain (g16_ok g 4 4 7 0 7) (q := 3) rfl (by omega) (by omega) hdi (fun e => absurd e (by omega)) (fun e => absurd e (by omega)) (fun _ => ⟨D, rfl⟩)⟩
        · intro d x a wx F hdi hdep hj
          exact wp_val (v := .pointer (some ⟨wx.heap.size, 0, none⟩)) (w' := wx.alloc (.cells zeroPart 28)) (by clear hj F hdep; unfold zeroPart; go_simp) ⟨_, rfl, hj.allA (g16_ok g 4 4 7 0 7) hdi⟩
        · intro d x a wx F hdi hdep hj
          exact wp_val (v := .pointer (some ⟨wx.heap.size, 0, none⟩)) (w' := wx.alloc (.cells zeroFault 30)) (by clear hj F hdep; unfold zeroFault; go_simp) ⟨_, rfl, hj.allB (g16_ok g 4 4 7 0 7) hdi⟩
        · intro d x a wx F hdi hdep hj
          have D10 : d 10 = true := hdep ⟨10, .data⟩ (by simp) rfl
          have D12 : d 12 = true := hdep ⟨12, .data⟩ (by simp) rfl
          obtain ⟨D, hp⟩ := hj.c2 D10
          obtain ⟨Ad, nd, cd, pad, code, last, step, As, ns, cs, ee, aa, ww, ex⟩ := hp
          obtain ⟨p, ep, hp1, hp2, hp3⟩ := hj.bA D12
          have hB := hp3.resolve_left (by rw [hdi]; simp)
          have e1 := (F.got (i := 10) (t := 71) rfl rfl (D10) (Nat.lt_of_lt_of_eq (show 71 < 132 by omega) rfl)).trans ex
          have e2 := (F.got (i := 12) (t := 10) rfl rfl (D12) (Nat.lt_of_lt_of_eq (show 10 < 132 by omega) rfl)).trans ep
          have e1q := e1
          rw [Array.getD_eq_getD_getElem?] at e1q
          have e2q := e2
          rw [Array.getD_eq_getD_getElem?] at e2q
          have z0 := hB.cell 0
          have f0 := hB.frozen 0
          have z1 := hB.cell 1
          have f1 := hB.frozen 1
          have z2 := hB.cell 2
          have f2 := hB.frozen 2
          have z3 := hB.cell 3
          have f3 := hB.frozen 3
          have z4 := hB.cell 4
          have f4 := hB.frozen 4
          have z5 := hB.cell 5
          have f5 := hB.frozen 5
          have z6 := hB.cell 6
          have f6 := hB.frozen 6
          have z7 := hB.cell 7
          have f7 := hB.frozen 7
          have z8 := hB.cell 8
          have f8 := hB.frozen 8
          simp [zeroPart] at z0 z1 z2 z3 z4 z5 z6 z7 z8
          have HJ := hid hj
          have HH := hid (And.intro hdi D12)
          have HD := hid D
          have HE := hid ep
          clear hj F hdep ex ep hp1 hp2 hp3 hB hdi D D10 D12
          unfold Oper.wp
          go_simp
          exact ⟨undef, HJ.out.stA (g16_ok g 4 4 7 0 7) HH.out.1 HH.out.2 HD.out HE.out ((((((((((Turned.refl _ _).setCell (by simp) _).setCell (by simp) _).setCell (by simp) _).setCell (by simp) _).setCell (by simp) _).setCell (by simp) _).setCell (by simp) _).setCell (by simp) _).setCell (by simp) _)⟩
        · intro d x a wx F hdi hdep hj
          have D11 : d 11 = true := hdep ⟨11, .data⟩ (by simp) rfl
          have D13 : d 13 = true := hdep ⟨13, .data⟩ (by simp) rfl
          obtain ⟨D, ex⟩ := hj.c3 D11
          obtain ⟨p, ep, hp1, hp2, hp3⟩ := hj.bB D13
          have hB := hp3.resolve_left (by rw [hdi]; simp)
          have e1 := (F.got (i := 11) (t := 72) rfl rfl (D11) (Nat.lt_of_lt_of_eq (show 72 < 132 by omega) rfl)).trans ex
          have e2 := (F.got (i := 13) (t := 11) rfl rfl (D13) (Nat.lt_of_lt_of_eq (show 11 < 132 by omega) rfl)).trans ep
          have e1q := e1
          rw [Array.getD_eq_getD_getElem?] at e1q
          have e2q := e2
          rw [Array.getD_eq_getD_getElem?] at e2q
          have z0 := hB.cell 0
          have f0 := hB.frozen 0
          have z1 := hB.cell 1
          have f1 := hB.frozen 1
          have z2 := hB.cell 2
          have f2 := hB.frozen 2
          simp [zeroFault] at z0 z1 z2
          have HJ := hid hj
          have HH := hid (And.intro hdi D13)
          have HD := hid D
          have HE := hid ep
          have HBB := hid hB
          clear hj F hdep ex ep hp1 hp2 hp3 hB hdi D D11 D13
          unfold Oper.wp
          go_simp
          exact ⟨undef, HJ.out.stB (g16_ok g 4 4 7 0 7) HH.out.1 HH.out.2 HD.out HE.out ((((Turned.refl _ _).setCell (by simp) _).setCell (by simp) _).setCell (by simp) _) (by have h9 := ((HBB.out.set_ 0 (.bool true)).set_ 1 (.bool true)).set_ 2 (.int .i64 6); simpa [zeroFault] using h9)⟩
      · intro d x wx hall hj
        obtain ⟨_, q, eq, hqb, hql, hqB⟩ := hj.fin (hall 15 (show 15 < 16 by omega))
        have HBw := hid hj.below
        have HQ := hid (hqB.resolve_left id)
        have m0 := HQ.out.cell 0
        have m1 := HQ.out.cell 1
        have m2 := HQ.out.cell 2
        simp at m0 m1 m2 eq
        have c6 := below_keep HBw.out _ _ HC6.out
        have HG1 := hid (HG.out.below HBw.out)
        clear hj hall hqB hqb hql
        simp only [putAll, Act.put]
        go_wp2_with fail
        (refine wp_mix ?_ ?_ ?_; (focus kernel_rfl); (focus kernel_rfl); intro KK hKK; go_wp2_with (first
              | (fail)
              | (with_reducible refine mix_nil ?_)
              | ((with_reducible refine mix_on ?_ ?_); (focus rfl); intro K hK; go_simp; (first | ((with_reducible refine hK _ _ ?_); clear hK K) | skip))
              | ((with_reducible refine mix_off ?_ ?_); (focus rfl); intro K hK; go_simp; (first | ((with_reducible refine hK _ _ ?_); clear hK K) | skip))
              | ((with_reducible refine mix_step ?_); intro K hK; go_simp; (first | ((with_reducible refine hK _ _ ?_); clear hK K) | skip))))
        go_upto_region 20 with fail
        clear m0 m1 m2 c6 eq
        have HB2 := hid (HBw.out.trans ((Below.refl wx.heap.size wx).drew.mono HBw.out.size))
        have HG2 := hid (HG1.out.below (Below.refl wx.heap.size wx).drew)
        generalize wx.drew = wy at HB2 HG2 ⊢
        clear HBw HQ HG1
        refine wp_region_inv (JC wy (G20 wy.heap.size g 4 4 7 8 0 7) 14 false false 0) rfl ?_ ?_ ?_ ?_
        · kernel_rfl
        · exact JC.start ((Below.refl _ _).drew)
        · refine ⟨?_, ?_, ?_, ?_, ?_, ?_, ?_, ?_, ?_, ?_, ?_, ?_, ?_, ?_, ?_, ?_, ?_, ?_, ?_, ?_, ?_, ?_, trivial⟩
          · intro d x a wx F hdi hdep hj
            have e : a.tmps.getD 6 undef = .slice (some ⟨g + 1, 0, none⟩) 6 6 := F.kept (t := 6) (by kernel_rfl)
            have eq := e
            rw [Array.getD_eq_getD_getElem?] at eq
            exact wp_val (v := .slice (some ⟨g + 1, 0, none⟩) 6 6) (w' := wx) (by clear hj F hdep; go_simp) ⟨_, rfl, hj.quiet (g20_ok wy.heap.size g 4 4 7 8 0 7) (by omega) (Below.refl _ _) rfl⟩
          · intro d x a wx F hdi hdep hj
            have e : a.tmps.getD 7 undef = .int .i64 4 := F.kept (t := 7) (by kernel_rfl)
            have eq := e
            rw [Array.getD_eq_getD_getElem?] at eq
            exact wp_val (v := .int .i64 4) (w' := wx) (by clear hj F hdep; go_simp) ⟨_, rfl, hj.quiet (g20_ok wy.heap.size g 4 4 7 8 0 7) (by omega) (Below.refl _ _) rfl⟩
          · intro d x a wx F hdi hdep hj
            have D0 : d 0 = true := hdep ⟨0, .data⟩ (by simp) rfl
            have D1 : d 1 = true := hdep ⟨1, .data⟩ (by simp) rfl
            have e112 := (F.got (i := 0) (t := 112) rfl rfl (D0) (Nat.lt_of_lt_of_eq (show 112 < 132 by omega) rfl)).trans (hj.pre 0 (by omega) D0)
            have e112q := e112
            rw [Array.getD_eq_getD_getElem?] at e112q
            have e113 := (F.got (i := 1) (t := 113) rfl rfl (D1) (Nat.lt_of_lt_of_eq (show 113 < 132 by omega) rfl)).trans (hj.pre 1 (by omega) D1)
            have e113q := e113
            rw [Array.getD_eq_getD_getElem?] at e113q
            exact wp_val (v := .pointer (some ⟨g + 1, 4, none⟩)) (w' := wx) (by clear hj F hdep; go_simp) ⟨_, rfl, hj.quiet (g20_ok wy.heap.size g 4 4 7 8 0 7) (by omega) (Below.refl _ _) rfl⟩
          · intro d x a wx F hdi hdep hj
            have D2 : d 2 = true := hdep ⟨2, .data⟩ (by simp) rfl
            have e114 := (F.got (i := 2) (t := 114) rfl rfl (D2) (Nat.lt_of_lt_of_eq (show 114 < 132 by omega) rfl)).trans (hj.pre 2 (by omega) D2)
            have e114q := e114
            rw [Array.getD_eq_getD_getElem?] at e114q
            have z := below_keep hj.below _ _ (show wy.cell? ⟨g + 1, 4, none⟩ = some (.int .i64 7) from HG2.out.kinds.cell 4)
            exact wp_val (v := .int .i64 7) (w' := wx) (by clear hj F hdep; go_simp) ⟨_, rfl, hj.quiet (g20_ok wy.heap.size g 4 4 7 8 0 7) (by omega) (Below.refl _ _) rfl⟩
          · intro d x a wx F hdi hdep hj
            have e : a.tmps.getD 8 undef = .int .i64 0 := F.kept (t := 8) (by kernel_rfl)
            have eq := e
            rw [Array.getD_eq_getD_getElem?] at eq
            exact wp_val (v := .int .i64 0) (w' := wx) (by clear hj F hdep; go_simp) ⟨_, rfl, hj.quiet (g20_ok wy.heap.size g 4 4 7 8 0 7) (by omega) (Below.refl _ _) rfl⟩
          · intro d x a wx F hdi hdep hj
            have e : a.tmps.getD 5 undef = .slice (some ⟨g, 0, none⟩) 6 6 := F.kept (t := 5) (by kernel_rfl)
            have eq := e
            rw [Array.getD_eq_getD_getElem?] at eq
            exact wp_val (v := .slice (some ⟨g, 0, none⟩) 6 6) (w' := wx) (by clear hj F hdep; go_simp) ⟨_, rfl, hj.quiet (g20_ok wy.heap.size g 4 4 7 8 0 7) (by omega) (Below.refl _ _) rfl⟩
          · intro d x a wx F hdi hdep hj
            have e : a.tmps.getD 7 undef = .int .i64 4 := F.kept (t := 7) (by kernel_rfl)
            have eq := e
            rw [Array.getD_eq_getD_getElem?] at eq
            exact wp_val (v := .int .i64 4) (w' := wx) (by clear hj F hdep; go_simp) ⟨_, rfl, hj.quiet (g20_ok wy.heap.size g 4 4 7 8 0 7) (by omega) (Below.refl _ _) rfl⟩
          · intro d x a wx F hdi hdep hj
            have D5 : d 5 = true := hdep ⟨5, .data⟩ (by simp) rfl
            have D6 : d 6 = true := hdep ⟨6, .data⟩ (by simp) rfl
            have e117 := (F.got (i := 5) (t := 117) rfl rfl (D5) (Nat.lt_of_lt_of_eq (show 117 < 132 by omega) rfl)).trans (hj.pre 5 (by omega) D5)
            have e117q := e117
            rw [Array.getD_eq_getD_getElem?] at e117q
            have e118 := (F.got (i := 6) (t := 118) rfl rfl (D6) (Nat.lt_of_lt_of_eq (show 118 < 132 by omega) rfl)).trans (hj.pre 6 (by omega) D6)
            have e118q := e118
            rw [Array.getD_eq_getD_getElem?] at e118q
            exact wp_val (v := .pointer (some ⟨g, 4, none⟩)) (w' := wx) (by clear hj F hdep; go_simp) ⟨_, rfl, hj.quiet (g20_ok wy.heap.size g 4 4 7 8 0 7) (by omega) (Below.refl _ _) rfl⟩
          · intro d x a wx F hdi hdep hj
            have D7 : d 7 = true := hdep ⟨7, .data⟩ (by simp) rfl
            have e119 := (F.got (i := 7) (t := 119) rfl rfl (D7) (Nat.lt_of_lt_of_eq (show 119 < 132 by omega) rfl)).trans (hj.pre 7 (by omega) D7)
            have e119q := e119
            rw [Array.getD_eq_getD_getElem?] at e119q
            have z := below_keep hj.below _ _ (show wy.cell? ⟨g, 4, none⟩ = some (.int .i64 8) from HG2.out.sizes.cell 4)
            exact wp_val (v := .int .i64 8) (w' := wx) (by clear hj F hdep; go_simp) ⟨_, rfl, hj.quiet (g20_ok wy.heap.size g 4 4 7 8 0 7) (by omega) (Below.refl _ _) rfl⟩
          · intro d x a wx F hdi hdep hj
            have D8 : d 8 = true := hdep ⟨8, .data⟩ (by simp) rfl
            have e120 := (F.got (i := 8) (t := 120) rfl rfl (D8) (Nat.lt_of_lt_of_eq (show 120 < 132 by omega) rfl)).trans (hj.pre 8 (by omega) D8)
            have e120q := e120
            rw [Array.getD_eq_getD_getElem?] at e120q
            have hw : IntKind.i64.wrap 7 = 7 := rfl
            exact wp_val (v := .int .i64 7) (w' := wx) (by clear hj F hdep; go_simp) ⟨_, rfl, hj.quiet (g20_ok wy.heap.size g 4 4 7 8 0 7) (by omega) (Below.refl _ _) rfl⟩
          · intro d x a wx F hdi hdep hj
            have D9 : d 9 = true := hdep ⟨9, .data⟩ (by simp) rfl
            have e121 := (F.got (i := 9) (t := 121) rfl rfl (D9) (Nat.lt_of_lt_of_eq (show 121 < 132 by omega) rfl)).trans (hj.pre 9 (by omega) D9)
            have e121q := e121
            rw [Array.getD_eq_getD_getElem?] at e121q
            have hmk : ∀ w, (Instr.makeSlice 25 (.int .i64 7) (.int .i64 7)).run Try.prog w = .ok (.slice (some ⟨w.heap.size, 0, none⟩) 7 7) (w.alloc (.cells #[.int .u8 0, .int .u8 0, .int .u8 0, .int .u8 0, .int .u8 0, .int .u8 0, .int .u8 0] 5)) := fun _ => by kernel_rfl
            exact wp_val (v := .slice (some ⟨wx.heap.size, 0, none⟩) 7 7) (w' := wx.alloc (.cells #[.int .u8 0, .int .u8 0, .int .u8 0, .int .u8 0, .int .u8 0, .int .u8 0, .int .u8 0] 5)) (by clear hj F hdep; go_simp) ⟨_, rfl, hj.quiet (g20_ok wy.heap.size g 4 4 7 8 0 7) (by omega) ((Below.refl _ _).alloc (Nat.le_refl _) _) (.inr (.inr (World.ownsRow_lit (base := wy.heap.size) (e := 5) (size := 1) wx #[.int .u8 0, .int .u8 0, .int .u8 0, .int .u8 0, .int .u8 0, .int .u8 0, .int .u8 0] 7 hj.below.size (by decide) rfl)))⟩
          · intro d x a wx F hdi hdep hj
            exact wp_val (v := .slice (some ⟨wx.heap.size, 0, none⟩) 1 1) (w' := wx.alloc (.cells #[.int .u8 1] 5)) (by clear hj F hdep; go_simp) ⟨_, rfl, hj.quiet (g20_ok wy.heap.size g 4 4 7 8 0 7) (by omega) ((Below.refl _ _).alloc (Nat.le_refl _) _) (.inr (.inr ⟨wx.heap.size, rfl, rd_new (size := 1) rfl rfl⟩))⟩
          · intro d x a wx F hdi hdep hj
            have D10 : d 10 = true := hdep ⟨10, .data⟩ (by simp) rfl
            have D11 : d 11 = true := hdep ⟨11, .data⟩ (by simp) rfl
            have h14 : d 14 = false := by
              rcases h : d 14 with _ | _
              · rfl
              · have h13 := hj.cb h
                have h12 := (hj.pre 13 (by omega) h13).1
                rw [hdi] at h12
                cases h12
            have hown := ((hj.pre 10 (by omega) D10).resolve_left (by rw [hdi]; simp)).resolve_left (by rw [h14]; simp)
            obtain ⟨b, eb, hB⟩ := ((hj.pre 11 (by omega) D11).resolve_left (by rw [hdi]; simp)).resolve_left (by rw [h14]; simp)
            have e122 := F.got (i := 10) (t := 122) rfl rfl (D10) (Nat.lt_of_lt_of_eq (show 122 < 132 by omega) rfl)
            have e123 := (F.got (i := 11) (t := 123) rfl rfl (D11) (Nat.lt_of_lt_of_eq (show 123 < 132 by omega) rfl)).trans eb
            refine wp_app wx (.tmp 122) (.tmp 123) 25 rfl wy.heap.size 5 i0 _ 1 1 Try.underlying25 hi.out hz.out hsz.out hby.out rfl (by decide) (x 10) 7 _ e122 hown (some ⟨b, 0, none⟩) 1 1 ([1].map bv) e123 hB (bv_one _) (by decide) (by decide) hj.below.size ?_
            intro A' c' w' ho hg hat
            refine ⟨_, rfl, hj.step (by omega) (below_app hj.below hown hg (Nat.le_refl _) hj.below.size) hg.size (fun q hq => hq.grown hg (fun e => Blk.own_ne hq hown (by decide) e.symm)) (fun q cs hq => hq.grown hg (fun e => Blk.own_ne hq hown (by decide) e.symm)) (fun j hj' hne hd hG => ?_) ⟨A', c', rfl, .inr ⟨own_le ho, by have h9 := Bs.of_own (l := zl 7 ++ [1]) (by rw [List.map_append]; exact ho); exact h9⟩⟩⟩
            match j, hj' with
            | 0, _ => exact hG
            | 1, _ => exact hG
            | 2, _ => exact hG
            | 3, _ => exact hG
            | 4, _ => exact hG
            | 5, _ => exact hG
            | 6, _ => exact hG
            | 7, _ => exact hG
            | 8, _ => exact hG
            | 9, _ => exact hG
            | 10, _ => exact .inl (setB_self _ _)
            | 11, _ => exact .inl (setB_self _ _)
            | 12, _ => exact absurd rfl hne
            | 13, _ =>
              have h12 := hG.1
              rw [hdi] at h12
              cases h12
          · intro d x a wx F hdi hdep hj
            have D3 : d 3 = true := hdep ⟨3, .data⟩ (by simp) rfl
            have D4 : d 4 = true := hdep ⟨4, .data⟩ (by simp) rfl
            have D12 : d 12 = true := hdep ⟨12, .data⟩ (by simp) rfl
            have e115 := (F.got (i := 3) (t := 115) rfl rfl (D3) (Nat.lt_of_lt_of_eq (show 115 < 132 by omega) rfl)).trans (hj.pre 3 (by omega) D3)
            have e115q := e115
            rw [Array.getD_eq_getD_getElem?] at e115q
            have e116 := (F.got (i := 4) (t := 116) rfl rfl (D4) (Nat.lt_of_lt_of_eq (show 116 < 132 by omega) rfl)).trans (hj.pre 4 (by omega) D4)
            have e116q := e116
            rw [Array.getD_eq_getD_getElem?] at e116q
            obtain ⟨A, c, eb, hB⟩ := hj.pre 12 (by omega) D12
            have e124 := (F.got (i := 12) (t := 124) rfl rfl (D12) (Nat.lt_of_lt_of_eq (show 124 < 132 by omega) rfl)).trans eb
            have e124q := e124
            rw [Array.getD_eq_getD_getElem?] at e124q
            have HBq := hid hB
            clear hB eb
            exact wp_val (v := .agg #[.int .i64 7, .int .i64 0, .int .i64 0, .slice A (7 + 1) c]) (w' := wx) (by clear hj F hdep; go_simp) ⟨_, rfl, hj.quiet (g20_ok wy.heap.size g 4 4 7 8 0 7) (by omega) (Below.refl _ _) ⟨setB_of D12, A, c, rfl, HBq.out.imp setB_of id⟩⟩
          · intro d x a wx F hdi hdep hj
            have D13 : d 13 = true := hdep ⟨13, .data⟩ (by simp) rfl
            obtain ⟨_, A, c, eb, hB⟩ := hj.pre 13 (by omega) D13
            have e125 := (F.got (i := 13) (t := 125) rfl rfl (D13) (Nat.lt_of_lt_of_eq (show 125 < 132 by omega) rfl)).trans eb
            have HBq := hid (hB.resolve_left (by rw [hdi]; simp))
            clear hB eb
            have e125q := e125
            rw [Array.getD_eq_getD_getElem?] at e125q
            exact wp_call (f := 9) (args := #[.agg #[.int .i64 7, .int .i64 0, .int .i64 0, .slice A (7 + 1) c]]) (by clear hj F hdep; go_simp) (Calls.mono (read_any 7 0 0 A (7 + 1) c (zl 7 ++ [1]) wx HBq.out.2 HBq.out.1 (by omega)) (fun e w' hp => cut_ok_4 stream hst wx e w' hp)) (fun u w' hu hb => ⟨_, rfl, hj.call (g20_ok wy.heap.size g 4 4 7 8 0 7) hb D13 hu⟩)
          · intro d x a wx F hdi hdep hj
            have D14 : d 14 = true := hdep ⟨14, .data⟩ (by simp) rfl
            obtain ⟨u, hu, ex⟩ := hj.c0 D14
            have e := (F.got (i := 14) (t := 126) rfl rfl (D14) (Nat.lt_of_lt_of_eq (show 126 < 132 by omega) rfl)).trans ex
            have eq := e
            rw [Array.getD_eq_getD_getElem?] at eq
            exact wp_val (v := .tuple #[u, .agg #[.bool false, .bool false, .int .i64 0]]) (w' := wx) (by clear hj F hdep; go_simp) ⟨_, rfl, hj.plain (g20_ok wy.heap.size g 4 4 7 8 0 7) (q := 1) rfl (by omega) (by omega) hdi (fun _ => ⟨D14, u, hu, rfl⟩) (fun e => absurd e (by omega)) (fun e => absurd e (by omega))⟩
          · intro d x a wx F hdi hdep hj
            have D15 : d 15 = true := hdep ⟨15, .data⟩ (by simp) rfl
            obtain ⟨D, u, hu, ex⟩ := hj.c1 D15
            have e := (F.got (i := 15) (t := 111) rfl rfl (D15) (Nat.lt_of_lt_of_eq (show 111 < 132 by omega) rfl)).trans ex
            have eq := e
            rw [Array.getD_eq_getD_getElem?] at eq
            exact wp_val (v := u) (w' := wx) (by clear hj F hdep; go_simp) ⟨_, rfl, hj.plain (g20_ok wy.heap.size g 4 4 7 8 0 7) (q := 2) rfl (by omega) (by omega) hdi (fun e => absurd e (by omega)) (fun _ => ⟨D, hu⟩) (fun e => absurd e (by omega))⟩
          · intro d x a wx F hdi hdep hj
            have D15 : d 15 = true := hdep ⟨15, .data⟩ (by simp) rfl
            obtain ⟨D, u, hu, ex⟩ := hj.c1 D15
            have e := (F.got (i := 15) (t := 111) rfl rfl (D15) (Nat.lt_of_lt_of_eq (show 111 < 132 by omega) rfl)).trans ex
            have eq := e
            rw [Array.getD_eq_getD_getElem?] at eq
            exact wp_val (v := .agg #[.bool false, .bool false, .int .i64 0]) (w' := wx) (by clear hj F hdep; go_simp) ⟨_, rfl, hj.plain (g20_ok wy.heap.size g 4 4 7 8 0 7) (q := 3) rfl (by omega) (by omega) hdi (fun e => absurd e (by omega)) (fun e => absurd e (by omega)) (fun _ => ⟨D, rfl⟩)⟩
          · intro d x a wx F hdi hdep hj
            exact wp_val (v := .pointer (some ⟨wx.heap.size, 0, none⟩)) (w' := wx.alloc (.cells zeroPart 28)) (by clear hj F hdep; unfold zeroPart; go_simp) ⟨_, rfl, hj.allA (g20_ok wy.heap.size g 4 4 7 8 0 7) hdi⟩
          · intro d x a wx F hdi hdep hj
            exact wp_val (v := .pointer (some ⟨wx.heap.size, 0, none⟩)) (w' := wx.alloc (.cells zeroFault 30)) (by clear hj F hdep; unfold zeroFault; go_simp) ⟨_, rfl, hj.allB (g20_ok wy.heap.size g 4 4 7 8 0 7) hdi⟩
          · intro d x a wx F hdi hdep hj
            have D16 : d 16 = true := hdep ⟨16, .data⟩ (by simp) rfl
            have D18 : d 18 = true := hdep ⟨18, .data⟩ (by simp) rfl
            obtain ⟨D, hp⟩ := hj.c2 D16
            obtain ⟨Ad, nd, cd, pad, code, last, step, As, ns, cs, ee, aa, ww, ex⟩ := hp
            obtain ⟨p, ep, hp1, hp2, hp3⟩ := hj.bA D18
            have hB := hp3.resolve_left (by rw [hdi]; simp)
            have e1 := (F.got (i := 16) (t := 127) rfl rfl (D16) (Nat.lt_of_lt_of_eq (show 127 < 132 by omega) rfl)).trans ex
            have e2 := (F.got (i := 18) (t := 13) rfl rfl (D18) (Nat.lt_of_lt_of_eq (show 13 < 132 by omega) rfl)).trans ep
            have e1q := e1
            rw [Array.getD_eq_getD_getElem?] at e1q
            have e2q := e2
            rw [Array.getD_eq_getD_getElem?] at e2q
            have z0 := hB.cell 0
            have f0 := hB.frozen 0
            have z1 := hB.cell 1
            have f1 := hB.frozen 1
            have z2 := hB.cell 2
            have f2 := hB.frozen 2
            have z3 := hB.cell 3
            have f3 := hB.frozen 3
            have z4 := hB.cell 4
            have f4 := hB.frozen 4
            have z5 := hB.cell 5
            have f5 := hB.frozen 5
            have z6 := hB.cell 6
            have f6 := hB.frozen 6
            have z7 := hB.cell 7
            have f7 := hB.frozen 7
            have z8 := hB.cell 8
            have f8 := hB.frozen 8
            simp [zeroPart] at z0 z1 z2 z3 z4 z5 z6 z7 z8
            have HJ := hid hj
            have HH := hid (And.intro hdi D18)
            have HD := hid D
            have HE := hid ep
            clear hj F hdep ex ep hp1 hp2 hp3 hB hdi D D16 D18
            unfold Oper.wp
            go_simp
            exact ⟨undef, HJ.out.stA (g20_ok wy.heap.size g 4 4 7 8 0 7) HH.out.1 HH.out.2 HD.out HE.out ((((((((((Turned.refl _ _).setCell (by simp) _).setCell (by simp) _).setCell (by simp) _).setCell (by simp) _).setCell (by simp) _).setCell (by simp) _).setCell (by simp) _).setCell (by simp) _).setCell (by simp) _)⟩
          · intro d x a wx F hdi hdep hj
            have D17 : d 17 = true := hdep ⟨17, .data⟩ (by simp) rfl
            have D19 : d 19 = true := hdep ⟨19, .data⟩ (by simp) rfl
            obtain ⟨D, ex⟩ := hj.c3 D17
            obtain ⟨p, ep, hp1, hp2, hp3⟩ := hj.bB D19
            have hB := hp3.resolve_left (by rw [hdi]; simp)
            have e1 := (F.got (i := 17) (t := 128) rfl rfl (D17) (Nat.lt_of_lt_of_eq (show 128 < 132 by omega) rfl)).trans ex
            have e2 := (F.got (i := 19) (t := 14) rfl rfl (D19) (Nat.lt_of_lt_of_eq (show 14 < 132 by omega) rfl)).trans ep
            have e1q := e1
            rw [Array.getD_eq_getD_getElem?] at e1q
            have e2q := e2
            rw [Array.getD_eq_getD_getElem?] at e2q
            have z0 := hB.cell 0
            have f0 := hB.frozen 0
            have z1 := hB.cell 1
            have f1 := hB.frozen 1
            have z2 := hB.cell 2
            have f2 := hB.frozen 2
            simp [zeroFault] at z0 z1 z2
            have HJ := hid hj
            have HH := hid (And.intro hdi D19)
            have HD := hid D
            have HE := hid ep
            have HBB := hid hB
            clear hj F hdep ex ep hp1 hp2 hp3 hB hdi D D17 D19
            unfold Oper.wp
            go_simp
            exact ⟨undef, HJ.out.stB (g20_ok wy.heap.size g 4 4 7 8 0 7) HH.out.1 HH.out.2 HD.out HE.out ((((Turned.refl _ _).setCell (by simp) _).setCell (by simp) _).setCell (by simp) _) (by have h9 := ((HBB.out.set_ 0 (.bool false)).set_ 1 (.bool false)).set_ 2 (.int .i64 0); simpa [zeroFault] using h9)⟩
        · intro d2 x2 wz hall hj
          obtain ⟨_, q2, eq2, hqb, hql, hqB⟩ := hj.fin (hall 21 (show 21 < 22 by omega))
          have HBz := hid hj.below
          have HQ := hid (hqB.resolve_left id)
          have m0 := HQ.out.cell 0
          simp at m0 eq2
          have HG3 := hid (HG2.out.below HBz.out)
          have HB3 := hid (HB.out.trans ((HB2.out.trans (HBz.out.mono HB2.out.size)).mono HB.out.size))
          clear hj hall hqB hqb hql
          simp only [putAll, Act.put]
          go_wp2_with fail
          go_roundw
          case rel => exact ⟨4 + 1, by omega, by go_num, HG3.out, HB3.out⟩
          case measure => simp [intOf]
    · have c5 : wr.cell? ⟨g, 5, none⟩ = some (.int .i64 4) := HG.out.sizes.cell 5
      have c6 : wr.cell? ⟨g + 1, 5, none⟩ = some (.int .i64 8) := HG.out.kinds.cell 5
      have HC6 := hid c6
      go_upto_region 16 with fail
      clear c5 c6
      refine wp_region_inv (JC wr (G16 g 5 5 8 stream 3) 8 true true 6) rfl ?_ ?_ ?_ ?_
      · kernel_rfl
      · exact JC.start ((Below.refl _ _).drew)
      · refine ⟨?_, ?_, ?_, ?_, ?_, ?_, ?_, ?_, ?_, ?_, ?_, ?_, ?_, ?_, ?_, ?_, trivial⟩
        · intro d x a wx F hdi hdep hj
          have e : a.tmps.getD 6 undef = .slice (some ⟨g + 1, 0, none⟩) 6 6 := F.kept (t := 6) (by kernel_rfl)
          have eq := e
          rw [Array.getD_eq_getD_getElem?] at eq
          exact wp_val (v := .slice (some ⟨g + 1, 0, none⟩) 6 6) (w' := wx) (by clear hj F hdep; go_simp) ⟨_, rfl, hj.quiet (g16_ok g 5 5 8 stream 3) (by omega) (Below.refl _ _) rfl⟩
        · intro d x a wx F hdi hdep hj
          have e : a.tmps.getD 7 undef = .int .i64 5 := F.kept (t := 7) (by kernel_rfl)
          have eq := e
          rw [Array.getD_eq_getD_getElem?] at eq
          exact wp_val (v := .int .i64 5) (w' := wx) (by clear hj F hdep; go_simp) ⟨_, rfl, hj.quiet (g16_ok g 5 5 8 stream 3) (by omega) (Below.refl _ _) rfl⟩
        · intro d x a wx F hdi hdep hj
          have D0 : d 0 = true := hdep ⟨0, .data⟩ (by simp) rfl
          have D1 : d 1 = true := hdep ⟨1, .data⟩ (by simp) rfl
          have e62 := (F.got (i := 0) (t := 62) rfl rfl (D0) (Nat.lt_of_lt_of_eq (show 62 < 132 by omega) rfl)).trans (hj.pre 0 (by omega) D0)
          have e62q := e62
          rw [Array.getD_eq_getD_getElem?] at e62q
          have e63 := (F.got (i := 1) (t := 63) rfl rfl (D1) (Nat.lt_of_lt_of_eq (show 63 < 132 by omega) rfl)).trans (hj.pre 1 (by omega) D1)
          have e63q := e63
          rw [Array.getD_eq_getD_getElem?] at e63q
          exact wp_val (v := .pointer (some ⟨g + 1, 5, none⟩)) (w' := wx) (by clear hj F hdep; go_simp) ⟨_, rfl, hj.quiet (g16_ok g 5 5 8 stream 3) (by omega) (Below.refl _ _) rfl⟩
        · intro d x a wx F hdi hdep hj
          have D2 : d 2 = true := hdep ⟨2, .data⟩ (by simp) rfl
          have e64 := (F.got (i := 2) (t := 64) rfl rfl (D2) (Nat.lt_of_lt_of_eq (show 64 < 132 by omega) rfl)).trans (hj.pre 2 (by omega) D2)
          have e64q := e64
          rw [Array.getD_eq_getD_getElem?] at e64q
          have z := below_keep hj.below _ _ HC6.out
          exact wp_val (v := .int .i64 8) (w' := wx) (by clear hj F hdep; go_simp) ⟨_, rfl, hj.quiet (g16_ok g 5 5 8 stream 3) (by omega) (Below.refl _ _) rfl⟩
        · intro d x a wx F hdi hdep hj
          have e : a.tmps.getD 8 undef = .int .i64 stream := F.kept (t := 8) (by kernel_rfl)
          have eq := e
          rw [Array.getD_eq_getD_getElem?] at eq
          exact wp_val (v := .int .i64 stream) (w' := wx) (by clear hj F hdep; go_simp) ⟨_, rfl, hj.quiet (g16_ok g 5 5 8 stream 3) (by omega) (Below.refl _ _) rfl⟩
        · intro d x a wx F hdi hdep hj
          have e : a.tmps.getD 9 undef = .int .i64 3 := F.kept (t := 9) (by kernel_rfl)
          have eq := e
          rw [Array.getD_eq_getD_getElem?] at eq
          exact wp_val (v := .int .i64 3) (w' := wx) (by clear hj F hdep; go_simp) ⟨_, rfl, hj.quiet (g16_ok g 5 5 8 stream 3) (by omega) (Below.refl _ _) rfl⟩
        · intro d x a wx F hdi hdep hj
          have D5 : d 5 = true := hdep ⟨5, .data⟩ (by simp) rfl
          have e67 := (F.got (i := 5) (t := 67) rfl rfl (D5) (Nat.lt_of_lt_of_eq (show 67 < 132 by omega) rfl)).trans (hj.pre 5 (by omega) D5)
          have e67q := e67
          rw [Array.getD_eq_getD_getElem?] at e67q
          have hmk : ∀ w, (Instr.makeSlice 25 (.int .i64 3) (.int .i64 3)).run Try.prog w = .ok (.slice (some ⟨w.heap.size, 0, none⟩) 3 3) (w.alloc (.cells #[.int .u8 0, .int .u8 0, .int .u8 0] 5)) := fun _ => by kernel_rfl
          exact wp_val (v := .slice (some ⟨wx.heap.size, 0, none⟩) 3 3) (w' := wx.alloc (.cells #[.int .u8 0, .int .u8 0, .int .u8 0] 5)) (by clear hj F hdep; go_simp) ⟨_, rfl, hj.quiet (g16_ok g 5 5 8 stream 3) (by omega) ((Below.refl _ _).alloc (Nat.le_refl _) _) ⟨wx.heap.size, rfl, .inr (rd_new (size := 1) rfl rfl)⟩⟩
        · intro d x a wx F hdi hdep hj
          have D3 : d 3 = true := hdep ⟨3, .data⟩ (by simp) rfl
          have D4 : d 4 = true := hdep ⟨4, .data⟩ (by simp) rfl
          have D6 : d 6 = true := hdep ⟨6, .data⟩ (by simp) rfl
          have e65 := (F.got (i := 3) (t := 65) rfl rfl (D3) (Nat.lt_of_lt_of_eq (show 65 < 132 by omega) rfl)).trans (hj.pre 3 (by omega) D3)
          have e65q := e65
          rw [Array.getD_eq_getD_getElem?] at e65q
          have e66 := (F.got (i := 4) (t := 66) rfl rfl (D4) (Nat.lt_of_lt_of_eq (show 66 < 132 by omega) rfl)).trans (hj.pre 4 (by omega) D4)
          have e66q := e66
          rw [Array.getD_eq_getD_getElem?] at e66q
          obtain ⟨b, eb, hB⟩ := hj.pre 6 (by omega) D6
          have e68 := (F.got (i := 6) (t := 68) rfl rfl (D6) (Nat.lt_of_lt_of_eq (show 68 < 132 by omega) rfl)).trans eb
          have e68q := e68
          rw [Array.getD_eq_getD_getElem?] at e68q
          have HBq := hid hB
          clear hB eb
          exact wp_val (v := .agg #[.int .i64 8, .int .i64 0, .int .i64 stream, .slice (some ⟨b, 0, none⟩) 3 3]) (w' := wx) (by clear hj F hdep; go_simp) ⟨_, rfl, hj.quiet (g16_ok g 5 5 8 stream 3) (by omega) (Below.refl _ _) ⟨b, rfl, HBq.out.imp setB_of id⟩⟩
        · intro d x a wx F hdi hdep hj
          have D7 : d 7 = true := hdep ⟨7, .data⟩ (by simp) rfl
          obtain ⟨b, eb, hB⟩ := hj.pre 7 (by omega) D7
          have e69 := (F.got (i := 7) (t := 69) rfl rfl (D7) (Nat.lt_of_lt_of_eq (show 69 < 132 by omega) rfl)).trans eb
          have HBq := hid (hB.resolve_left (by rw [hdi]; simp))
          clear hB eb
          have e69q := e69
          rw [Array.getD_eq_getD_getElem?] at e69q
          exact wp_call (f := 9) (args := #[.agg #[.int .i64 8, .int .i64 0, .int .i64 stream, .slice (some ⟨b, 0, none⟩) 3 3]]) (by clear hj F hdep; go_simp) (Calls.mono (read_any 8 0 stream (some ⟨b, 0, none⟩) 3 3 (zl 3) wx HBq.out (Nat.le_refl _) (by omega)) (fun e w' hp => cut_spec_5_0 stream hst wx e w' hp)) (fun u w' hu hb => ⟨_, rfl, hj.call (g16_ok g 5 5 8 stream 3) hb D7 hu⟩)
        · intro d x a wx F hdi hdep hj
          have D8 : d 8 = true := hdep ⟨8, .data⟩ (by simp) rfl
          obtain ⟨u, hu, ex⟩ := hj.c0 D8
          have e := (F.got (i := 8) (t := 70) rfl rfl (D8) (Nat.lt_of_lt_of_eq (show 70 < 132 by omega) rfl)).trans ex
          have eq := e
          rw [Array.getD_eq_getD_getElem?] at eq
          exact wp_val (v := .tuple #[u, .agg #[.bool true, .bool true, .int .i64 6]]) (w' := wx) (by clear hj F hdep; go_simp) ⟨_, rfl, hj.plain (g16_ok g 5 5 8 stream 3) (q := 1) rfl (by omega) (by omega) hdi (fun _ => ⟨D8, u, hu, rfl⟩) (fun e => absurd e (by omega)) (fun e => absurd e (by omega))⟩
        · intro d x a wx F hdi hdep hj
          have D9 : d 9 = true := hdep ⟨9, .data⟩ (by simp) rfl
          obtain ⟨D, u, hu, ex⟩ := hj.c1 D9
          have e := (F.got (i := 9) (t := 61) rfl rfl (D9) (Nat.lt_of_lt_of_eq (show 61 < 132 by omega) rfl)).trans ex
          have eq := e
          rw [Array.getD_eq_getD_getElem?] at eq
          exact wp_val (v := u) (w' := wx) (by clear hj F hdep; go_simp) ⟨_, rfl, hj.plain (g16_ok g 5 5 8 stream 3) (q := 2) rfl (by omega) (by omega) hdi (fun e => absurd e (by omega)) (fun _ => ⟨D, hu⟩) (fun e => absurd e (by omega))⟩
        · intro d x a wx F hdi hdep hj
          have D9 : d 9 = true := hdep ⟨9, .data⟩ (by simp) rfl
          obtain ⟨D, u, hu, ex⟩ := hj.c1 D9
          have e := (F.got (i := 9) (t := 61) rfl rfl (D9) (Nat.lt_of_lt_of_eq (show 61 < 132 by omega) rfl)).trans ex
          have eq := e
          rw [Array.getD_eq_getD_getElem?] at eq
          exact wp_val (v := .agg #[.bool true, .bool true, .int .i64 6]) (w' := wx) (by clear hj F hdep; go_simp) ⟨_, rfl, hj.plain (g16_ok g 5 5 8 stream 3) (q := 3) rfl (by omega) (by omega) hdi (fun e => absurd e (by omega)) (fun e => absurd e (by omega)) (fun _ => ⟨D, rfl⟩)⟩
        · intro d x a wx F hdi hdep hj
          exact wp_val (v := .pointer (some ⟨wx.heap.size, 0, none⟩)) (w' := wx.alloc (.cells zeroPart 28)) (by clear hj F hdep; unfold zeroPart; go_simp) ⟨_, rfl, hj.allA (g16_ok g 5 5 8 stream 3) hdi⟩
        · intro d x a wx F hdi hdep hj
          exact wp_val (v := .pointer (some ⟨wx.heap.size, 0, none⟩)) (w' := wx.alloc (.cells zeroFault 30)) (by clear hj F hdep; unfold zeroFault; go_simp) ⟨_, rfl, hj.allB (g16_ok g 5 5 8 stream 3) hdi⟩
        · intro d x a wx F hdi hdep hj
          have D10 : d 10 = true := hdep ⟨10, .data⟩ (by simp) rfl
          have D12 : d 12 = true := hdep ⟨12, .data⟩ (by simp) rfl
          obtain ⟨D, hp⟩ := hj.c2 D10
          obtain ⟨Ad, nd, cd, pad, code, last, step, As, ns, cs, ee, aa, ww, ex⟩ := hp
          obtain ⟨p, ep, hp1, hp2, hp3⟩ := hj.bA D12
          have hB := hp3.resolve_left (by rw [hdi]; simp)
          have e1 := (F.got (i := 10) (t := 71) rfl rfl (D10) (Nat.lt_of_lt_of_eq (show 71 < 132 by omega) rfl)).trans ex
          have e2 := (F.got (i := 12) (t := 10) rfl rfl (D12) (Nat.lt_of_lt_of_eq (show 10 < 132 by omega) rfl)).trans ep
          have e1q := e1
          rw [Array.getD_eq_getD_getElem?] at e1q
          have e2q := e2
          rw [Array.getD_eq_getD_getElem?] at e2q
          have z0 := hB.cell 0
          have f0 := hB.frozen 0
          have z1 := hB.cell 1
          have f1 := hB.frozen 1
          have z2 := hB.cell 2
          have f2 := hB.frozen 2
          have z3 := hB.cell 3
          have f3 := hB.frozen 3
          have z4 := hB.cell 4
          have f4 := hB.frozen 4
          have z5 := hB.cell 5
          have f5 := hB.frozen 5
          have z6 := hB.cell 6
          have f6 := hB.frozen 6
          have z7 := hB.cell 7
          have f7 := hB.frozen 7
          have z8 := hB.cell 8
          have f8 := hB.frozen 8
          simp [zeroPart] at z0 z1 z2 z3 z4 z5 z6 z7 z8
          have HJ := hid hj
          have HH := hid (And.intro hdi D12)
          have HD := hid D
          have HE := hid ep
          clear hj F hdep ex ep hp1 hp2 hp3 hB hdi D D10 D12
          unfold Oper.wp
          go_simp
          exact ⟨undef, HJ.out.stA (g16_ok g 5 5 8 stream 3) HH.out.1 HH.out.2 HD.out HE.out ((((((((((Turned.refl _ _).setCell (by simp) _).setCell (by simp) _).setCell (by simp) _).setCell (by simp) _).setCell (by simp) _).setCell (by simp) _).setCell (by simp) _).setCell (by simp) _).setCell (by simp) _)⟩
        · intro d x a wx F hdi hdep hj
          have D11 : d 11 = true := hdep ⟨11, .data⟩ (by simp) rfl
          have D13 : d 13 = true := hdep ⟨13, .data⟩ (by simp) rfl
          obtain ⟨D, ex⟩ := hj.c3 D11
          obtain ⟨p, ep, hp1, hp2, hp3⟩ := hj.bB D13
          have hB := hp3.resolve_left (by rw [hdi]; simp)
          have e1 := (F.got (i := 11) (t := 72) rfl rfl (D11) (Nat.lt_of_lt_of_eq (show 72 < 132 by omega) rfl)).trans ex
          have e2 := (F.got (i := 13) (t := 11) rfl rfl (D13) (Nat.lt_of_lt_of_eq (show 11 < 132 by omega) rfl)).trans ep
          have e1q := e1
          rw [Array.getD_eq_getD_getElem?] at e1q
          have e2q := e2
          rw [Array.getD_eq_getD_getElem?] at e2q
          have z0 := hB.cell 0
          have f0 := hB.frozen 0
          have z1 := hB.cell 1
          have f1 := hB.frozen 1
          have z2 := hB.cell 2
          have f2 := hB.frozen 2
          simp [zeroFault] at z0 z1 z2
          have HJ := hid hj
          have HH := hid (And.intro hdi D13)
          have HD := hid D
          have HE := hid ep
          have HBB := hid hB
          clear hj F hdep ex ep hp1 hp2 hp3 hB hdi D D11 D13
          unfold Oper.wp
          go_simp
          exact ⟨undef, HJ.out.stB (g16_ok g 5 5 8 stream 3) HH.out.1 HH.out.2 HD.out HE.out ((((Turned.refl _ _).setCell (by simp) _).setCell (by simp) _).setCell (by simp) _) (by have h9 := ((HBB.out.set_ 0 (.bool true)).set_ 1 (.bool true)).set_ 2 (.int .i64 6); simpa [zeroFault] using h9)⟩
      · intro d x wx hall hj
        obtain ⟨_, q, eq, hqb, hql, hqB⟩ := hj.fin (hall 15 (show 15 < 16 by omega))
        have HBw := hid hj.below
        have HQ := hid (hqB.resolve_left id)
        have m0 := HQ.out.cell 0
        have m1 := HQ.out.cell 1
        have m2 := HQ.out.cell 2
        simp at m0 m1 m2 eq
        have c6 := below_keep HBw.out _ _ HC6.out
        have HG1 := hid (HG.out.below HBw.out)
        clear hj hall hqB hqb hql
        simp only [putAll, Act.put]
        go_wp2_with fail
        (refine wp_mix ?_ ?_ ?_; (focus kernel_rfl); (focus kernel_rfl); intro KK hKK; go_wp2_with (first
              | (fail)
              | (with_reducible refine mix_nil ?_)
              | ((with_reducible refine mix_on ?_ ?_); (focus rfl); intro K hK; go_simp; (first | ((with_reducible refine hK _ _ ?_); clear hK K) | skip))
              | ((with_reducible refine mix_off ?_ ?_); (focus rfl); intro K hK; go_simp; (first | ((with_reducible refine hK _ _ ?_); clear hK K) | skip))
              | ((with_reducible refine mix_step ?_); intro K hK; go_simp; (first | ((with_reducible refine hK _ _ ?_); clear hK K) | skip))))
        go_upto_region 20 with fail
        clear m0 m1 m2 c6 eq
        have HB2 := hid (HBw.out.trans ((Below.refl wx.heap.size wx).drew.mono HBw.out.size))
        have HG2 := hid (HG1.out.below (Below.refl wx.heap.size wx).drew)
        generalize wx.drew = wy at HB2 HG2 ⊢
        clear HBw HQ HG1
        refine wp_region_inv (JC wy (G20 wy.heap.size g 5 5 8 4 stream 3) 14 false false 0) rfl ?_ ?_ ?_ ?_
        · kernel_rfl
        · exact JC.start ((Below.refl _ _).drew)
        · refine ⟨?_, ?_, ?_, ?_, ?_, ?_, ?_, ?_, ?_, ?_, ?_, ?_, ?_, ?_, ?_, ?_, ?_, ?_, ?_, ?_, ?_, ?_, trivial⟩
          · intro d x a wx F hdi hdep hj
            have e : a.tmps.getD 6 undef = .slice (some ⟨g + 1, 0, none⟩) 6 6 := F.kept (t := 6) (by kernel_rfl)
            have eq := e
            rw [Array.getD_eq_getD_getElem?] at eq
            exact wp_val (v := .slice (some ⟨g + 1, 0, none⟩) 6 6) (w' := wx) (by clear hj F hdep; go_simp) ⟨_, rfl, hj.quiet (g20_ok wy.heap.size g 5 5 8 4 stream 3) (by omega) (Below.refl _ _) rfl⟩
          · intro d x a wx F hdi hdep hj
            have e : a.tmps.getD 7 undef = .int .i64 5 := F.kept (t := 7) (by kernel_rfl)
            have eq := e
            rw [Array.getD_eq_getD_getElem?] at eq
            exact wp_val (v := .int .i64 5) (w' := wx) (by clear hj F hdep; go_simp) ⟨_, rfl, hj.quiet (g20_ok wy.heap.size g 5 5 8 4 stream 3) (by omega) (Below.refl _ _) rfl⟩
          · intro d x a wx F hdi hdep hj
            have D0 : d 0 = true := hdep ⟨0, .data⟩ (by simp) rfl
            have D1 : d 1 = true := hdep ⟨1, .data⟩ (by simp) rfl
            have e112 := (F.got (i := 0) (t := 112) rfl rfl (D0) (Nat.lt_of_lt_of_eq (show 112 < 132 by omega) rfl)).trans (hj.pre 0 (by omega) D0)
            have e112q := e112
            rw [Array.getD_eq_getD_getElem?] at e112q
            have e113 := (F.got (i := 1) (t := 113) rfl rfl (D1) (Nat.lt_of_lt_of_eq (show 113 < 132 by omega) rfl)).trans (hj.pre 1 (by omega) D1)
            have e113q := e113
            rw [Array.getD_eq_getD_getElem?] at e113q
            exact wp_val (v := .pointer (some ⟨g + 1, 5, none⟩)) (w' := wx) (by clear hj F hdep; go_simp) ⟨_, rfl, hj.quiet (g20_ok wy.heap.size g 5 5 8 4 stream 3) (by omega) (Below.refl _ _) rfl⟩
          · intro d x a wx F hdi hdep hj
            have D2 : d 2 = true := hdep ⟨2, .data⟩ (by simp) rfl
            have e114 := (F.got (i := 2) (t := 114) rfl rfl (D2) (Nat.lt_of_lt_of_eq (show 114 < 132 by omega) rfl)).trans (hj.pre 2 (by omega) D2)
            have e114q := e114
            rw [Array.getD_eq_getD_getElem?] at e114q
            have z := below_keep hj.below _ _ (show wy.cell? ⟨g + 1, 5, none⟩ = some (.int .i64 8) from HG2.out.kinds.cell 5)
            exact wp_val (v := .int .i64 8) (w' := wx) (by clear hj F hdep; go_simp) ⟨_, rfl, hj.quiet (g20_ok wy.heap.size g 5 5 8 4 stream 3) (by omega) (Below.refl _ _) rfl⟩
          · intro d x a wx F hdi hdep hj
            have e : a.tmps.getD 8 undef = .int .i64 stream := F.kept (t := 8) (by kernel_rfl)
            have eq := e
            rw [Array.getD_eq_getD_getElem?] at eq
            exact wp_val (v := .int .i64 stream) (w' := wx) (by clear hj F hdep; go_simp) ⟨_, rfl, hj.quiet (g20_ok wy.heap.size g 5 5 8 4 stream 3) (by omega) (Below.refl _ _) rfl⟩
          · intro d x a wx F hdi hdep hj
            have e : a.tmps.getD 5 undef = .slice (some ⟨g, 0, none⟩) 6 6 := F.kept (t := 5) (by kernel_rfl)
            have eq := e
            rw [Array.getD_eq_getD_getElem?] at eq
            exact wp_val (v := .slice (some ⟨g, 0, none⟩) 6 6) (w' := wx) (by clear hj F hdep; go_simp) ⟨_, rfl, hj.quiet (g20_ok wy.heap.size g 5 5 8 4 stream 3) (by omega) (Below.refl _ _) rfl⟩
          · intro d x a wx F hdi hdep hj
            have e : a.tmps.getD 7 undef = .int .i64 5 := F.kept (t := 7) (by kernel_rfl)
            have eq := e
            rw [Array.getD_eq_getD_getElem?] at eq
            exact wp_val (v := .int .i64 5) (w' := wx) (by clear hj F hdep; go_simp) ⟨_, rfl, hj.quiet (g20_ok wy.heap.size g 5 5 8 4 stream 3) (by omega) (Below.refl _ _) rfl⟩
          · intro d x a wx F hdi hdep hj
            have D5 : d 5 = true := hdep ⟨5, .data⟩ (by simp) rfl
            have D6 : d 6 = true := hdep ⟨6, .data⟩ (by simp) rfl
            have e117 := (F.got (i := 5) (t := 117) rfl rfl (D5) (Nat.lt_of_lt_of_eq (show 117 < 132 by omega) rfl)).trans (hj.pre 5 (by omega) D5)
            have e117q := e117
            rw [Array.getD_eq_getD_getElem?] at e117q
            have e118 := (F.got (i := 6) (t := 118) rfl rfl (D6) (Nat.lt_of_lt_of_eq (show 118 < 132 by omega) rfl)).trans (hj.pre 6 (by omega) D6)
            have e118q := e118
            rw [Array.getD_eq_getD_getElem?] at e118q
            exact wp_val (v := .pointer (some ⟨g, 5, none⟩)) (w' := wx) (by clear hj F hdep; go_simp) ⟨_, rfl, hj.quiet (g20_ok wy.heap.size g 5 5 8 4 stream 3) (by omega) (Below.refl _ _) rfl⟩
          · intro d x a wx F hdi hdep hj
            have D7 : d 7 = true := hdep ⟨7, .data⟩ (by simp) rfl
            have e119 := (F.got (i := 7) (t := 119) rfl rfl (D7) (Nat.lt_of_lt_of_eq (show 119 < 132 by omega) rfl)).trans (hj.pre 7 (by omega) D7)
            have e119q := e119
            rw [Array.getD_eq_getD_getElem?] at e119q
            have z := below_keep hj.below _ _ (show wy.cell? ⟨g, 5, none⟩ = some (.int .i64 4) from HG2.out.sizes.cell 5)
            exact wp_val (v := .int .i64 4) (w' := wx) (by clear hj F hdep; go_simp) ⟨_, rfl, hj.quiet (g20_ok wy.heap.size g 5 5 8 4 stream 3) (by omega) (Below.refl _ _) rfl⟩
          · intro d x a wx F hdi hdep hj
            have D8 : d 8 = true := hdep ⟨8, .data⟩ (by simp) rfl
            have e120 := (F.got (i := 8) (t := 120) rfl rfl (D8) (Nat.lt_of_lt_of_eq (show 120 < 132 by omega) rfl)).trans (hj.pre 8 (by omega) D8)
            have e120q := e120
            rw [Array.getD_eq_getD_getElem?] at e120q
            have hw : IntKind.i64.wrap 3 = 3 := rfl
            exact wp_val (v := .int .i64 3) (w' := wx) (by clear hj F hdep; go_simp) ⟨_, rfl, hj.quiet (g20_ok wy.heap.size g 5 5 8 4 stream 3) (by omega) (Below.refl _ _) rfl⟩
          · intro d x a wx F hdi hdep hj
            have D9 : d 9 = true := hdep ⟨9, .data⟩ (by simp) rfl
            have e121 := (F.got (i := 9) (t := 121) rfl rfl (D9) (Nat.lt_of_lt_of_eq (show 121 < 132 by omega) rfl)).trans (hj.pre 9 (by omega) D9)
            have e121q := e121
            rw [Array.getD_eq_getD_getElem?] at e121q
            have hmk : ∀ w, (Instr.makeSlice 25 (.int .i64 3) (.int .i64 3)).run Try.prog w = .ok (.slice (some ⟨w.heap.size, 0, none⟩) 3 3) (w.alloc (.cells #[.int .u8 0, .int .u8 0, .int .u8 0] 5)) := fun _ => by kernel_rfl
            exact wp_val (v := .slice (some ⟨wx.heap.size, 0, none⟩) 3 3) (w' := wx.alloc (.cells #[.int .u8 0, .int .u8 0, .int .u8 0] 5)) (by clear hj F hdep; go_simp) ⟨_, rfl, hj.quiet (g20_ok wy.heap.size g 5 5 8 4 stream 3) (by omega) ((Below.refl _ _).alloc (Nat.le_refl _) _) (.inr (.inr (World.ownsRow_lit (base := wy.heap.size) (e := 5) (size := 1) wx #[.int .u8 0, .int .u8 0, .int .u8 0] 3 hj.below.size (by decide) rfl)))⟩
          · intro d x a wx F hdi hdep hj
            exact wp_val (v := .slice (some ⟨wx.heap.size, 0, none⟩) 1 1) (w' := wx.alloc (.cells #[.int .u8 1] 5)) (by clear hj F hdep; go_simp) ⟨_, rfl, hj.quiet (g20_ok wy.heap.size g 5 5 8 4 stream 3) (by omega) ((Below.refl _ _).alloc (Nat.le_refl _) _) (.inr (.inr ⟨wx.heap.size, rfl, rd_new (size := 1) rfl rfl⟩))⟩
          · intro d x a wx F hdi hdep hj
            have D10 : d 10 = true := hdep ⟨10, .data⟩ (by simp) rfl
            have D11 : d 11 = true := hdep ⟨11, .data⟩ (by simp) rfl
            have h14 : d 14 = false := by
              rcases h : d 14 with _ | _
              · rfl
              · have h13 := hj.cb h
                have h12 := (hj.pre 13 (by omega) h13).1
                rw [hdi] at h12
                cases h12
            have hown := ((hj.pre 10 (by omega) D10).resolve_left (by rw [hdi]; simp)).resolve_left (by rw [h14]; simp)
            obtain ⟨b, eb, hB⟩ := ((hj.pre 11 (by omega) D11).resolve_left (by rw [hdi]; simp)).resolve_left (by rw [h14]; simp)
            have e122 := F.got (i := 10) (t := 122) rfl rfl (D10) (Nat.lt_of_lt_of_eq (show 122 < 132 by omega) rfl)
            have e123 := (F.got (i := 11) (t := 123) rfl rfl (D11) (Nat.lt_of_lt_of_eq (show 123 < 132 by omega) rfl)).trans eb
            refine wp_app wx (.tmp 122) (.tmp 123) 25 rfl wy.heap.size 5 i0 _ 1 1 Try.underlying25 hi.out hz.out hsz.out hby.out rfl (by decide) (x 10) 3 _ e122 hown (some ⟨b, 0, none⟩) 1 1 ([1].map bv) e123 hB (bv_one _) (by decide) (by decide) hj.below.size ?_
            intro A' c' w' ho hg hat
            refine ⟨_, rfl, hj.step (by omega) (below_app hj.below hown hg (Nat.le_refl _) hj.below.size) hg.size (fun q hq => hq.grown hg (fun e => Blk.own_ne hq hown (by decide) e.symm)) (fun q cs hq => hq.grown hg (fun e => Blk.own_ne hq hown (by decide) e.symm)) (fun j hj' hne hd hG => ?_) ⟨A', c', rfl, .inr ⟨own_le ho, by have h9 := Bs.of_own (l := zl 3 ++ [1]) (by rw [List.map_append]; exact ho); exact h9⟩⟩⟩
            match j, hj' with
            | 0, _ => exact hG
            | 1, _ => exact hG
            | 2, _ => exact hG
            | 3, _ => exact hG
            | 4, _ => exact hG
            | 5, _ => exact hG
            | 6, _ => exact hG
            | 7, _ => exact hG
            | 8, _ => exact hG
            | 9, _ => exact hG
            | 10, _ => exact .inl (setB_self _ _)
            | 11, _ => exact .inl (setB_self _ _)
            | 12, _ => exact absurd rfl hne
            | 13, _ =>
              have h12 := hG.1
              rw [hdi] at h12
              cases h12
          · intro d x a wx F hdi hdep hj
            have D3 : d 3 = true := hdep ⟨3, .data⟩ (by simp) rfl
            have D4 : d 4 = true := hdep ⟨4, .data⟩ (by simp) rfl
            have D12 : d 12 = true := hdep ⟨12, .data⟩ (by simp) rfl
            have e115 := (F.got (i := 3) (t := 115) rfl rfl (D3) (Nat.lt_of_lt_of_eq (show 115 < 132 by omega) rfl)).trans (hj.pre 3 (by omega) D3)
            have e115q := e115
            rw [Array.getD_eq_getD_getElem?] at e115q
            have e116 := (F.got (i := 4) (t := 116) rfl rfl (D4) (Nat.lt_of_lt_of_eq (show 116 < 132 by omega) rfl)).trans (hj.pre 4 (by omega) D4)
            have e116q := e116
            rw [Array.getD_eq_getD_getElem?] at e116q
            obtain ⟨A, c, eb, hB⟩ := hj.pre 12 (by omega) D12
            have e124 := (F.got (i := 12) (t := 124) rfl rfl (D12) (Nat.lt_of_lt_of_eq (show 124 < 132 by omega) rfl)).trans eb
            have e124q := e124
            rw [Array.getD_eq_getD_getElem?] at e124q
            have HBq := hid hB
            clear hB eb
            exact wp_val (v := .agg #[.int .i64 8, .int .i64 0, .int .i64 stream, .slice A (3 + 1) c]) (w' := wx) (by clear hj F hdep; go_simp) ⟨_, rfl, hj.quiet (g20_ok wy.heap.size g 5 5 8 4 stream 3) (by omega) (Below.refl _ _) ⟨setB_of D12, A, c, rfl, HBq.out.imp setB_of id⟩⟩
          · intro d x a wx F hdi hdep hj
            have D13 : d 13 = true := hdep ⟨13, .data⟩ (by simp) rfl
            obtain ⟨_, A, c, eb, hB⟩ := hj.pre 13 (by omega) D13
            have e125 := (F.got (i := 13) (t := 125) rfl rfl (D13) (Nat.lt_of_lt_of_eq (show 125 < 132 by omega) rfl)).trans eb
            have HBq := hid (hB.resolve_left (by rw [hdi]; simp))
            clear hB eb
            have e125q := e125
            rw [Array.getD_eq_getD_getElem?] at e125q
            exact wp_call (f := 9) (args := #[.agg #[.int .i64 8, .int .i64 0, .int .i64 stream, .slice A (3 + 1) c]]) (by clear hj F hdep; go_simp) (Calls.mono (read_any 8 0 stream A (3 + 1) c (zl 3 ++ [1]) wx HBq.out.2 HBq.out.1 (by omega)) (fun e w' hp => cut_ok_5 stream hst wx e w' hp)) (fun u w' hu hb => ⟨_, rfl, hj.call (g20_ok wy.heap.size g 5 5 8 4 stream 3) hb D13 hu⟩)
          · intro d x a wx F hdi hdep hj
            have D14 : d 14 = true := hdep ⟨14, .data⟩ (by simp) rfl
            obtain ⟨u, hu, ex⟩ := hj.c0 D14
            have e := (F.got (i := 14) (t := 126) rfl rfl (D14) (Nat.lt_of_lt_of_eq (show 126 < 132 by omega) rfl)).trans ex
            have eq := e
            rw [Array.getD_eq_getD_getElem?] at eq
            exact wp_val (v := .tuple #[u, .agg #[.bool false, .bool false, .int .i64 0]]) (w' := wx) (by clear hj F hdep; go_simp) ⟨_, rfl, hj.plain (g20_ok wy.heap.size g 5 5 8 4 stream 3) (q := 1) rfl (by omega) (by omega) hdi (fun _ => ⟨D14, u, hu, rfl⟩) (fun e => absurd e (by omega)) (fun e => absurd e (by omega))⟩
          · intro d x a wx F hdi hdep hj
            have D15 : d 15 = true := hdep ⟨15, .data⟩ (by simp) rfl
            obtain ⟨D, u, hu, ex⟩ := hj.c1 D15
            have e := (F.got (i := 15) (t := 111) rfl rfl (D15) (Nat.lt_of_lt_of_eq (show 111 < 132 by omega) rfl)).trans ex
            have eq := e
            rw [Array.getD_eq_getD_getElem?] at eq
            exact wp_val (v := u) (w' := wx) (by clear hj F hdep; go_simp) ⟨_, rfl, hj.plain (g20_ok wy.heap.size g 5 5 8 4 stream 3) (q := 2) rfl (by omega) (by omega) hdi (fun e => absurd e (by omega)) (fun _ => ⟨D, hu⟩) (fun e => absurd e (by omega))⟩
          · intro d x a wx F hdi hdep hj
            have D15 : d 15 = true := hdep ⟨15, .data⟩ (by simp) rfl
            obtain ⟨D, u, hu, ex⟩ := hj.c1 D15
            have e := (F.got (i := 15) (t := 111) rfl rfl (D15) (Nat.lt_of_lt_of_eq (show 111 < 132 by omega) rfl)).trans ex
            have eq := e
            rw [Array.getD_eq_getD_getElem?] at eq
            exact wp_val (v := .agg #[.bool false, .bool false, .int .i64 0]) (w' := wx) (by clear hj F hdep; go_simp) ⟨_, rfl, hj.plain (g20_ok wy.heap.size g 5 5 8 4 stream 3) (q := 3) rfl (by omega) (by omega) hdi (fun e => absurd e (by omega)) (fun e => absurd e (by omega)) (fun _ => ⟨D, rfl⟩)⟩
          · intro d x a wx F hdi hdep hj
            exact wp_val (v := .pointer (some ⟨wx.heap.size, 0, none⟩)) (w' := wx.alloc (.cells zeroPart 28)) (by clear hj F hdep; unfold zeroPart; go_simp) ⟨_, rfl, hj.allA (g20_ok wy.heap.size g 5 5 8 4 stream 3) hdi⟩
          · intro d x a wx F hdi hdep hj
            exact wp_val (v := .pointer (some ⟨wx.heap.size, 0, none⟩)) (w' := wx.alloc (.cells zeroFault 30)) (by clear hj F hdep; unfold zeroFault; go_simp) ⟨_, rfl, hj.allB (g20_ok wy.heap.size g 5 5 8 4 stream 3) hdi⟩
          · intro d x a wx F hdi hdep hj
            have D16 : d 16 = true := hdep ⟨16, .data⟩ (by simp) rfl
            have D18 : d 18 = true := hdep ⟨18, .data⟩ (by simp) rfl
            obtain ⟨D, hp⟩ := hj.c2 D16
            obtain ⟨Ad, nd, cd, pad, code, last, step, As, ns, cs, ee, aa, ww, ex⟩ := hp
            obtain ⟨p, ep, hp1, hp2, hp3⟩ := hj.bA D18
            have hB := hp3.resolve_left (by rw [hdi]; simp)
            have e1 := (F.got (i := 16) (t := 127) rfl rfl (D16) (Nat.lt_of_lt_of_eq (show 127 < 132 by omega) rfl)).trans ex
            have e2 := (F.got (i := 18) (t := 13) rfl rfl (D18) (Nat.lt_of_lt_of_eq (show 13 < 132 by omega) rfl)).trans ep
            have e1q := e1
            rw [Array.getD_eq_getD_getElem?] at e1q
            have e2q := e2
            rw [Array.getD_eq_getD_getElem?] at e2q
            have z0 := hB.cell 0
            have f0 := hB.frozen 0
            have z1 := hB.cell 1
            have f1 := hB.frozen 1
            have z2 := hB.cell 2
            have f2 := hB.frozen 2
            have z3 := hB.cell 3
            have f3 := hB.frozen 3
            have z4 := hB.cell 4
            have f4 := hB.frozen 4
            have z5 := hB.cell 5
            have f5 := hB.frozen 5
            have z6 := hB.cell 6
            have f6 := hB.frozen 6
            have z7 := hB.cell 7
            have f7 := hB.frozen 7
            have z8 := hB.cell 8
            have f8 := hB.frozen 8
            simp [zeroPart] at z0 z1 z2 z3 z4 z5 z6 z7 z8
            have HJ := hid hj
            have HH := hid (And.intro hdi D18)
            have HD := hid D
            have HE := hid ep
            clear hj F hdep ex ep hp1 hp2 hp3 hB hdi D D16 D18
            unfold Oper.wp
            go_simp
            exact ⟨undef, HJ.out.stA (g20_ok wy.heap.size g 5 5 8 4 stream 3) HH.out.1 HH.out.2 HD.out HE.out ((((((((((Turned.refl _ _).setCell (by simp) _).setCell (by simp) _).setCell (by simp) _).setCell (by simp) _).setCell (by simp) _).setCell (by simp) _).setCell (by simp) _).setCell (by simp) _).setCell (by simp) _)⟩
          · intro d x a wx F hdi hdep hj
            have D17 : d 17 = true := hdep ⟨17, .data⟩ (by simp) rfl
            have D19 : d 19 = true := hdep ⟨19, .data⟩ (by simp) rfl
            obtain ⟨D, ex⟩ := hj.c3 D17
            obtain ⟨p, ep, hp1, hp2, hp3⟩ := hj.bB D19
            have hB := hp3.resolve_left (by rw [hdi]; simp)
            have e1 := (F.got (i := 17) (t := 128) rfl rfl (D17) (Nat.lt_of_lt_of_eq (show 128 < 132 by omega) rfl)).trans ex
            have e2 := (F.got (i := 19) (t := 14) rfl rfl (D19) (Nat.lt_of_lt_of_eq (show 14 < 132 by omega) rfl)).trans ep
            have e1q := e1
            rw [Array.getD_eq_getD_getElem?] at e1q
            have e2q := e2
            rw [Array.getD_eq_getD_getElem?] at e2q
            have z0 := hB.cell 0
            have f0 := hB.frozen 0
            have z1 := hB.cell 1
            have f1 := hB.frozen 1
            have z2 := hB.cell 2
            have f2 := hB.frozen 2
            simp [zeroFault] at z0 z1 z2
            have HJ := hid hj
            have HH := hid (And.intro hdi D19)
            have HD := hid D
            have HE := hid ep
            have HBB := hid hB
            clear hj F hdep ex ep hp1 hp2 hp3 hB hdi D D17 D19
            unfold Oper.wp
            go_simp
            exact ⟨undef, HJ.out.stB (g20_ok wy.heap.size g 5 5 8 4 stream 3) HH.out.1 HH.out.2 HD.out HE.out ((((Turned.refl _ _).setCell (by simp) _).setCell (by simp) _).setCell (by simp) _) (by have h9 := ((HBB.out.set_ 0 (.bool false)).set_ 1 (.bool false)).set_ 2 (.int .i64 0); simpa [zeroFault] using h9)⟩
        · intro d2 x2 wz hall hj
          obtain ⟨_, q2, eq2, hqb, hql, hqB⟩ := hj.fin (hall 21 (show 21 < 22 by omega))
          have HBz := hid hj.below
          have HQ := hid (hqB.resolve_left id)
          have m0 := HQ.out.cell 0
          simp at m0 eq2
          have HG3 := hid (HG2.out.below HBz.out)
          have HB3 := hid (HB.out.trans ((HB2.out.trans (HBz.out.mono HB2.out.size)).mono HB.out.size))
          clear hj hall hqB hqb hql
          simp only [putAll, Act.put]
          go_wp2_with fail
          go_roundw
          case rel => exact ⟨5 + 1, by omega, by go_num, HG3.out, HB3.out⟩
          case measure => simp [intOf]
    · go_wp2_with fail
      refine (first_any wr).mono ?_
      rintro e w2 ⟨rfl, hb2⟩
      have HB2 := hid (HB.out.trans (hb2.mono HB.out.size))
      clear hb2
      go_wp2_with fail
      go_ret
      exact ⟨rfl, HB2.out⟩
end Go.Proofs.Ytdiahjeplaegnaa
