/- The law PackShort walked. No condition. -/
import Derived.Test.YtjeocmglcgnclaaDoorPackShortPJ
import Derived.Test.YtjeocmglcgnclaaDoorGk
namespace Go.Proofs.YtjeocmglcgnclaaDoor
open Go.RowKit
attribute [local go_sem] kd kdS

set_option maxHeartbeats 1000000 in
set_option maxRecDepth 100000 in
theorem short_walk (fn fv : ByteArray) (fx : Bool) (w : World) : Calls Tryd.prog 3 #[.agg #[.string fn, .string fv, .bool fx]] w fun e w' => e = .returned (.bool true) ∧ Below w.heap.size w w' := by
  go_enter Tryd.func3, Tryd.ntmps3
  go_upto_region 1 with fail
  obtain ⟨wa, hwa⟩ : ∃ wa, w.alloc (.cells #[.string fn, .string fv, .bool fx] 23) = wa := ⟨_, rfl⟩
  have hFa : Blk wa w.heap.size 23 #[.string fn, .string fv, .bool fx] := by rw [← hwa]; exact Blk.new w _ _
  have hba : Below w.heap.size w wa := by rw [← hwa]; exact (Below.refl _ _).alloc (Nat.le_refl _) _
  rw [hwa]
  have HF := hid hFa
  have HB := hid hba
  clear hFa hba hwa
  go_wp2_with fail
  refine (first9_any wa).mono ?_
  rintro e w1 ⟨rfl, hb1⟩
  have hF1 := HF.out.below hb1 HF.out.lt
  have HF1 := hid hF1
  have HB1 := hid (HB.out.trans (hb1.mono HB.out.size))
  obtain ⟨c0, c1, c2⟩ : w1.cell? ⟨w.heap.size, 0, none⟩ = some (.string fn) ∧ w1.cell? ⟨w.heap.size, 1, none⟩ = some (.string fv) ∧ w1.cell? ⟨w.heap.size, 2, none⟩ = some (.bool fx) := ⟨hF1.cell 0, hF1.cell 1, hF1.cell 2⟩
  clear hF1 hb1 HF HB
  by_cases hn : 300 < fn.size
  · go_wp2_with (go_at_call 8; go_must (refine (first9_any w1).mono ?_; rintro e w2 ⟨rfl, hb2⟩; have HB2 := hid (HB1.out.trans (hb2.mono HB1.out.size)); clear hb2))
    go_ret
    exact ⟨rfl, HB2.out⟩
  by_cases hv : 300 < fv.size
  · go_wp2_with (go_at_call 8; go_must (refine (first9_any w1).mono ?_; rintro e w2 ⟨rfl, hb2⟩; have HB2 := hid (HB1.out.trans (hb2.mono HB1.out.size)); clear hb2))
    go_ret
    exact ⟨rfl, HB2.out⟩
  obtain ⟨a, L1, b, x, t, hs1, ha1, ha2, hs2, hb, hs3, ht1, hx1, hx2⟩ := short_plain fn fv (by omega) (by omega)
  have HS1 := hid hs1
  have HS2 := hid hs2
  have HS3 := hid hs3
  clear hs1 hs2 hs3
  go_wp2_with fail
  refine (encNew_any w1).mono ?_
  rintro e w2 ⟨F, ge, gt, rfl, h2, hb2⟩
  have HI2 := hid (show EncI w w2 w1.heap.size F ge gt 4096 4096 4096 [] [] from ⟨h2, (fun k hk => by cases hk), HB1.out.trans (hb2.mono HB1.out.size), HB1.out.size⟩)
  have hF2 := HF1.out.below hb2 HF1.out.lt
  have HF2 := hid hF2
  have HI3 := hid (HI2.out.keep (k := w.heap.size) (fun hm => by have := (HI2.out.enc.ge_ _ hm).1; have := HF1.out.lt; omega) hF2.lt)
  clear c0 c1 c2 h2 hb2 HI2
  obtain ⟨c0, c1, c2⟩ : w2.cell? ⟨w.heap.size, 0, none⟩ = some (.string fn) ∧ w2.cell? ⟨w.heap.size, 1, none⟩ = some (.string fv) ∧ w2.cell? ⟨w.heap.size, 2, none⟩ = some (.bool fx) := ⟨hF2.cell 0, hF2.cell 1, hF2.cell 2⟩
  have f2 := hF2.frozen 2
  clear hF2
  go_upto_region 8 with (go_at_call 10; go_must (refine (encTable_any _ F ge gt 4096 4096 4096 [] w2 HI3.out.enc).mono ?_; rintro e w3 ⟨rfl, rfl⟩))
  go_upto_region 9 with fail
  obtain ⟨wd, hwd⟩ : ∃ wd, w2.alloc (.cells #[.string fn, .string fv, .bool fx] 23) = wd := ⟨_, rfl⟩
  have hQd : Blk wd w2.heap.size 23 #[.string fn, .string fv, .bool fx] := by rw [← hwd]; exact Blk.new w2 _ _
  have hbd : Below w2.heap.size w2 wd := by rw [← hwd]; exact (Below.refl _ _).alloc (Nat.le_refl _) _
  rw [hwd]
  have hFd := HF2.out.below hbd HF2.out.lt
  have HId := hid (HI3.out.fresh hbd (Nat.le_refl _) hQd.lt)
  have HPQ := hid (show w.heap.size ≠ w2.heap.size by have := HF2.out.lt; omega)
  have HWQ := hid (show w.heap.size ≤ w2.heap.size from HI3.out.out.size)
  clear hwd hbd c0 c1 c2 f2 HI3 HF2 HF1
  generalize w2.heap.size = q at hQd HId HPQ HWQ ⊢
  have HFd := hid hFd
  have HQd := hid hQd
  have c2 := hFd.cell 2
  have q2 := hQd.cell 2
  have cf2 := hFd.frozen 2
  have qf2 := hQd.frozen 2
  simp at c2 q2
  clear hFd hQd
  have hpq := HPQ.out
  go_upto_region 10 with fail
  have HX : Hid (Blk ((wd.setCell ⟨w.heap.size, 2, none⟩ (.bool false)).setCell ⟨q, 2, none⟩ (.bool true)) w.heap.size 23 #[.string fn, .string fv, .bool false]) := hid (by
    have h1 := HFd.out.set_ 2 (.bool false)
    exact h1.turned (F := [q]) ((Turned.refl _ _).setCell (by simp) _) (by simp; omega))
  have HQ : Hid (Blk ((wd.setCell ⟨w.heap.size, 2, none⟩ (.bool false)).setCell ⟨q, 2, none⟩ (.bool true)) q 23 #[.string fn, .string fv, .bool true]) := hid (by
    have h1 := HQd.out.turned (F := [w.heap.size]) ((Turned.refl _ _).setCell (p := ⟨w.heap.size, 2, none⟩) (by simp) (.bool false)) (by simp; omega)
    exact h1.set_ 2 (.bool true))
  have HIz := hid ((HId.out.set_ (p := ⟨w.heap.size, 2, none⟩) (by simp) (Nat.le_refl _) (.bool false)).set_ (p := ⟨q, 2, none⟩) (by simp) HWQ.out (.bool true))
  clear HFd HQd HId c2 q2 cf2 qf2
  generalize (wd.setCell ⟨w.heap.size, 2, none⟩ (.bool false)).setCell ⟨q, 2, none⟩ (.bool true) = wz at HX HQ HIz ⊢
  obtain ⟨c0, c1, c2⟩ := BoxAt.c (f := ⟨fn, fv, false⟩) HX.out
  obtain ⟨q0, q1, q2⟩ := BoxAt.c (f := ⟨fn, fv, true⟩) HQ.out
  simp only at c0 c1 c2 q0 q1 q2
  go_wp2_with fail
  have hf : Fs (wz.alloc (.cells #[.string fn, .string fv, .bool false] 23)) (some ⟨wz.heap.size, 0, none⟩) 1 [⟨fn, fv, false⟩] := rd_new rfl rfl
  have hb1 : Below wz.heap.size wz (wz.alloc (.cells #[.string fn, .string fv, .bool false] 23)) := (Below.refl _ _).alloc (Nat.le_refl _) _
  have hof := tab_off HIz.out.enc
  generalize wz.alloc (.cells #[.string fn, .string fv, .bool false] 23) = wA1 at hf hb1 ⊢
  have HFS1 := hid hf
  have HOF1 := hid hof
  have HA1 := hid (HIz.out.below hb1)
  have HX1 := hid (HX.out.below hb1 HX.out.lt)
  have HQ1 := hid (HQ.out.below hb1 HQ.out.lt)
  have hBw := HA1.out.hB
  clear hf hb1 hof c0 c1 c2 q0 q1 q2 HX HQ
  generalize wz.heap.size = bx1 at HFS1 HOF1 ⊢
  refine (encode_any w1.heap.size F ge gt 4096 4096 4096 [] (some ⟨bx1, 0, none⟩) 1 1 [⟨fn, fv, false⟩] wA1 HA1.out.enc HFS1.out HOF1.out (by omega) hBw).mono ?_
  intro e w1e hp
  obtain ⟨A1, m1, k1, F1, rfl, hq⟩ := encode_ok (by simp [longF]; omega) hp
  clear hp
  rw [HS1.out] at hq
  have HP1 := hid hq
  have HE1 := hid (HA1.out.encoded hq)
  have HX := hid (HA1.out.blk hq.turn_ HX1.out (by simp))
  have HQ := hid (HA1.out.blk hq.turn_ HQ1.out (by simp))
  have hml := hq.len
  clear hq HA1 HFS1 HOF1 HX1 HQ1
  obtain ⟨c0, c1, c2⟩ := BoxAt.c (f := ⟨fn, fv, false⟩) HX.out
  obtain ⟨q0, q1, q2⟩ := BoxAt.c (f := ⟨fn, fv, true⟩) HQ.out
  simp only at c0 c1 c2 q0 q1 q2
  rw [hml] at ha1 ha2
  clear hml HP1
  go_wp2_with fail
  have hf : Fs (w1e.alloc (.cells #[.string fn, .string fv, .bool false] 23)) (some ⟨w1e.heap.size, 0, none⟩) 1 [⟨fn, fv, false⟩] := rd_new rfl rfl
  have hb2 : Below w1e.heap.size w1e (w1e.alloc (.cells #[.string fn, .string fv, .bool false] 23)) := (Below.refl _ _).alloc (Nat.le_refl _) _
  have hof := tab_off HE1.out.enc
  generalize w1e.alloc (.cells #[.string fn, .string fv, .bool false] 23) = wA2 at hf hb2 ⊢
  have HFS2 := hid hf
  have HOF2 := hid hof
  have HA2 := hid (HE1.out.below hb2)
  have HX2 := hid (HX.out.below hb2 HX.out.lt)
  have HQ2 := hid (HQ.out.below hb2 HQ.out.lt)
  have hBw := HA2.out.hB
  clear hf hb2 hof c0 c1 c2 q0 q1 q2 HX HQ
  generalize w1e.heap.size = bx2 at HFS2 HOF2 ⊢
  refine (encode_any w1.heap.size F1 ge gt 4096 4096 4096 L1 (some ⟨bx2, 0, none⟩) 1 1 [⟨fn, fv, false⟩] wA2 HA2.out.enc HFS2.out HOF2.out (by omega) hBw).mono ?_
  intro e w2e hp
  obtain ⟨A2, m2, k2, F2, rfl, hq⟩ := encode_ok (by simp [longF]; omega) hp
  clear hp
  rw [HS2.out] at hq
  have HP2 := hid hq
  have HE2 := hid (HA2.out.encoded hq)
  have HX := hid (HA2.out.blk hq.turn_ HX2.out (by simp))
  have HQ := hid (HA2.out.blk hq.turn_ HQ2.out (by simp))
  have hml := hq.len
  clear hq HA2 HFS2 HOF2 HX2 HQ2
  obtain ⟨c0, c1, c2⟩ := BoxAt.c (f := ⟨fn, fv, false⟩) HX.out
  obtain ⟨q0, q1, q2⟩ := BoxAt.c (f := ⟨fn, fv, true⟩) HQ.out
  simp only at c0 c1 c2 q0 q1 q2
  obtain rfl : 1 = m2 := by simpa using hml
  obtain ⟨g, oo, y, rfl, hy, hc⟩ := (Bs.of_own HP2.out.row).at_ (i := 0) (by omega)
  obtain rfl : y = b := by simpa using hy.symm
  rw [Nat.add_zero] at hc
  have HCb : Hid (w2e.cell? ⟨g, oo, none⟩ = some (.int .u8 (y.toNat : Int))) := hid hc
  have HE2 := hid (HE2.out.row HP2.out (g := g) rfl)
  clear hml hy hc HP2 HE1
  go_upto_region 13 with (first
    | (go_at_call 10; go_must (refine (encTable_any _ F2 ge gt 4096 4096 4096 L1 w2e HE2.out.enc).mono ?_; rintro e w3 ⟨rfl, rfl⟩))
    | (go_at_call 12; go_must (refine (len_tb HE2.out.enc.tb).mono ?_; rintro e w12 ⟨rfl, rfl⟩)))
  go_wp2_with fail
  have hf : Fs (w2e.alloc (.cells #[.string fn, .string fv, .bool true, .string fn, .string fv, .bool true] 23)) (some ⟨w2e.heap.size, 0, none⟩) 2 [⟨fn, fv, true⟩, ⟨fn, fv, true⟩] := rd_new rfl rfl
  have hb3 : Below w2e.heap.size w2e (w2e.alloc (.cells #[.string fn, .string fv, .bool true, .string fn, .string fv, .bool true] 23)) := (Below.refl _ _).alloc (Nat.le_refl _) _
  have hof := tab_off HE2.out.enc
  generalize w2e.alloc (.cells #[.string fn, .string fv, .bool true, .string fn, .string fv, .bool true] 23) = wA3 at hf hb3 ⊢
  have HFS3 := hid hf
  have HOF3 := hid hof
  have HA3 := hid (HE2.out.below hb3)
  have HX3 := hid (HX.out.below hb3 HX.out.lt)
  have HQ3 := hid (HQ.out.below hb3 HQ.out.lt)
  have HCb3 := hid (below_keep hb3 _ _ HCb.out)
  have hBw := HA3.out.hB
  clear hf hb3 hof c0 c1 c2 q0 q1 q2 HX HQ HCb
  generalize w2e.heap.size = bx3 at HFS3 HOF3 ⊢
  refine (encode_any w1.heap.size F2 ge gt 4096 4096 4096 L1 (some ⟨bx3, 0, none⟩) 2 2 [⟨fn, fv, true⟩, ⟨fn, fv, true⟩] wA3 HA3.out.enc HFS3.out HOF3.out (by omega) hBw).mono ?_
  intro e w3e hp
  obtain ⟨A3, m3, k3, F3, rfl, hq⟩ := encode_ok (by simp [longF]; omega) hp
  clear hp
  rw [HS3.out] at hq
  have HP3 := hid hq
  have HE3 := hid (HA3.out.encoded hq)
  have HX := hid (HA3.out.blk hq.turn_ HX3.out (by simp))
  have HQ := hid (HA3.out.blk hq.turn_ HQ3.out (by simp))
  have HCb := hid (HA3.out.cell hq.turn_ HCb3.out (by simp))
  have hml := hq.len
  clear hq HA3 HFS3 HOF3 HX3 HQ3 HCb3
  obtain ⟨c0, c1, c2⟩ := BoxAt.c (f := ⟨fn, fv, false⟩) HX.out
  obtain ⟨q0, q1, q2⟩ := BoxAt.c (f := ⟨fn, fv, true⟩) HQ.out
  simp only at c0 c1 c2 q0 q1 q2
  obtain ⟨m, hm⟩ : ∃ m, t.length = m := ⟨_, rfl⟩
  rw [hm] at ht1
  obtain rfl : m + 1 = m3 := by rw [← hml, ← hm]; rfl
  obtain ⟨g3, o3, z, rfl, hz, hc⟩ := (Bs.of_own HP3.out.row).at_ (i := 0) (by omega)
  obtain rfl : z = x := by simpa using hz.symm
  rw [Nat.add_zero] at hc
  have HCc : Hid (w3e.cell? ⟨g3, o3, none⟩ = some (.int .u8 (z.toNat : Int))) := hid hc
  clear hml hz hc HP3 HE2 hm HS1 HS2 HS3 q0 q1 q2 c2 HQ
  have hz16 : (((z.toNat : Int) / 16) == 1) = true := by simp; omega
  go_upto_region 16 with fail
  go_wp2_with (first
    | (go_at_call 8; go_must (refine (first9_any w3e).mono ?_; rintro e w4 ⟨rfl, hb4⟩; have HE4 := hid (HE3.out.below hb4); have d0 := below_keep hb4 _ _ HCb.out; have d1 := below_keep hb4 _ _ HCc.out; clear hb4))
    | (go_at_call 10; go_must (refine (encTable_any _ F3 ge gt 4096 4096 4096 L1 w4 HE4.out.enc).mono ?_; rintro e w5 ⟨rfl, rfl⟩))
    | (go_at_call 12; go_must (refine (len_tb HE4.out.enc.tb).mono ?_; rintro e w12 ⟨rfl, rfl⟩)))
  go_ret
  exact ⟨rfl, HE4.out.out⟩
end Go.Proofs.YtjeocmglcgnclaaDoor
