/- The law PackLimits walked. No condition. -/
import Derived.Test.YtjeocmglcgnclaaDoorPackShortPJ
import Derived.Test.YtjeocmglcgnclaaDoorGk
namespace Go.Proofs.YtjeocmglcgnclaaDoor
open Go.RowKit
attribute [local go_sem] kd kdS if_min if_max if_minN if_maxN

theorem limits_plain (n v : ByteArray) (hv : v.size ≤ 300) : ∃ r : List UInt8, blockP 0 4096 0 [] [⟨n, v, false⟩] = (32 :: r, []) ∧ 1 ≤ r.length := by
  unfold blockP
  rw [fieldsP_one, show limitsP 0 4096 0 = [32] from by decide +kernel]
  have hfx : ¬ (⟨n, v, false⟩ : Fd).x = true := by simp
  have hfl := findP_le n.data.toList v.data.toList 61
  by_cases hb : 0 < bothI [] ⟨n, v, false⟩
  · unfold fieldP
    rw [if_neg hfx, if_pos hb]
    have hb0 : bothI [] ⟨n, v, false⟩ ≤ 4157 := by unfold bothI; exact ix_le hfl.1 (by simp [findK])
    refine ⟨_, rfl, put_pos (by omega) (by omega) (by omega) (by omega) (by omega) (by omega)⟩
  · unfold fieldP
    rw [if_neg hfx, if_neg hb]
    have ha : addL 0 [] (⟨n, v, false⟩ : Fd) = [] := by
      unfold addL
      rw [if_neg (by unfold Fd.size; omega)]
      rfl
    refine ⟨litP 64 6 [] ⟨n, v, false⟩, ?_, ?_⟩
    · dsimp only
      rw [ha]
      rfl
    · unfold litP
      rw [List.length_append]
      dsimp only
      have ht := textP_pos (s := v.data.toList) (by rw [ba_len]; omega)
      omega
theorem limits_none : blockP 0 0 4096 [] [] = ([], []) := rfl
theorem limits_again : blockP 0 0 0 [] [] = ([], []) := rfl
theorem limits_last (p : Int) (h0 : 0 ≤ p) (h1 : p ≤ 4096) : ∃ D : List UInt8, blockP p 0 p [] [] = (D, []) ∧ (p = 0 → D = []) ∧ (0 < p → 1 ≤ D.length) := by
  refine ⟨limitsP p 0 p ++ [], rfl, fun h => ?_, fun h => ?_⟩
  · subst h
    rfl
  · unfold limitsP
    rw [if_neg (by omega), if_pos (.inr (by omega)), List.append_nil, List.nil_append]
    exact put_pos (by omega) (by omega) (by omega) (by omega) h0 (by omega)
theorem EncI.encpost {w wr w' : World} {B : Nat} {F : List Nat} {ge gt : Nat} {most told least most' told' least' : Int} {L L' : List Fd} {K : List Nat} {v : Value} {e : Ending} (h : EncI w wr B F ge gt most told least L K) (hp : EncPost v B F ge gt most' told' least' L' wr e w') :
    ∃ F', e = .returned v ∧ EncI w w' B F' ge gt most' told' least' L' K ∧ Turned (ge :: F) wr w' := by
  obtain ⟨F', he, h1, ht, hk⟩ := hp
  exact ⟨F', he, h.turned h1 ht hk, ht⟩

set_option maxHeartbeats 1000000 in
set_option maxRecDepth 100000 in
theorem plimits_walk (fn fv : ByteArray) (fx : Bool) (n : Int) (w : World) : Calls Tryd.prog 4 #[.agg #[.string fn, .string fv, .bool fx], .int .i64 n] w fun e w' => e = .returned (.bool true) ∧ Below w.heap.size w w' := by
  go_enter Tryd.func4, Tryd.ntmps4
  go_upto_region 1 with fail
  obtain ⟨wa, hwa⟩ : ∃ wa, w.alloc (.cells #[.string fn, .string fv, .bool fx] 23) = wa := ⟨_, rfl⟩
  have hFa : Blk wa w.heap.size 23 #[.string fn, .string fv, .bool fx] := by rw [← hwa]; exact Blk.new w _ _
  have hba : Below w.heap.size w wa := by rw [← hwa]; exact (Below.refl _ _).alloc (Nat.le_refl _) _
  rw [hwa]
  have HF := hid hFa
  have HB := hid hba
  clear hFa hba hwa
  go_wp2_with fail
  refine (first9_any wa).mono ?_
  rintro e w1 ⟨rfl, hb1⟩
  have hF1 := HF.out.below hb1 HF.out.lt
  have HF1 := hid hF1
  have HB1 := hid (HB.out.trans (hb1.mono HB.out.size))
  obtain ⟨c0, c1, c2⟩ : w1.cell? ⟨w.heap.size, 0, none⟩ = some (.string fn) ∧ w1.cell? ⟨w.heap.size, 1, none⟩ = some (.string fv) ∧ w1.cell? ⟨w.heap.size, 2, none⟩ = some (.bool fx) := ⟨hF1.cell 0, hF1.cell 1, hF1.cell 2⟩
  clear hF1 hb1 HF HB
  by_cases hn : 300 < fn.size
  · go_wp2_with (go_at_call 8; go_must (refine (first9_any w1).mono ?_; rintro e w2 ⟨rfl, hb2⟩; have HB2 := hid (HB1.out.trans (hb2.mono HB1.out.size)); clear hb2))
    go_ret
    exact ⟨rfl, HB2.out⟩
  by_cases hv : 300 < fv.size
  · go_wp2_with (go_at_call 8; go_must (refine (first9_any w1).mono ?_; rintro e w2 ⟨rfl, hb2⟩; have HB2 := hid (HB1.out.trans (hb2.mono HB1.out.size)); clear hb2))
    go_ret
    exact ⟨rfl, HB2.out⟩
  by_cases hn0 : n < 0
  · go_wp2_with (go_at_call 8; go_must (refine (first9_any w1).mono ?_; rintro e w2 ⟨rfl, hb2⟩; have HB2 := hid (HB1.out.trans (hb2.mono HB1.out.size)); clear hb2))
    go_ret
    exact ⟨rfl, HB2.out⟩
  by_cases hn5 : 5000 < n
  · go_wp2_with (go_at_call 8; go_must (refine (first9_any w1).mono ?_; rintro e w2 ⟨rfl, hb2⟩; have HB2 := hid (HB1.out.trans (hb2.mono HB1.out.size)); clear hb2))
    go_ret
    exact ⟨rfl, HB2.out⟩
  obtain ⟨r, hs1, hr⟩ := limits_plain fn fv (by omega)
  have hpn := peerN_le n
  obtain ⟨D, hs4, hD1, hD2⟩ := limits_last (peerN n) hpn.1 hpn.2
  have HS1 := hid hs1
  have HS4 := hid hs4
  have HD1 := hid hD1
  have HD2 := hid hD2
  clear hs1 hs4 hD1 hD2
  go_wp2_with fail
  refine (encNew_any w1).mono ?_
  rintro e w2 ⟨F, ge, gt, rfl, h2, hb2⟩
  have HI2 := hid (show EncI w w2 w1.heap.size F ge gt 4096 4096 4096 [] [] from ⟨h2, (fun k hk => by cases hk), HB1.out.trans (hb2.mono HB1.out.size), HB1.out.size⟩)
  have hF2 := HF1.out.below hb2 HF1.out.lt
  have HF2 := hid hF2
  have HI3 := hid (HI2.out.keep (k := w.heap.size) (fun hm => by have := (HI2.out.enc.ge_ _ hm).1; have := HF1.out.lt; omega) hF2.lt)
  clear c0 c1 c2 h2 hb2 HI2
  obtain ⟨c0, c1, c2⟩ : w2.cell? ⟨w.heap.size, 0, none⟩ = some (.string fn) ∧ w2.cell? ⟨w.heap.size, 1, none⟩ = some (.string fv) ∧ w2.cell? ⟨w.heap.size, 2, none⟩ = some (.bool fx) := ⟨hF2.cell 0, hF2.cell 1, hF2.cell 2⟩
  have f2 := hF2.frozen 2
  clear hF2
  go_upto_region 9 with (go_at_call 10; go_must (refine (encTable_any _ F ge gt 4096 4096 4096 [] w2 HI3.out.enc).mono ?_; rintro e w3 ⟨rfl, rfl⟩))
  have HX : Hid (Blk (w2.setCell ⟨w.heap.size, 2, none⟩ (.bool false)) w.heap.size 23 #[.string fn, .string fv, .bool false]) := hid (HF2.out.set_ 2 (.bool false))
  have HIz := hid (HI3.out.set_ (p := ⟨w.heap.size, 2, none⟩) (by simp) (Nat.le_refl _) (.bool false))
  clear c0 c1 c2 f2 HI3 HF2 HF1
  generalize w2.setCell ⟨w.heap.size, 2, none⟩ (.bool false) = wz at HX HIz ⊢
  go_wp2_with fail
  refine (peer_any 0 w1.heap.size F ge gt 4096 4096 4096 [] wz HIz.out.enc HIz.out.hB).mono ?_
  intro e w3 hp
  obtain ⟨F1, rfl, hi, ht⟩ := HIz.out.encpost hp
  have HE3 := hid (show EncI w w3 w1.heap.size F1 ge gt 0 4096 0 [] [w.heap.size] from hi)
  have HX3 := hid (HIz.out.blk ht HX.out (by simp))
  clear hp hi ht HX HIz
  obtain ⟨c0, c1, c2⟩ := BoxAt.c (f := ⟨fn, fv, false⟩) HX3.out
  simp only at c0 c1 c2
  go_wp2_with fail
  have hf : Fs (w3.alloc (.cells #[.string fn, .string fv, .bool false] 23)) (some ⟨w3.heap.size, 0, none⟩) 1 [⟨fn, fv, false⟩] := rd_new rfl rfl
  have hb3 : Below w3.heap.size w3 (w3.alloc (.cells #[.string fn, .string fv, .bool false] 23)) := (Below.refl _ _).alloc (Nat.le_refl _) _
  have hof := tab_off HE3.out.enc
  generalize w3.alloc (.cells #[.string fn, .string fv, .bool false] 23) = wA at hf hb3 ⊢
  have HFS := hid hf
  have HOF := hid hof
  have HA := hid (HE3.out.below hb3)
  have hBw := HA.out.hB
  clear hf hb3 hof c0 c1 c2 HX3 HE3
  generalize w3.heap.size = bx at HFS HOF ⊢
  refine (encode_any w1.heap.size F1 ge gt 0 4096 0 [] (some ⟨bx, 0, none⟩) 1 1 [⟨fn, fv, false⟩] wA HA.out.enc HFS.out HOF.out (by omega) hBw).mono ?_
  intro e w4 hp
  obtain ⟨A4, m4, k4, F4, rfl, hq⟩ := encode_ok (by simp [longF]; omega) hp
  clear hp hBw
  rw [HS1.out] at hq
  obtain ⟨m, hm⟩ : ∃ m, r.length = m := ⟨_, rfl⟩
  rw [hm] at hr
  obtain rfl : m + 1 = m4 := by rw [← hq.len, ← hm]; rfl
  obtain ⟨g, oo, y, rfl, hy, hc⟩ := (Bs.of_own hq.row).at_ (i := 0) (by omega)
  obtain rfl : y = 32 := by simpa using hy.symm
  rw [Nat.add_zero] at hc
  have HC4 : Hid (w4.cell? ⟨g, oo, none⟩ = some (.int .u8 32)) := hid hc
  have HE4 := hid ((HA.out.encoded hq).row hq (g := g) rfl)
  clear hy hc hq HA HFS HOF hm HS1
  have hBw := HE4.out.hB
  go_wp2_with fail
  refine (encode_any w1.heap.size F4 ge gt 0 0 4096 [] none 0 0 [] w4 HE4.out.enc (Rd.nil _ _ _) (fun ad h => by cases h) (by omega) hBw).mono ?_
  intro e w5 hp
  obtain ⟨A5, m5, k5, F5, rfl, hq⟩ := encode_ok rfl hp
  clear hp hBw
  rw [limits_none] at hq
  obtain rfl : 0 = m5 := hq.len
  have HE5 := hid (HE4.out.encoded hq)
  have HC5 := hid (HE4.out.cell hq.turn_ HC4.out (by simp))
  clear hq HE4 HC4
  have hBw := HE5.out.hB
  go_upto_region 13 with (first
    | (go_at_call 10; go_must (refine (encTable_any _ F5 ge gt 0 0 4096 [] w5 HE5.out.enc).mono ?_; rintro e w8 ⟨rfl, rfl⟩))
    | (go_at_call 12; go_must (refine (len_tb HE5.out.enc.tb).mono ?_; rintro e w12 ⟨rfl, rfl⟩)))
  go_wp2_with fail
  refine (peer_any 0 w1.heap.size F5 ge gt 0 0 4096 [] w5 HE5.out.enc hBw).mono ?_
  intro e w6 hp
  obtain ⟨F6, rfl, hi, ht⟩ := HE5.out.encpost hp
  have HE6 := hid (show EncI w w6 w1.heap.size F6 ge gt 0 0 0 [] [g, w.heap.size] from hi)
  have HC6 := hid (HE5.out.cell ht HC5.out (by simp))
  clear hp hi ht HE5 HC5 hBw
  have hBw := HE6.out.hB
  go_wp2_with fail
  refine (encode_any w1.heap.size F6 ge gt 0 0 0 [] none 0 0 [] w6 HE6.out.enc (Rd.nil _ _ _) (fun ad h => by cases h) (by omega) hBw).mono ?_
  intro e w7 hp
  obtain ⟨A7, m7, k7, F7, rfl, hq⟩ := encode_ok rfl hp
  clear hp hBw
  rw [limits_again] at hq
  obtain rfl : 0 = m7 := hq.len
  have HE7 := hid (HE6.out.encoded hq)
  have HC7 := hid (HE6.out.cell hq.turn_ HC6.out (by simp))
  clear hq HE6 HC6
  have hBw := HE7.out.hB
  go_wp2_with fail
  refine (peer_any n w1.heap.size F7 ge gt 0 0 4096 [] w7 HE7.out.enc hBw).mono ?_
  intro e w8 hp
  obtain ⟨F8, rfl, hi, ht⟩ := HE7.out.encpost hp
  rw [show min 4096 (peerN n) = peerN n by omega, show shr (peerN n) [] = [] from rfl] at hi
  have HE8 := hid hi
  have HC8 := hid (HE7.out.cell ht HC7.out (by simp))
  clear hp hi ht HE7 HC7 hBw
  have hBw := HE8.out.hB
  have HPN : Hid (min n 4096 = peerN n) := hid (by unfold peerN; omega)
  have HZ : Hid ((peerN n = 0 ∧ n = 0) ∨ (0 < peerN n ∧ 0 < n)) := hid (by unfold peerN; omega)
  go_wp2_with fail
  refine (encode_any w1.heap.size F8 ge gt (peerN n) 0 (peerN n) [] none 0 0 [] w8 HE8.out.enc (Rd.nil _ _ _) (fun ad h => by cases h) (by omega) hBw).mono ?_
  intro e w9 hp
  obtain ⟨A9, m9, k9, F9, rfl, hq⟩ := encode_ok rfl hp
  clear hp hBw
  rw [HS4.out] at hq
  have hD : (m9 = 0 ∧ n = 0) ∨ (0 < m9 ∧ 0 < n) := by
    have hql := hq.len
    rcases HZ.out with ⟨h1, h2⟩ | ⟨h1, h2⟩
    · rw [HD1.out h1] at hql
      exact .inl ⟨hql.symm, h2⟩
    · have := HD2.out h1
      dsimp only at hql
      exact .inr ⟨by omega, h2⟩
  have HE9 := hid (HE8.out.encoded hq)
  have HC9 := hid (HE8.out.cell hq.turn_ HC8.out (by simp))
  clear hq HE8 HC8 HZ HS4 HD1 HD2
  rcases hD with ⟨rfl, rfl⟩ | ⟨hm9, hn9⟩
  · have hp0 : (peerN 0 == 0) = true := rfl
    go_wp2_with (first
      | (go_at_call 8; go_must (refine (first9_any w9).mono ?_; rintro e w10 ⟨rfl, hb10⟩; have HE10 := hid (HE9.out.below hb10); have d0 := below_keep hb10 _ _ HC9.out; clear hb10))
      | (go_at_call 10; go_must (refine (encTable_any _ F9 ge gt _ _ 4096 [] w10 HE10.out.enc).mono ?_; rintro e w11 ⟨rfl, rfl⟩))
      | (go_at_call 14; go_must (refine (most_tb HE10.out.enc.tb).mono ?_; rintro e w12 ⟨rfl, rfl⟩)))
    go_ret
    exact ⟨rfl, HE10.out.out⟩
  · have hm9i : ((m9 : Int) == 0) = false := by simp; omega
    have hn9i : (n == 0) = false := by simp; omega
    have hpq : (peerN n == min n 4096) = true := by rw [HPN.out]; simp
    go_wp2_with (first
      | (go_at_call 8; go_must (refine (first9_any w9).mono ?_; rintro e w10 ⟨rfl, hb10⟩; have HE10 := hid (HE9.out.below hb10); have d0 := below_keep hb10 _ _ HC9.out; clear hb10))
      | (go_at_call 10; go_must (refine (encTable_any _ F9 ge gt _ _ 4096 [] w10 HE10.out.enc).mono ?_; rintro e w11 ⟨rfl, rfl⟩))
      | (go_at_call 14; go_must (refine (most_tb HE10.out.enc.tb).mono ?_; rintro e w12 ⟨rfl, rfl⟩)))
    go_ret
    exact ⟨rfl, HE10.out.out⟩
end Go.Proofs.YtjeocmglcgnclaaDoor
