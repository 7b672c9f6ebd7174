/- The reference's Read of Settings. Conditions: at most 2^40 bytes. -/
import Derived.Test.YtdiahjeplaegnaaPartRd2
namespace Go.Proofs.Ytdiahjeplaegnaa
open Go.RowKit
attribute [local go_sem] kd kdS
attribute [local go_sem ↓] sliced_word
attribute [local go_sem] offA_zero


theorem val_2 (A : Option Addr) (n c : Nat) (l : List UInt8) (w : World) (h : Bs w A n l) (hc : n ≤ c) (m m2 : Nat) (h2 : m2 = m + 2) (hm : m + 6 ≤ n) (c' : Nat) :
    Calls Try.prog 27 #[.slice (offA A m c 1) (m2 - m) c'] w fun e w' => e = .returned (.int .i64 (nb (l.drop m) 0 * 256 + nb (l.drop m) 1)) ∧ w = w' := by
  have e : m2 - m = 2 := by omega
  have hb := h.off (k := m) (cap := c) (by omega) hc
  have h3 := val_any (offA A m c 1) 2 c' ((l.drop m).take 2) w (hb.to (by omega)) (by omega)
  have e2 : beI ((l.drop m).take 2) 2 = beI (l.drop m) 2 := by
    unfold beI
    rw [List.take_take, Nat.min_self]
  rw [e2, beI_two (by rw [List.length_drop, h.len]; omega)] at h3
  rw [e]
  exact h3
theorem val_6 (A : Option Addr) (n c : Nat) (l : List UInt8) (w : World) (h : Bs w A n l) (hc : n ≤ c) (m m2 m6 : Nat) (h2 : m2 = m + 2) (h6 : m6 = m + 6) (hm : m + 6 ≤ n) (c' : Nat) :
    Calls Try.prog 27 #[.slice (offA A m2 c 1) (m6 - m2) c'] w fun e w' => e = .returned (.int .i64 (n4 ((l.drop m).drop 2))) ∧ w = w' := by
  have e : m6 - m2 = 4 := by omega
  subst h2
  have hb := h.off (k := m + 2) (cap := c) (by omega) hc
  have h3 := val_4 (offA A (m + 2) c 1) (n - (m + 2)) c' (l.drop (m + 2)) w hb (by omega)
  rw [e, List.drop_drop]
  exact h3

set_option maxHeartbeats 4000000 in
set_option maxRecDepth 100000 in
theorem rread_4a (f : Int) (A : Option Addr) (n c : Nat) (l : List UInt8) (w : World) (h : Bs w A n l) (hnc : n ≤ c) (hn : n ≤ 1099511627776) (hab : fl f 1 = true) (h0 : 0 < n) :
    Calls Try.prog 10 #[.agg #[.int .i64 4, .int .i64 f, .int .i64 0, .slice A n c]] w (PartPost (readP 4 f 0 l) w) := by
  have hlen := h.len
  have H := hid h
  clear h
  have HU : Hid (readP 4 f 0 l = connP 6) := hid (by unfold readP; simp only [settingsP]; rw [if_neg (by omega), if_pos trivial, if_neg (by simp), if_pos (.inl ⟨by unfold fl at hab; simpa using hab, by omega⟩)])
  have hW1 : (bits .and .i64 f 1 == 1) = true := (eq1 f).trans hab
  have hc3 : (0 : Int) < n := by omega
  clear hab
  clear hlen
  go_enter Try.func10, Try.ntmps10
  go_upto_region 1 with fail
  have hpw := ProF.new w 4 f 0 A n c
  have hWs : (((w.alloc (.cells #[.int .i64 4, .int .i64 f, .int .i64 0, .slice A n c] 34)).alloc (.cells #[.slice none 0 0, .int .i64 0, .int .i64 0, .int .i64 0, .int .i64 0, .slice none 0 0, .bool false, .bool false, .bool false] 28)).alloc (.cells #[.bool false, .bool false, .int .i64 0] 30)).heap.size = w.heap.size + 3 := by simp
  generalize (((w.alloc (.cells #[.int .i64 4, .int .i64 f, .int .i64 0, .slice A n c] 34)).alloc (.cells #[.slice none 0 0, .int .i64 0, .int .i64 0, .int .i64 0, .int .i64 0, .slice none 0 0, .bool false, .bool false, .bool false] 28)).alloc (.cells #[.bool false, .bool false, .int .i64 0] 30)) = W at hpw hWs ⊢
  have hpx := hpw.on ((Below.refl W.heap.size W).alloc (Nat.le_refl _) (.cells #[.slice none 0 0, .int .i64 0, .int .i64 0, .int .i64 0, .int .i64 0, .slice none 0 0, .bool false, .bool false, .bool false] 28))
  have hpb : Blk (W.alloc (.cells #[.slice none 0 0, .int .i64 0, .int .i64 0, .int .i64 0, .int .i64 0, .slice none 0 0, .bool false, .bool false, .bool false] 28)) (w.heap.size + 3) 28 #[.slice none 0 0, .int .i64 0, .int .i64 0, .int .i64 0, .int .i64 0, .slice none 0 0, .bool false, .bool false, .bool false] := by rw [← hWs]; exact Blk.new W _ _
  go_upto_region 2 with fail
  generalize W.alloc (.cells #[.slice none 0 0, .int .i64 0, .int .i64 0, .int .i64 0, .int .i64 0, .slice none 0 0, .bool false, .bool false, .bool false] 28) = X at hpx hpb ⊢
  clear hpw hWs
  obtain ⟨d0, d1, d2, d3⟩ := hpx.cells
  obtain ⟨p0, p1, p2, p3, p4, p5, p6, p7, p8, pf0, pf1, pf5⟩ := blk9 hpb
  have pf2 := hpb.frozen 2
  have pf3 := hpb.frozen 3
  have pf4 := hpb.frozen 4
  have pf7 := hpb.frozen 7
  have pf8 := hpb.frozen 8
  obtain ⟨k0, k1, k2, k3, k4, k5, k6, k7, k8, m0, m1, m2, f0, f1, f2, f3, f4, f5, f6, f7, f8, g0, g1, g2⟩ := hpx.pro.cells
  have HPX := hid (hpx.on ((Below.refl X.heap.size X).drew))
  have HBX := hid (show Blk X.drew (w.heap.size + 3) 28 #[.slice none 0 0, .int .i64 0, .int .i64 0, .int .i64 0, .int .i64 0, .slice none 0 0, .bool false, .bool false, .bool false] from hpb)
  have HB := hid (H.out.below (hpx.on ((Below.refl X.heap.size X).drew)).pro.below_)
  clear hpx hpb
  have HPS := hid (show ProF w (X.setCell ⟨w.heap.size + 3, 7, none⟩ (.bool true)).drew 4 f 0 A n c from HPX.out.turn (set3 7 (.bool true)))
  have HBS := hid (show Blk (X.setCell ⟨w.heap.size + 3, 7, none⟩ (.bool true)).drew (w.heap.size + 3) 28 #[.slice none 0 0, .int .i64 0, .int .i64 0, .int .i64 0, .int .i64 0, .slice none 0 0, .bool false, .bool true, .bool false] from HBX.out.set_ 7 _)
  (refine wp_mix ?_ ?_ ?_; (focus kernel_rfl); (focus kernel_rfl); intro KK hKK; go_wp2_with (first
        | ((go_at_call 26; go_must (refine (rfault_any 6 true _).mono ?_; unfold ft; rintro e w1 ⟨rfl, hb1⟩; have hP := HPS.out.pro.on hb1; have HP := hid hP; clear hb1; obtain ⟨k0, k1, k2, k3, k4, k5, k6, k7, k8, m0, m1, m2, f0, f1, f2, f3, f4, f5, f6, f7, f8, g0, g1, g2⟩ := hP.cells; clear hP)))
        | (with_reducible refine mix_nil ?_)
        | ((with_reducible refine mix_on ?_ ?_); (focus rfl); intro K hK; go_simp; (first | ((with_reducible refine hK _ _ ?_); clear hK K) | skip))
        | ((with_reducible refine mix_off ?_ ?_); (focus rfl); intro K hK; go_simp; (first | ((with_reducible refine hK _ _ ?_); clear hK K) | skip))
        | ((with_reducible refine mix_step ?_); intro K hK; go_simp; (first | ((with_reducible refine hK _ _ ?_); clear hK K) | skip))))
  refine part_end Try.results10 rfl rfl HP.out.p rfl HP.out.q rfl (by omega) ?_
  intro w' ht
  rw [HU.out]
  exact PartPost.plain rfl rfl (HP.out.fin ht)

set_option maxHeartbeats 4000000 in
set_option maxRecDepth 100000 in
theorem rread_4b (f : Int) (A : Option Addr) (n c : Nat) (l : List UInt8) (w : World) (h : Bs w A n l) (hnc : n ≤ c) (hn : n ≤ 1099511627776) (hab : fl f 1 = false) (hr : n % 6 ≠ 0) :
    Calls Try.prog 10 #[.agg #[.int .i64 4, .int .i64 f, .int .i64 0, .slice A n c]] w (PartPost (readP 4 f 0 l) w) := by
  have hlen := h.len
  have H := hid h
  clear h
  have HU : Hid (readP 4 f 0 l = connP 6) := hid (by unfold readP; simp [settingsP, hlen, hr])
  have hW1 : (bits .and .i64 f 1 == 1) = false := (eq1 f).trans hab
  have hr2 : ((n : Int) % 6 != 0) = true := by simp; omega
  clear hr hab
  clear hlen
  go_enter Try.func10, Try.ntmps10
  go_upto_region 1 with fail
  have hpw := ProF.new w 4 f 0 A n c
  have hWs : (((w.alloc (.cells #[.int .i64 4, .int .i64 f, .int .i64 0, .slice A n c] 34)).alloc (.cells #[.slice none 0 0, .int .i64 0, .int .i64 0, .int .i64 0, .int .i64 0, .slice none 0 0, .bool false, .bool false, .bool false] 28)).alloc (.cells #[.bool false, .bool false, .int .i64 0] 30)).heap.size = w.heap.size + 3 := by simp
  generalize (((w.alloc (.cells #[.int .i64 4, .int .i64 f, .int .i64 0, .slice A n c] 34)).alloc (.cells #[.slice none 0 0, .int .i64 0, .int .i64 0, .int .i64 0, .int .i64 0, .slice none 0 0, .bool false, .bool false, .bool false] 28)).alloc (.cells #[.bool false, .bool false, .int .i64 0] 30)) = W at hpw hWs ⊢
  have hpx := hpw.on ((Below.refl W.heap.size W).alloc (Nat.le_refl _) (.cells #[.slice none 0 0, .int .i64 0, .int .i64 0, .int .i64 0, .int .i64 0, .slice none 0 0, .bool false, .bool false, .bool false] 28))
  have hpb : Blk (W.alloc (.cells #[.slice none 0 0, .int .i64 0, .int .i64 0, .int .i64 0, .int .i64 0, .slice none 0 0, .bool false, .bool false, .bool false] 28)) (w.heap.size + 3) 28 #[.slice none 0 0, .int .i64 0, .int .i64 0, .int .i64 0, .int .i64 0, .slice none 0 0, .bool false, .bool false, .bool false] := by rw [← hWs]; exact Blk.new W _ _
  go_upto_region 2 with fail
  generalize W.alloc (.cells #[.slice none 0 0, .int .i64 0, .int .i64 0, .int .i64 0, .int .i64 0, .slice none 0 0, .bool false, .bool false, .bool false] 28) = X at hpx hpb ⊢
  clear hpw hWs
  obtain ⟨d0, d1, d2, d3⟩ := hpx.cells
  obtain ⟨p0, p1, p2, p3, p4, p5, p6, p7, p8, pf0, pf1, pf5⟩ := blk9 hpb
  have pf2 := hpb.frozen 2
  have pf3 := hpb.frozen 3
  have pf4 := hpb.frozen 4
  have pf7 := hpb.frozen 7
  have pf8 := hpb.frozen 8
  obtain ⟨k0, k1, k2, k3, k4, k5, k6, k7, k8, m0, m1, m2, f0, f1, f2, f3, f4, f5, f6, f7, f8, g0, g1, g2⟩ := hpx.pro.cells
  have HPX := hid (hpx.on ((Below.refl X.heap.size X).drew))
  have HBX := hid (show Blk X.drew (w.heap.size + 3) 28 #[.slice none 0 0, .int .i64 0, .int .i64 0, .int .i64 0, .int .i64 0, .slice none 0 0, .bool false, .bool false, .bool false] from hpb)
  have HB := hid (H.out.below (hpx.on ((Below.refl X.heap.size X).drew)).pro.below_)
  clear hpx hpb
  have HPS := hid (show ProF w (X.setCell ⟨w.heap.size + 3, 7, none⟩ (.bool false)).drew 4 f 0 A n c from HPX.out.turn (set3 7 (.bool false)))
  have HBS := hid (show Blk (X.setCell ⟨w.heap.size + 3, 7, none⟩ (.bool false)).drew (w.heap.size + 3) 28 #[.slice none 0 0, .int .i64 0, .int .i64 0, .int .i64 0, .int .i64 0, .slice none 0 0, .bool false, .bool false, .bool false] from HBX.out.set_ 7 _)
  (refine wp_mix ?_ ?_ ?_; (focus kernel_rfl); (focus kernel_rfl); intro KK hKK; go_wp2_with (first
        | ((go_at_call 26; go_must (refine (rfault_any 6 true _).mono ?_; unfold ft; rintro e w1 ⟨rfl, hb1⟩; have hP := HPS.out.pro.on hb1; have HP := hid hP; clear hb1; obtain ⟨k0, k1, k2, k3, k4, k5, k6, k7, k8, m0, m1, m2, f0, f1, f2, f3, f4, f5, f6, f7, f8, g0, g1, g2⟩ := hP.cells; clear hP)))
        | (with_reducible refine mix_nil ?_)
        | ((with_reducible refine mix_on ?_ ?_); (focus rfl); intro K hK; go_simp; (first | ((with_reducible refine hK _ _ ?_); clear hK K) | skip))
        | ((with_reducible refine mix_off ?_ ?_); (focus rfl); intro K hK; go_simp; (first | ((with_reducible refine hK _ _ ?_); clear hK K) | skip))
        | ((with_reducible refine mix_step ?_); intro K hK; go_simp; (first | ((with_reducible refine hK _ _ ?_); clear hK K) | skip))))
  refine part_end Try.results10 rfl rfl HP.out.p rfl HP.out.q rfl (by omega) ?_
  intro w' ht
  rw [HU.out]
  exact PartPost.plain rfl rfl (HP.out.fin ht)

set_option maxHeartbeats 4000000 in
set_option maxRecDepth 100000 in
theorem rread_4c (f : Int) (A : Option Addr) (c : Nat) (l : List UInt8) (w : World) (h : Bs w A 0 l) (hnc : 0 ≤ c) (hn : 0 ≤ 1099511627776) (hab : fl f 1 = true) :
    Calls Try.prog 10 #[.agg #[.int .i64 4, .int .i64 f, .int .i64 0, .slice A 0 c]] w (PartPost (readP 4 f 0 l) w) := by
  have hlen := h.len
  have H := hid h
  clear h
  have HU : Hid (readP 4 f 0 l = { a := true, sets := setsOf l (0 / 6) }) := hid (by unfold readP; simp only [settingsP]; rw [if_neg (by omega), if_pos trivial, if_neg (by simp), if_neg (by rw [hlen]; simp), hlen, hab])
  have hW1 : (bits .and .i64 f 1 == 1) = true := (eq1 f).trans hab
  clear hlen
  go_enter Try.func10, Try.ntmps10
  go_upto_region 1 with fail
  have hpw := ProF.new w 4 f 0 A 0 c
  have hWs : (((w.alloc (.cells #[.int .i64 4, .int .i64 f, .int .i64 0, .slice A 0 c] 34)).alloc (.cells #[.slice none 0 0, .int .i64 0, .int .i64 0, .int .i64 0, .int .i64 0, .slice none 0 0, .bool false, .bool false, .bool false] 28)).alloc (.cells #[.bool false, .bool false, .int .i64 0] 30)).heap.size = w.heap.size + 3 := by simp
  generalize (((w.alloc (.cells #[.int .i64 4, .int .i64 f, .int .i64 0, .slice A 0 c] 34)).alloc (.cells #[.slice none 0 0, .int .i64 0, .int .i64 0, .int .i64 0, .int .i64 0, .slice none 0 0, .bool false, .bool false, .bool false] 28)).alloc (.cells #[.bool false, .bool false, .int .i64 0] 30)) = W at hpw hWs ⊢
  have hpx := hpw.on ((Below.refl W.heap.size W).alloc (Nat.le_refl _) (.cells #[.slice none 0 0, .int .i64 0, .int .i64 0, .int .i64 0, .int .i64 0, .slice none 0 0, .bool false, .bool false, .bool false] 28))
  have hpb : Blk (W.alloc (.cells #[.slice none 0 0, .int .i64 0, .int .i64 0, .int .i64 0, .int .i64 0, .slice none 0 0, .bool false, .bool false, .bool false] 28)) (w.heap.size + 3) 28 #[.slice none 0 0, .int .i64 0, .int .i64 0, .int .i64 0, .int .i64 0, .slice none 0 0, .bool false, .bool false, .bool false] := by rw [← hWs]; exact Blk.new W _ _
  go_upto_region 2 with fail
  generalize W.alloc (.cells #[.slice none 0 0, .int .i64 0, .int .i64 0, .int .i64 0, .int .i64 0, .slice none 0 0, .bool false, .bool false, .bool false] 28) = X at hpx hpb ⊢
  clear hpw hWs
  obtain ⟨d0, d1, d2, d3⟩ := hpx.cells
  obtain ⟨p0, p1, p2, p3, p4, p5, p6, p7, p8, pf0, pf1, pf5⟩ := blk9 hpb
  have pf2 := hpb.frozen 2
  have pf3 := hpb.frozen 3
  have pf4 := hpb.frozen 4
  have pf7 := hpb.frozen 7
  have pf8 := hpb.frozen 8
  obtain ⟨k0, k1, k2, k3, k4, k5, k6, k7, k8, m0, m1, m2, f0, f1, f2, f3, f4, f5, f6, f7, f8, g0, g1, g2⟩ := hpx.pro.cells
  have HPX := hid (hpx.on ((Below.refl X.heap.size X).drew))
  have HBX := hid (show Blk X.drew (w.heap.size + 3) 28 #[.slice none 0 0, .int .i64 0, .int .i64 0, .int .i64 0, .int .i64 0, .slice none 0 0, .bool false, .bool false, .bool false] from hpb)
  have HB := hid (H.out.below (hpx.on ((Below.refl X.heap.size X).drew)).pro.below_)
  clear hpx hpb
  have HPS := hid (show ProF w (X.setCell ⟨w.heap.size + 3, 7, none⟩ (.bool true)).drew 4 f 0 A 0 c from HPX.out.turn (set3 7 (.bool true)))
  have HBS := hid (show Blk (X.setCell ⟨w.heap.size + 3, 7, none⟩ (.bool true)).drew (w.heap.size + 3) 28 #[.slice none 0 0, .int .i64 0, .int .i64 0, .int .i64 0, .int .i64 0, .slice none 0 0, .bool false, .bool true, .bool false] from HBX.out.set_ 7 _)
  (refine wp_mix ?_ ?_ ?_; (focus kernel_rfl); (focus kernel_rfl); intro KK hKK; go_wp2_with (first
        | (fail)
        | (with_reducible refine mix_nil ?_)
        | ((with_reducible refine mix_on ?_ ?_); (focus rfl); intro K hK; go_simp; (first | ((with_reducible refine hK _ _ ?_); clear hK K) | skip))
        | ((with_reducible refine mix_off ?_ ?_); (focus rfl); intro K hK; go_simp; (first | ((with_reducible refine hK _ _ ?_); clear hK K) | skip))
        | ((with_reducible refine mix_step ?_); intro K hK; go_simp; (first | ((with_reducible refine hK _ _ ?_); clear hK K) | skip))))
  clear d0 d1 d2 d3 p0 p1 p2 p3 p4 p5 p6 p7 p8 pf0 pf1 pf2 pf3 pf4 pf5 pf7 pf8 k0 k1 k2 k3 k4 k5 k6 k7 k8 m0 m1 m2 f0 f1 f2 f3 f4 f5 f6 f7 f8 g0 g1 g2
  generalize (X.setCell ⟨w.heap.size + 3, 7, none⟩ (.bool true)).drew = V at HPS HBS ⊢
  clear HB HPX HBX
  go_loopw [7] (fun v wr => v = .int .i64 0 ∧ wr = V) (fun _ _ => 0)
  case atStart => exact ⟨rfl, rfl⟩
  case round =>
    obtain ⟨rfl, rfl⟩ := hrel
    have HPR := HPS
    have HBR := HBS
    have hP := HPR.out.pro
    have HP := hid hP
    obtain ⟨d0, d1, d2, d3⟩ := HPR.out.cells
    obtain ⟨q0, q1, q2, q3, q4, q5, q6, q7, q8, qf0, qf1, qf5⟩ := blk9 HBR.out
    obtain ⟨k0, k1, k2, k3, k4, k5, k6, k7, k8, m0, m1, m2, f0, f1, f2, f3, f4, f5, f6, f7, f8, g0, g1, g2⟩ := hP.cells
    clear hP
    go_wp2_with fail
    refine part_end Try.results10 rfl rfl HP.out.p rfl HP.out.q rfl (by omega) ?_
    intro w' ht
    rw [HU.out]
    exact PartPost.plain rfl rfl (HP.out.fin ht)

set_option maxHeartbeats 4000000 in
set_option maxRecDepth 100000 in
theorem rread_4d (f : Int) (A : Option Addr) (n c : Nat) (l : List UInt8) (w : World) (h : Bs w A n l) (hnc : n ≤ c) (hn : n ≤ 1099511627776) (hab : fl f 1 = false) (hr : n % 6 = 0) :
    Calls Try.prog 10 #[.agg #[.int .i64 4, .int .i64 f, .int .i64 0, .slice A n c]] w (PartPost (readP 4 f 0 l) w) := by
  have hlen := h.len
  have H := hid h
  clear h
  have HU : Hid (readP 4 f 0 l = { a := false, sets := setsOf l (n / 6) }) := hid (by unfold readP; simp only [settingsP]; rw [if_neg (by omega), if_pos trivial, if_neg (by simp), if_neg (by rw [hlen]; exact fun h => h.elim (fun h => by unfold fl at hab; simp at hab; omega) (fun h => h hr)), hlen, hab])
  have hW1 : (bits .and .i64 f 1 == 1) = false := (eq1 f).trans hab
  have hr6 := hid hr
  have hr2 : ((n : Int) % 6 != 0) = false := by simp; omega
  have hr3 : ((n : Int) % 6 == 0) = true := by simp; omega
  clear hlen hr hab
  go_enter Try.func10, Try.ntmps10
  go_upto_region 1 with fail
  have hpw := ProF.new w 4 f 0 A n c
  have hWs : (((w.alloc (.cells #[.int .i64 4, .int .i64 f, .int .i64 0, .slice A n c] 34)).alloc (.cells #[.slice none 0 0, .int .i64 0, .int .i64 0, .int .i64 0, .int .i64 0, .slice none 0 0, .bool false, .bool false, .bool false] 28)).alloc (.cells #[.bool false, .bool false, .int .i64 0] 30)).heap.size = w.heap.size + 3 := by simp
  generalize (((w.alloc (.cells #[.int .i64 4, .int .i64 f, .int .i64 0, .slice A n c] 34)).alloc (.cells #[.slice none 0 0, .int .i64 0, .int .i64 0, .int .i64 0, .int .i64 0, .slice none 0 0, .bool false, .bool false, .bool false] 28)).alloc (.cells #[.bool false, .bool false, .int .i64 0] 30)) = W at hpw hWs ⊢
  have hpx := hpw.on ((Below.refl W.heap.size W).alloc (Nat.le_refl _) (.cells #[.slice none 0 0, .int .i64 0, .int .i64 0, .int .i64 0, .int .i64 0, .slice none 0 0, .bool false, .bool false, .bool false] 28))
  have hpb : Blk (W.alloc (.cells #[.slice none 0 0, .int .i64 0, .int .i64 0, .int .i64 0, .int .i64 0, .slice none 0 0, .bool false, .bool false, .bool false] 28)) (w.heap.size + 3) 28 #[.slice none 0 0, .int .i64 0, .int .i64 0, .int .i64 0, .int .i64 0, .slice none 0 0, .bool false, .bool false, .bool false] := by rw [← hWs]; exact Blk.new W _ _
  go_upto_region 2 with fail
  generalize W.alloc (.cells #[.slice none 0 0, .int .i64 0, .int .i64 0, .int .i64 0, .int .i64 0, .slice none 0 0, .bool false, .bool false, .bool false] 28) = X at hpx hpb ⊢
  clear hpw hWs
  obtain ⟨d0, d1, d2, d3⟩ := hpx.cells
  obtain ⟨p0, p1, p2, p3, p4, p5, p6, p7, p8, pf0, pf1, pf5⟩ := blk9 hpb
  have pf2 := hpb.frozen 2
  have pf3 := hpb.frozen 3
  have pf4 := hpb.frozen 4
  have pf7 := hpb.frozen 7
  have pf8 := hpb.frozen 8
  obtain ⟨k0, k1, k2, k3, k4, k5, k6, k7, k8, m0, m1, m2, f0, f1, f2, f3, f4, f5, f6, f7, f8, g0, g1, g2⟩ := hpx.pro.cells
  have HPX := hid (hpx.on ((Below.refl X.heap.size X).drew))
  have HBX := hid (show Blk X.drew (w.heap.size + 3) 28 #[.slice none 0 0, .int .i64 0, .int .i64 0, .int .i64 0, .int .i64 0, .slice none 0 0, .bool false, .bool false, .bool false] from hpb)
  have HB := hid (H.out.below (hpx.on ((Below.refl X.heap.size X).drew)).pro.below_)
  clear hpx hpb
  have HPS := hid (show ProF w (X.setCell ⟨w.heap.size + 3, 7, none⟩ (.bool false)).drew 4 f 0 A n c from HPX.out.turn (set3 7 (.bool false)))
  have HBS := hid (show Blk (X.setCell ⟨w.heap.size + 3, 7, none⟩ (.bool false)).drew (w.heap.size + 3) 28 #[.slice none 0 0, .int .i64 0, .int .i64 0, .int .i64 0, .int .i64 0, .slice none 0 0, .bool false, .bool false, .bool false] from HBX.out.set_ 7 _)
  (refine wp_mix ?_ ?_ ?_; (focus kernel_rfl); (focus kernel_rfl); intro KK hKK; go_wp2_with (first
        | (fail)
        | (with_reducible refine mix_nil ?_)
        | ((with_reducible refine mix_on ?_ ?_); (focus rfl); intro K hK; go_simp; (first | ((with_reducible refine hK _ _ ?_); clear hK K) | skip))
        | ((with_reducible refine mix_off ?_ ?_); (focus rfl); intro K hK; go_simp; (first | ((with_reducible refine hK _ _ ?_); clear hK K) | skip))
        | ((with_reducible refine mix_step ?_); intro K hK; go_simp; (first | ((with_reducible refine hK _ _ ?_); clear hK K) | skip))))
  clear d0 d1 d2 d3 p0 p1 p2 p3 p4 p5 p6 p7 p8 pf0 pf1 pf2 pf3 pf4 pf5 pf7 pf8 k0 k1 k2 k3 k4 k5 k6 k7 k8 m0 m1 m2 f0 f1 f2 f3 f4 f5 f6 f7 f8 g0 g1 g2
  generalize (X.setCell ⟨w.heap.size + 3, 7, none⟩ (.bool false)).drew = V at HPS HBS ⊢
  clear HB HPX HBX
  obtain ⟨i0, hi0, hz0, hz1, hz2⟩ := info_parts set_info
  have hi := hid hi0
  have hz := hid hz0
  have hsz := hid hz1
  have hby := hid hz2
  clear hi0 hz0 hz1 hz2
  go_loopw [7] (fun i wr => ∃ (k m : Nat) (As : Option Addr) (cs : Nat), m = 6 * k ∧ m ≤ n ∧ i = .int .i64 m ∧ ProF w wr 4 f 0 A n c ∧ Blk wr (w.heap.size + 3) 28 #[.slice none 0 0, .int .i64 0, .int .i64 0, .int .i64 0, .int .i64 0, .slice As k cs, .bool false, .bool false, .bool false] ∧ wr.ownsRow (w.heap.size + 4) 40 2 (.slice As k cs) k (setCells (setsOf l k)) ∧ w.heap.size + 4 ≤ wr.heap.size) (fun i _ => n - (intOf i).toNat)
  case atStart => exact ⟨0, 0, none, 0, rfl, Nat.zero_le _, rfl, HPS.out, HBS.out, World.ownsRow_nil _ _ _ _, by have := HBS.out.lt; omega⟩
  case round =>
    obtain ⟨k, m, As, cs, hmk, hmn, rfl, hpv, hbp, hown, hsz4⟩ := hrel
    have HPR := hid hpv
    have HBR := hid hbp
    have HOW := hid hown
    have HMK := hid hmk
    clear hpv hbp hown HPS HBS hmk
    by_cases hm0 : m = n
    · subst hm0
      have hk6 : m / 6 = k := by have := HMK.out; omega
      rw [hk6] at HU
      have hP := HPR.out.pro
      have HP := hid hP
      obtain ⟨d0, d1, d2, d3⟩ := HPR.out.cells
      obtain ⟨q0, q1, q2, q3, q4, q5, q6, q7, q8, qf0, qf1, qf5⟩ := blk9 HBR.out
      obtain ⟨k0, k1, k2, k3, k4, k5, k6, k7, k8, m0, m1, m2, f0, f1, f2, f3, f4, f5, f6, f7, f8, g0, g1, g2⟩ := hP.cells
      clear hP
      go_wp2_with fail
      refine part_end Try.results10 rfl rfl HP.out.p rfl HP.out.q rfl (by omega) ?_
      intro w' ht
      rw [HU.out]
      have ho := own_turned HOW.out ht (fun b hb hm => by
        have := (HOW.out.lt b hb).1
        simp at hm
        omega)
      exact ⟨none, 0, 0, As, k, cs, rfl, Bs.nil _ _, Rd.of_own ho, Above.none _, Above.own ho (by omega), HP.out.fin ht⟩
    · have hm6 : m + 6 ≤ n := by have := HMK.out; have := hr6.out; omega
      have hmlt : (m : Int) < n := by omega
      have hkn : k ≤ n := by have := HMK.out; omega
      obtain ⟨m2, hm2⟩ : ∃ m2 : Nat, (m : Int) + 2 = (m2 : Int) := ⟨m + 2, by omega⟩
      obtain ⟨m6, hm6'⟩ : ∃ m6 : Nat, (m : Int) + 6 = (m6 : Int) := ⟨m + 6, by omega⟩
      have hw2 := IntWalk.i64_in (m2 : Int) (by omega)
      have hw6 := IntWalk.i64_in (m6 : Int) (by omega)
      have he2 : m2 = m + 2 := by omega
      have he6 : m6 = m + 6 := by omega
      have HE := hid (And.intro he2 he6)
      have hl1 : m ≤ m2 := by omega
      have hl2 : m2 ≤ m6 := by omega
      have hc2 : m2 ≤ c := by omega
      have hc6 : m6 ≤ c := by omega
      have HM6 := hid hm6
      obtain ⟨d0, d1, d2, d3⟩ := HPR.out.cells
      obtain ⟨q0, q1, q2, q3, q4, q5, q6, q7, q8, qf0, qf1, qf5⟩ := blk9 HBR.out
      have HST : Hid (setCells (setsOf l (k + 1)) = setCells (setsOf l k) ++ [.int .i64 (nb (l.drop m) 0 * 256 + nb (l.drop m) 1), .int .i64 (n4 ((l.drop m).drop 2))]) := hid (by
        rw [setsOf_succ, HMK.out, nb_drop, nb_drop, List.drop_drop]
        rfl)
      obtain ⟨x1, hx1⟩ : ∃ a, nb (l.drop m) 0 * 256 + nb (l.drop m) 1 = a := ⟨_, rfl⟩
      obtain ⟨x2, hx2⟩ : ∃ a, n4 ((l.drop m).drop 2) = a := ⟨_, rfl⟩
      have HV2 : Hid (∀ w c', Bs w A n l → Calls Try.prog 27 #[.slice (offA A m c 1) (m2 - m) c'] w fun e w' => e = .returned (.int .i64 x1) ∧ w = w') := hid fun w c' h => by rw [← hx1]; exact val_2 A n c l w h hnc m m2 HE.out.1 HM6.out c'
      have HV6 : Hid (∀ w c', Bs w A n l → Calls Try.prog 27 #[.slice (offA A m2 c 1) (m6 - m2) c'] w fun e w' => e = .returned (.int .i64 x2) ∧ w = w') := hid fun w c' h => by rw [← hx2]; exact val_6 A n c l w h hnc m m2 m6 HE.out.1 HE.out.2 HM6.out c'
      rw [hx1, hx2] at HST
      clear hx1 hx2
      have hge := rowF_ge HOW.out
      have HGE := hid hge
      have h3F : w.heap.size + 3 ∉ rowF As := fun hm => by have := hge _ hm; omega
      have h0F : w.heap.size ∉ rowF As := fun hm => by have := hge _ hm; omega
      have H3F := hid h3F
      have HSB := hid (show Turned (rowF As) wr wr.drew from (Turned.refl _ _).drew)
      have LS : Hid (∀ w', Turned (rowF As) wr w' → (Instr.loadAt 26 (.pointer (some ⟨w.heap.size + 3, 5, none⟩))).run Try.prog w' = .ok (.slice As k cs) w') := hid fun w' ht => by
        have z := ht.cell q5 h3F
        clear q0 q1 q2 q3 q4 q5 q6 q7 q8 d0 d1 d2 d3
        go_simp
      have LB : Hid (∀ w', Turned (rowF As) wr w' → (Instr.loadAt 25 (.pointer (some ⟨w.heap.size, 3, none⟩))).run Try.prog w' = .ok (.slice A n c) w') := hid fun w' ht => by
        have z := ht.cell d3 h0F
        clear q0 q1 q2 q3 q4 q5 q6 q7 q8 d0 d1 d2 d3
        go_simp
      have HBW := hid (H.out.below (HPR.out.on (Below.refl _ _).drew).pro.below_)
      clear h3F h0F hge q0 q1 q2 q3 q4 q5 q6 q7 q8 qf0 qf1 qf5 d0 d1 d2 d3 he2 he6 hm0 hm6
      go_wp2_with fail
      (refine wp_mixZ (Turned (rowF As) wr) rfl ?_ ?_ (HSB.out) ?_; (focus kernel_rfl); (focus kernel_rfl); intro KK hKK; simp only [List.dropLast_cons_cons, List.dropLast_singleton]; go_wp2_with (first
                                            | (first
        | ((with_reducible refine mixS_load LS.out ?_ ?_ ?_); (focus rfl); (focus rfl))
        | ((with_reducible refine mixS_load LB.out ?_ ?_ ?_); (focus rfl); (focus rfl))
        | (go_at_call 27; (with_reducible refine (HV2.out _ _ HBW.out).mono ?_); rintro e w2 ⟨rfl, rfl⟩)
        | (go_at_call 27; go_must (refine (HV6.out _ _ HBW.out).mono ?_; rintro e w2 ⟨rfl, rfl⟩))
        | ((with_reducible refine at_mapp ?_); go_loud (refine mixS_app (w.heap.size + 4) 40 i0 _ 2 16 Try.underlying26 hi.out hz.out hsz.out hby.out rfl (by decide) _ k _ (own_below HOW.out (((Below.refl _ _).alloc (Nat.le_refl _) _).drew)) (some ⟨wr.heap.size, 0, none⟩) 1 1 [.int .i64 x1, .int .i64 x2] (rd_newD (size := 2) rfl rfl) ?_ ?_ ?_ ?_ ?_ ?_ ?_ ?_; (focus rfl); (focus rfl); (focus (intro u hu; simp at hu; rcases hu with rfl | rfl <;> rfl)); (focus omega); (focus omega); (focus (simp; omega)); (focus rfl); intro A5 cs5 w5 ho5 hg5 hc5; have HS5 := hid (((Turned.refl (rowF As) wr).then (((Below.refl _ _).alloc (Nat.le_refl _) _).drew)).app hg5); have HO5 := hid ho5; have HBR5 := hid (HBR.out.turned HS5.out H3F.out); have r5 := HBR5.out.cell 5; have rf5 := HBR5.out.frozen 5; clear ho5 hg5 hc5; refine ⟨HS5.out, ?_⟩))
        | ((with_reducible refine And.intro ?_ ?_); (focus (first | (with_reducible exact HSB.out) | (exact (Turned.refl (rowF As) wr).then (((Below.refl _ _).alloc (Nat.le_refl _) _).drew)))))
        | ((with_reducible refine mix_nil ?_); refine hKK _ _ HS5.out ?_; (with_reducible refine last_on ?_ ?_); (focus rfl); intro K hK; go_simp))
                                            | ((with_reducible refine mix_nil ?_); refine hKK _ _ (HSB.out) ?_; (with_reducible refine last_on ?_ ?_); (focus rfl); intro K hK; go_simp)
                                            | ((with_reducible refine mixS_on ?_ ?_); (focus rfl); intro K K' hK hK'; go_simp; (first | ((with_reducible refine hK _ _ ?_); clear hK hK' K K') | ((with_reducible refine hK' _ _ ?_); clear hK hK' K K') | skip))
                                            | ((with_reducible refine mixS_off ?_ ?_); (focus rfl); intro K hK; go_simp; (first | ((with_reducible refine hK _ _ ?_); clear hK K) | skip))
                                            | ((with_reducible refine mixS_step ?_); intro K K' hK hK'; go_simp; (first | ((with_reducible refine hK _ _ ?_); clear hK hK' K K') | ((with_reducible refine hK' _ _ ?_); clear hK hK' K K') | skip))))
      rw [show w.heap.size + 1 + 1 + 1 = w.heap.size + 3 from rfl]
      have HST3 := hid (set3 (w := w) (w1 := w5) 5 (.slice A5 (k + 1) cs5))
      go_roundw
      case rel => exact ⟨k + 1, m6, A5, cs5, by have := HE.out; have := HMK.out; omega, by have := HE.out; have := HM6.out; omega, by go_num, (HPR.out.row HS5.out (fun x hx => by have := HGE.out x hx; omega)).turn HST3.out, HBR5.out.set_ 5 _, by rw [HST.out]; exact own_turned HO5.out HST3.out (fun x hx hm => by have := (HO5.out.lt x hx).1; simp at hm; omega), by have := HS5.out.size; simp [World.setCell]; omega⟩
      case measure => simp [intOf]; (have := HE.out); omega

set_option maxHeartbeats 4000000 in
set_option maxRecDepth 100000 in
theorem rread_4e (f s : Int) (A : Option Addr) (n c : Nat) (l : List UInt8) (w : World) (h : Bs w A n l) (hnc : n ≤ c) (hn : n ≤ 1099511627776) (hs : s ≠ 0) :
    Calls Try.prog 10 #[.agg #[.int .i64 4, .int .i64 f, .int .i64 s, .slice A n c]] w (PartPost (readP 4 f s l) w) := by
  have hlen := h.len
  have H := hid h
  clear h
  obtain ⟨ab, hab⟩ : ∃ ab, fl f 1 = ab := ⟨_, rfl⟩
  have HU : Hid (readP 4 f s l = connP 1) := hid (by unfold readP; simp [settingsP, hs])
  have hs2 : (s != 0) = true := by simp [hs]
  have hW1 : (bits .and .i64 f 1 == 1) = ab := (eq1 f).trans hab
  clear hab
  clear hlen
  go_enter Try.func10, Try.ntmps10
  go_upto_region 1 with fail
  have hpw := ProF.new w 4 f s A n c
  have hWs : (((w.alloc (.cells #[.int .i64 4, .int .i64 f, .int .i64 s, .slice A n c] 34)).alloc (.cells #[.slice none 0 0, .int .i64 0, .int .i64 0, .int .i64 0, .int .i64 0, .slice none 0 0, .bool false, .bool false, .bool false] 28)).alloc (.cells #[.bool false, .bool false, .int .i64 0] 30)).heap.size = w.heap.size + 3 := by simp
  generalize (((w.alloc (.cells #[.int .i64 4, .int .i64 f, .int .i64 s, .slice A n c] 34)).alloc (.cells #[.slice none 0 0, .int .i64 0, .int .i64 0, .int .i64 0, .int .i64 0, .slice none 0 0, .bool false, .bool false, .bool false] 28)).alloc (.cells #[.bool false, .bool false, .int .i64 0] 30)) = W at hpw hWs ⊢
  have hpx := hpw.on ((Below.refl W.heap.size W).alloc (Nat.le_refl _) (.cells #[.slice none 0 0, .int .i64 0, .int .i64 0, .int .i64 0, .int .i64 0, .slice none 0 0, .bool false, .bool false, .bool false] 28))
  have hpb : Blk (W.alloc (.cells #[.slice none 0 0, .int .i64 0, .int .i64 0, .int .i64 0, .int .i64 0, .slice none 0 0, .bool false, .bool false, .bool false] 28)) (w.heap.size + 3) 28 #[.slice none 0 0, .int .i64 0, .int .i64 0, .int .i64 0, .int .i64 0, .slice none 0 0, .bool false, .bool false, .bool false] := by rw [← hWs]; exact Blk.new W _ _
  go_upto_region 2 with fail
  generalize W.alloc (.cells #[.slice none 0 0, .int .i64 0, .int .i64 0, .int .i64 0, .int .i64 0, .slice none 0 0, .bool false, .bool false, .bool false] 28) = X at hpx hpb ⊢
  clear hpw hWs
  obtain ⟨d0, d1, d2, d3⟩ := hpx.cells
  obtain ⟨p0, p1, p2, p3, p4, p5, p6, p7, p8, pf0, pf1, pf5⟩ := blk9 hpb
  have pf2 := hpb.frozen 2
  have pf3 := hpb.frozen 3
  have pf4 := hpb.frozen 4
  have pf7 := hpb.frozen 7
  have pf8 := hpb.frozen 8
  obtain ⟨k0, k1, k2, k3, k4, k5, k6, k7, k8, m0, m1, m2, f0, f1, f2, f3, f4, f5, f6, f7, f8, g0, g1, g2⟩ := hpx.pro.cells
  have HPX := hid (hpx.on ((Below.refl X.heap.size X).drew))
  have HBX := hid (show Blk X.drew (w.heap.size + 3) 28 #[.slice none 0 0, .int .i64 0, .int .i64 0, .int .i64 0, .int .i64 0, .slice none 0 0, .bool false, .bool false, .bool false] from hpb)
  have HB := hid (H.out.below (hpx.on ((Below.refl X.heap.size X).drew)).pro.below_)
  clear hpx hpb
  have HPS := hid (show ProF w (X.setCell ⟨w.heap.size + 3, 7, none⟩ (.bool ab)).drew 4 f s A n c from HPX.out.turn (set3 7 (.bool ab)))
  have HBS := hid (show Blk (X.setCell ⟨w.heap.size + 3, 7, none⟩ (.bool ab)).drew (w.heap.size + 3) 28 #[.slice none 0 0, .int .i64 0, .int .i64 0, .int .i64 0, .int .i64 0, .slice none 0 0, .bool false, .bool ab, .bool false] from HBX.out.set_ 7 _)
  (refine wp_mix ?_ ?_ ?_; (focus kernel_rfl); (focus kernel_rfl); intro KK hKK; go_wp2_with (first
        | ((go_at_call 26; go_must (refine (rfault_any 1 true _).mono ?_; unfold ft; rintro e w1 ⟨rfl, hb1⟩; have hP := HPS.out.pro.on hb1; have HP := hid hP; clear hb1; obtain ⟨k0, k1, k2, k3, k4, k5, k6, k7, k8, m0, m1, m2, f0, f1, f2, f3, f4, f5, f6, f7, f8, g0, g1, g2⟩ := hP.cells; clear hP)))
        | (with_reducible refine mix_nil ?_)
        | ((with_reducible refine mix_on ?_ ?_); (focus rfl); intro K hK; go_simp; (first | ((with_reducible refine hK _ _ ?_); clear hK K) | skip))
        | ((with_reducible refine mix_off ?_ ?_); (focus rfl); intro K hK; go_simp; (first | ((with_reducible refine hK _ _ ?_); clear hK K) | skip))
        | ((with_reducible refine mix_step ?_); intro K hK; go_simp; (first | ((with_reducible refine hK _ _ ?_); clear hK K) | skip))))
  refine part_end Try.results10 rfl rfl HP.out.p rfl HP.out.q rfl (by omega) ?_
  intro w' ht
  rw [HU.out]
  exact PartPost.plain rfl rfl (HP.out.fin ht)
end Go.Proofs.Ytdiahjeplaegnaa
