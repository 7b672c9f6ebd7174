/- The reference's Read, a theorem a kind. Conditions: at most 2^40 bytes. -/
import Derived.Test.YtdiahjeplaegnaaPartPad
import Derived.Test.YtdiahjeplaegnaaVal
namespace Go.Proofs.Ytdiahjeplaegnaa
open Go.RowKit
attribute [local go_sem] kd kdS
attribute [local go_sem ↓] sliced_word
attribute [local go_sem] offA_zero


theorem drew_in (w : World) (p : Addr) (v : Value) : (w.setCell p v).drew = w.drew.setCell p v := rfl
theorem beI_two {l : List UInt8} (h : 2 ≤ l.length) : beI l 2 = nb l 0 * 256 + nb l 1 := by
  match l, h with
  | a :: b :: r, _ => simp [beI, nb]
theorem beI_four {l : List UInt8} (h : 4 ≤ l.length) : beI l 4 = n4 l := by
  match l, h with
  | a :: b :: c :: d :: r, _ => simp [beI, nb, n4]; omega

set_option maxHeartbeats 4000000 in
set_option maxRecDepth 100000 in
theorem rread_5 (f s : Int) (A : Option Addr) (n c : Nat) (l : List UInt8) (w : World) (h : Bs w A n l) (_hnc : n ≤ c) (_hn : n ≤ 1099511627776) :
    Calls Try.prog 10 #[.agg #[.int .i64 5, .int .i64 f, .int .i64 s, .slice A n c]] w (PartPost (readP 5 f s l) w) := by
  have hlen := h.len
  have H := hid h
  clear h
  have HU : Hid (readP 5 f s l = connP 1) := hid (by unfold readP; simp)
  clear hlen
  go_enter Try.func10, Try.ntmps10
  go_upto_region 1 with fail
  have hpw := ProF.new w 5 f s A n c
  have hWs : (((w.alloc (.cells #[.int .i64 5, .int .i64 f, .int .i64 s, .slice A n c] 34)).alloc (.cells #[.slice none 0 0, .int .i64 0, .int .i64 0, .int .i64 0, .int .i64 0, .slice none 0 0, .bool false, .bool false, .bool false] 28)).alloc (.cells #[.bool false, .bool false, .int .i64 0] 30)).heap.size = w.heap.size + 3 := by simp
  generalize (((w.alloc (.cells #[.int .i64 5, .int .i64 f, .int .i64 s, .slice A n c] 34)).alloc (.cells #[.slice none 0 0, .int .i64 0, .int .i64 0, .int .i64 0, .int .i64 0, .slice none 0 0, .bool false, .bool false, .bool false] 28)).alloc (.cells #[.bool false, .bool false, .int .i64 0] 30)) = W at hpw hWs ⊢
  have hpx := hpw.on ((Below.refl W.heap.size W).alloc (Nat.le_refl _) (.cells #[.slice none 0 0, .int .i64 0, .int .i64 0, .int .i64 0, .int .i64 0, .slice none 0 0, .bool false, .bool false, .bool false] 28))
  have hpb : Blk (W.alloc (.cells #[.slice none 0 0, .int .i64 0, .int .i64 0, .int .i64 0, .int .i64 0, .slice none 0 0, .bool false, .bool false, .bool false] 28)) (w.heap.size + 3) 28 #[.slice none 0 0, .int .i64 0, .int .i64 0, .int .i64 0, .int .i64 0, .slice none 0 0, .bool false, .bool false, .bool false] := by rw [← hWs]; exact Blk.new W _ _
  go_upto_region 2 with fail
  generalize W.alloc (.cells #[.slice none 0 0, .int .i64 0, .int .i64 0, .int .i64 0, .int .i64 0, .slice none 0 0, .bool false, .bool false, .bool false] 28) = X at hpx hpb ⊢
  clear hpw hWs
  obtain ⟨d0, d1, d2, d3⟩ := hpx.cells
  obtain ⟨p0, p1, p2, p3, p4, p5, p6, p7, p8, pf0, pf1, pf5⟩ := blk9 hpb
  have pf2 := hpb.frozen 2
  have pf3 := hpb.frozen 3
  have pf4 := hpb.frozen 4
  have pf7 := hpb.frozen 7
  have pf8 := hpb.frozen 8
  obtain ⟨k0, k1, k2, k3, k4, k5, k6, k7, k8, m0, m1, m2, f0, f1, f2, f3, f4, f5, f6, f7, f8, g0, g1, g2⟩ := hpx.pro.cells
  have HPX := hid (hpx.on ((Below.refl X.heap.size X).drew))
  have HBX := hid (show Blk X.drew (w.heap.size + 3) 28 #[.slice none 0 0, .int .i64 0, .int .i64 0, .int .i64 0, .int .i64 0, .slice none 0 0, .bool false, .bool false, .bool false] from hpb)
  have HB := hid (H.out.below (hpx.on ((Below.refl X.heap.size X).drew)).pro.below_)
  clear hpx hpb
  (refine wp_mix ?_ ?_ ?_; (focus kernel_rfl); (focus kernel_rfl); intro KK hKK; go_wp2_with (first
        | (fail)
        | (with_reducible refine mix_nil ?_)
        | ((with_reducible refine mix_on ?_ ?_); (focus rfl); intro K hK; go_simp; (first | ((with_reducible refine hK _ _ ?_); clear hK K) | skip))
        | ((with_reducible refine mix_off ?_ ?_); (focus rfl); intro K hK; go_simp; (first | ((with_reducible refine hK _ _ ?_); clear hK K) | skip))
        | ((with_reducible refine mix_step ?_); intro K hK; go_simp; (first | ((with_reducible refine hK _ _ ?_); clear hK K) | skip))))
  clear d0 d1 d2 d3 p0 p1 p2 p3 p4 p5 p6 p7 p8 pf0 pf1 pf2 pf3 pf4 pf5 pf7 pf8 k0 k1 k2 k3 k4 k5 k6 k7 k8 m0 m1 m2 f0 f1 f2 f3 f4 f5 f6 f7 f8 g0 g1 g2
  generalize X.drew = Y at HPX HBX HB ⊢
  obtain ⟨d0, d1, d2, d3⟩ := HPX.out.cells
  obtain ⟨p0, p1, p2, p3, p4, p5, p6, p7, p8, pf0, pf1, pf5⟩ := blk9 HBX.out
  obtain ⟨k0, k1, k2, k3, k4, k5, k6, k7, k8, m0, m1, m2, f0, f1, f2, f3, f4, f5, f6, f7, f8, g0, g1, g2⟩ := HPX.out.pro.cells
  have HSB := hid (show Turned [w.heap.size + 1, w.heap.size + 2] Y Y.drew from (Turned.refl _ _).drew)
  have LP : Hid (∀ w', Turned [w.heap.size + 1, w.heap.size + 2] Y w' → (Instr.loadAt 28 (.pointer (some ⟨w.heap.size + 3, 0, none⟩))).run Try.prog w' = .ok (.agg #[.slice none 0 0, .int .i64 0, .int .i64 0, .int .i64 0, .int .i64 0, .slice none 0 0, .bool false, .bool false, .bool false]) w') := hid fun w' ht => by
    have z0 := ht.cell p0 (by simp)
    have z1 := ht.cell p1 (by simp)
    have z2 := ht.cell p2 (by simp)
    have z3 := ht.cell p3 (by simp)
    have z4 := ht.cell p4 (by simp)
    have z5 := ht.cell p5 (by simp)
    have z6 := ht.cell p6 (by simp)
    have z7 := ht.cell p7 (by simp)
    have z8 := ht.cell p8 (by simp)
    clear d0 d1 d2 d3 p0 p1 p2 p3 p4 p5 p6 p7 p8 k0 k1 k2 k3 k4 k5 k6 k7 k8 m0 m1 m2
    go_simp
  clear d0 d1 d2 d3 p0 p1 p2 p3 p4 p5 p6 p7 p8 pf0 pf1 pf5 k0 k1 k2 k3 k4 k5 k6 k7 k8 m0 m1 m2 f0 f1 f2 f3 f4 f5 f6 f7 f8 g0 g1 g2
  (refine wp_mixZ (Turned [w.heap.size + 1, w.heap.size + 2] Y) rfl ?_ ?_ (HSB.out) ?_; (focus kernel_rfl); (focus kernel_rfl); intro KK hKK; simp only [List.dropLast_cons_cons, List.dropLast_singleton]; go_wp2_with (first
                                                                | (first
    | ((with_reducible refine mixS_load LP.out ?_ ?_ ?_); (focus rfl); (focus rfl))
    | (go_at_call 26; go_must (refine (rfault_any 1 true _).mono ?_; unfold ft; rintro e w1 ⟨rfl, hb1⟩; have HSB := hid (HSB.out.then hb1); have hP := (HPX.out.pro.on (Below.refl _ _).drew).on hb1; have HP := hid hP; clear hb1; obtain ⟨k0, k1, k2, k3, k4, k5, k6, k7, k8, m0, m1, m2, f0, f1, f2, f3, f4, f5, f6, f7, f8, g0, g1, g2⟩ := hP.cells; clear hP))
    | ((with_reducible refine And.intro ?_ ?_); (focus (first | (with_reducible exact HSB.out) | exact turned9 HSB.out (by simp))))
    | ((with_reducible refine mix_nil ?_); refine hKK _ _ (turned9 HSB.out (by simp)) ?_; (with_reducible refine last_on ?_ ?_); (focus rfl); intro K hK; go_simp))
                                                                | ((with_reducible refine mix_nil ?_); refine hKK _ _ (HSB.out) ?_; (with_reducible refine last_on ?_ ?_); (focus rfl); intro K hK; go_simp)
                                                                | ((with_reducible refine mixS_on ?_ ?_); (focus rfl); intro K K' hK hK'; go_simp; (first | ((with_reducible refine hK _ _ ?_); clear hK hK' K K') | ((with_reducible refine hK' _ _ ?_); clear hK hK' K K') | skip))
                                                                | ((with_reducible refine mixS_off ?_ ?_); (focus rfl); intro K hK; go_simp; (first | ((with_reducible refine hK _ _ ?_); clear hK K) | skip))
                                                                | ((with_reducible refine mixS_step ?_); intro K K' hK hK'; go_simp; (first | ((with_reducible refine hK _ _ ?_); clear hK hK' K K') | ((with_reducible refine hK' _ _ ?_); clear hK hK' K K') | skip))))
  refine part_end Try.results10 rfl rfl HP.out.p rfl HP.out.q rfl (by omega) ?_
  intro w' ht
  rw [HU.out]
  exact PartPost.plain rfl rfl (HP.out.fin ht)

set_option maxHeartbeats 4000000 in
set_option maxRecDepth 100000 in
theorem rread_2 (f s : Int) (A : Option Addr) (n c : Nat) (l : List UInt8) (w : World) (h : Bs w A n l) (_hnc : n ≤ c) (_hn : n ≤ 1099511627776) :
    Calls Try.prog 10 #[.agg #[.int .i64 2, .int .i64 f, .int .i64 s, .slice A n c]] w (PartPost (readP 2 f s l) w) := by
  have hlen := h.len
  have H := hid h
  clear h
  by_cases hs : s = 0
  · subst hs
    have HU : Hid (readP 2 f 0 l = connP 1) := hid (by unfold readP; simp)
    clear hlen
    go_enter Try.func10, Try.ntmps10
    go_upto_region 1 with fail
    have hpw := ProF.new w 2 f 0 A n c
    have hWs : (((w.alloc (.cells #[.int .i64 2, .int .i64 f, .int .i64 0, .slice A n c] 34)).alloc (.cells #[.slice none 0 0, .int .i64 0, .int .i64 0, .int .i64 0, .int .i64 0, .slice none 0 0, .bool false, .bool false, .bool false] 28)).alloc (.cells #[.bool false, .bool false, .int .i64 0] 30)).heap.size = w.heap.size + 3 := by simp
    generalize (((w.alloc (.cells #[.int .i64 2, .int .i64 f, .int .i64 0, .slice A n c] 34)).alloc (.cells #[.slice none 0 0, .int .i64 0, .int .i64 0, .int .i64 0, .int .i64 0, .slice none 0 0, .bool false, .bool false, .bool false] 28)).alloc (.cells #[.bool false, .bool false, .int .i64 0] 30)) = W at hpw hWs ⊢
    have hpx := hpw.on ((Below.refl W.heap.size W).alloc (Nat.le_refl _) (.cells #[.slice none 0 0, .int .i64 0, .int .i64 0, .int .i64 0, .int .i64 0, .slice none 0 0, .bool false, .bool false, .bool false] 28))
    have hpb : Blk (W.alloc (.cells #[.slice none 0 0, .int .i64 0, .int .i64 0, .int .i64 0, .int .i64 0, .slice none 0 0, .bool false, .bool false, .bool false] 28)) (w.heap.size + 3) 28 #[.slice none 0 0, .int .i64 0, .int .i64 0, .int .i64 0, .int .i64 0, .slice none 0 0, .bool false, .bool false, .bool false] := by rw [← hWs]; exact Blk.new W _ _
    go_upto_region 2 with fail
    generalize W.alloc (.cells #[.slice none 0 0, .int .i64 0, .int .i64 0, .int .i64 0, .int .i64 0, .slice none 0 0, .bool false, .bool false, .bool false] 28) = X at hpx hpb ⊢
    clear hpw hWs
    obtain ⟨d0, d1, d2, d3⟩ := hpx.cells
    obtain ⟨p0, p1, p2, p3, p4, p5, p6, p7, p8, pf0, pf1, pf5⟩ := blk9 hpb
    have pf2 := hpb.frozen 2
    have pf3 := hpb.frozen 3
    have pf4 := hpb.frozen 4
    have pf7 := hpb.frozen 7
    have pf8 := hpb.frozen 8
    obtain ⟨k0, k1, k2, k3, k4, k5, k6, k7, k8, m0, m1, m2, f0, f1, f2, f3, f4, f5, f6, f7, f8, g0, g1, g2⟩ := hpx.pro.cells
    have HPX := hid (hpx.on ((Below.refl X.heap.size X).drew))
    have HBX := hid (show Blk X.drew (w.heap.size + 3) 28 #[.slice none 0 0, .int .i64 0, .int .i64 0, .int .i64 0, .int .i64 0, .slice none 0 0, .bool false, .bool false, .bool false] from hpb)
    have HB := hid (H.out.below (hpx.on ((Below.refl X.heap.size X).drew)).pro.below_)
    clear hpx hpb
    (refine wp_mix ?_ ?_ ?_; (focus kernel_rfl); (focus kernel_rfl); intro KK hKK; go_wp2_with (first
          | (fail)
          | (with_reducible refine mix_nil ?_)
          | ((with_reducible refine mix_on ?_ ?_); (focus rfl); intro K hK; go_simp; (first | ((with_reducible refine hK _ _ ?_); clear hK K) | skip))
          | ((with_reducible refine mix_off ?_ ?_); (focus rfl); intro K hK; go_simp; (first | ((with_reducible refine hK _ _ ?_); clear hK K) | skip))
          | ((with_reducible refine mix_step ?_); intro K hK; go_simp; (first | ((with_reducible refine hK _ _ ?_); clear hK K) | skip))))
    clear d0 d1 d2 d3 p0 p1 p2 p3 p4 p5 p6 p7 p8 pf0 pf1 pf2 pf3 pf4 pf5 pf7 pf8 k0 k1 k2 k3 k4 k5 k6 k7 k8 m0 m1 m2 f0 f1 f2 f3 f4 f5 f6 f7 f8 g0 g1 g2
    generalize X.drew = Y at HPX HBX HB ⊢
    obtain ⟨d0, d1, d2, d3⟩ := HPX.out.cells
    obtain ⟨p0, p1, p2, p3, p4, p5, p6, p7, p8, pf0, pf1, pf5⟩ := blk9 HBX.out
    obtain ⟨k0, k1, k2, k3, k4, k5, k6, k7, k8, m0, m1, m2, f0, f1, f2, f3, f4, f5, f6, f7, f8, g0, g1, g2⟩ := HPX.out.pro.cells
    have HSB := hid (show Turned [w.heap.size + 1, w.heap.size + 2] Y Y.drew from (Turned.refl _ _).drew)
    have LP : Hid (∀ w', Turned [w.heap.size + 1, w.heap.size + 2] Y w' → (Instr.loadAt 28 (.pointer (some ⟨w.heap.size + 3, 0, none⟩))).run Try.prog w' = .ok (.agg #[.slice none 0 0, .int .i64 0, .int .i64 0, .int .i64 0, .int .i64 0, .slice none 0 0, .bool false, .bool false, .bool false]) w') := hid fun w' ht => by
      have z0 := ht.cell p0 (by simp)
      have z1 := ht.cell p1 (by simp)
      have z2 := ht.cell p2 (by simp)
      have z3 := ht.cell p3 (by simp)
      have z4 := ht.cell p4 (by simp)
      have z5 := ht.cell p5 (by simp)
      have z6 := ht.cell p6 (by simp)
      have z7 := ht.cell p7 (by simp)
      have z8 := ht.cell p8 (by simp)
      clear d0 d1 d2 d3 p0 p1 p2 p3 p4 p5 p6 p7 p8 k0 k1 k2 k3 k4 k5 k6 k7 k8 m0 m1 m2
      go_simp
    clear d0 d1 d2 d3 p0 p1 p2 p3 p4 p5 p6 p7 p8 pf0 pf1 pf5 k0 k1 k2 k3 k4 k5 k6 k7 k8 m0 m1 m2 f0 f1 f2 f3 f4 f5 f6 f7 f8 g0 g1 g2
    (refine wp_mixZ (Turned [w.heap.size + 1, w.heap.size + 2] Y) rfl ?_ ?_ (HSB.out) ?_; (focus kernel_rfl); (focus kernel_rfl); intro KK hKK; simp only [List.dropLast_cons_cons, List.dropLast_singleton]; go_wp2_with (first
                                                                  | (first
      | ((with_reducible refine mixS_load LP.out ?_ ?_ ?_); (focus rfl); (focus rfl))
      | (go_at_call 26; go_must (refine (rfault_any 1 true _).mono ?_; unfold ft; rintro e w1 ⟨rfl, hb1⟩; have HSB := hid (HSB.out.then hb1); have hP := (HPX.out.pro.on (Below.refl _ _).drew).on hb1; have HP := hid hP; clear hb1; obtain ⟨k0, k1, k2, k3, k4, k5, k6, k7, k8, m0, m1, m2, f0, f1, f2, f3, f4, f5, f6, f7, f8, g0, g1, g2⟩ := hP.cells; clear hP))
      | ((with_reducible refine And.intro ?_ ?_); (focus (first | (with_reducible exact HSB.out) | exact turned9 HSB.out (by simp))))
      | ((with_reducible refine mix_nil ?_); refine hKK _ _ (turned9 HSB.out (by simp)) ?_; (with_reducible refine last_on ?_ ?_); (focus rfl); intro K hK; go_simp))
                                                                  | ((with_reducible refine mix_nil ?_); refine hKK _ _ (HSB.out) ?_; (with_reducible refine last_on ?_ ?_); (focus rfl); intro K hK; go_simp)
                                                                  | ((with_reducible refine mixS_on ?_ ?_); (focus rfl); intro K K' hK hK'; go_simp; (first | ((with_reducible refine hK _ _ ?_); clear hK hK' K K') | ((with_reducible refine hK' _ _ ?_); clear hK hK' K K') | skip))
                                                                  | ((with_reducible refine mixS_off ?_ ?_); (focus rfl); intro K hK; go_simp; (first | ((with_reducible refine hK _ _ ?_); clear hK K) | skip))
                                                                  | ((with_reducible refine mixS_step ?_); intro K K' hK hK'; go_simp; (first | ((with_reducible refine hK _ _ ?_); clear hK hK' K K') | ((with_reducible refine hK' _ _ ?_); clear hK hK' K K') | skip))))
    refine part_end Try.results10 rfl rfl HP.out.p rfl HP.out.q rfl (by omega) ?_
    intro w' ht
    rw [HU.out]
    exact PartPost.plain rfl rfl (HP.out.fin ht)
  · by_cases h5 : n = 5
    · subst h5
      have HU : Hid (readP 2 f s l = {}) := hid (by unfold readP; simp [hs, hlen])
      have hs2 : (s != 0) = true := by simp [hs]
      clear hlen
      go_enter Try.func10, Try.ntmps10
      go_upto_region 1 with fail
      have hpw := ProF.new w 2 f s A 5 c
      have hWs : (((w.alloc (.cells #[.int .i64 2, .int .i64 f, .int .i64 s, .slice A 5 c] 34)).alloc (.cells #[.slice none 0 0, .int .i64 0, .int .i64 0, .int .i64 0, .int .i64 0, .slice none 0 0, .bool false, .bool false, .bool false] 28)).alloc (.cells #[.bool false, .bool false, .int .i64 0] 30)).heap.size = w.heap.size + 3 := by simp
      generalize (((w.alloc (.cells #[.int .i64 2, .int .i64 f, .int .i64 s, .slice A 5 c] 34)).alloc (.cells #[.slice none 0 0, .int .i64 0, .int .i64 0, .int .i64 0, .int .i64 0, .slice none 0 0, .bool false, .bool false, .bool false] 28)).alloc (.cells #[.bool false, .bool false, .int .i64 0] 30)) = W at hpw hWs ⊢
      have hpx := hpw.on ((Below.refl W.heap.size W).alloc (Nat.le_refl _) (.cells #[.slice none 0 0, .int .i64 0, .int .i64 0, .int .i64 0, .int .i64 0, .slice none 0 0, .bool false, .bool false, .bool false] 28))
      have hpb : Blk (W.alloc (.cells #[.slice none 0 0, .int .i64 0, .int .i64 0, .int .i64 0, .int .i64 0, .slice none 0 0, .bool false, .bool false, .bool false] 28)) (w.heap.size + 3) 28 #[.slice none 0 0, .int .i64 0, .int .i64 0, .int .i64 0, .int .i64 0, .slice none 0 0, .bool false, .bool false, .bool false] := by rw [← hWs]; exact Blk.new W _ _
      go_upto_region 2 with fail
      generalize W.alloc (.cells #[.slice none 0 0, .int .i64 0, .int .i64 0, .int .i64 0, .int .i64 0, .slice none 0 0, .bool false, .bool false, .bool false] 28) = X at hpx hpb ⊢
      clear hpw hWs
      obtain ⟨d0, d1, d2, d3⟩ := hpx.cells
      obtain ⟨p0, p1, p2, p3, p4, p5, p6, p7, p8, pf0, pf1, pf5⟩ := blk9 hpb
      have pf2 := hpb.frozen 2
      have pf3 := hpb.frozen 3
      have pf4 := hpb.frozen 4
      have pf7 := hpb.frozen 7
      have pf8 := hpb.frozen 8
      obtain ⟨k0, k1, k2, k3, k4, k5, k6, k7, k8, m0, m1, m2, f0, f1, f2, f3, f4, f5, f6, f7, f8, g0, g1, g2⟩ := hpx.pro.cells
      have HPX := hid (hpx.on ((Below.refl X.heap.size X).drew))
      have HBX := hid (show Blk X.drew (w.heap.size + 3) 28 #[.slice none 0 0, .int .i64 0, .int .i64 0, .int .i64 0, .int .i64 0, .slice none 0 0, .bool false, .bool false, .bool false] from hpb)
      have HB := hid (H.out.below (hpx.on ((Below.refl X.heap.size X).drew)).pro.below_)
      clear hpx hpb
      (refine wp_mix ?_ ?_ ?_; (focus kernel_rfl); (focus kernel_rfl); intro KK hKK; go_wp2_with (first
            | (fail)
            | (with_reducible refine mix_nil ?_)
            | ((with_reducible refine mix_on ?_ ?_); (focus rfl); intro K hK; go_simp; (first | ((with_reducible refine hK _ _ ?_); clear hK K) | skip))
            | ((with_reducible refine mix_off ?_ ?_); (focus rfl); intro K hK; go_simp; (first | ((with_reducible refine hK _ _ ?_); clear hK K) | skip))
            | ((with_reducible refine mix_step ?_); intro K hK; go_simp; (first | ((with_reducible refine hK _ _ ?_); clear hK K) | skip))))
      simp only [drew_in]
      refine part_end Try.results10 rfl rfl HPX.out.pro.p rfl HPX.out.pro.q rfl (by omega) ?_
      intro w' ht
      rw [HU.out]
      exact PartPost.plain rfl rfl (HPX.out.pro.fin ht)
    · have HU : Hid (readP 2 f s l = streamP 6) := hid (by unfold readP; simp [hs, hlen, h5])
      have hs2 : (s != 0) = true := by simp [hs]
      have h5' : ((n : Int) != 5) = true := by simp; omega
      clear hlen
      go_enter Try.func10, Try.ntmps10
      go_upto_region 1 with fail
      have hpw := ProF.new w 2 f s A n c
      have hWs : (((w.alloc (.cells #[.int .i64 2, .int .i64 f, .int .i64 s, .slice A n c] 34)).alloc (.cells #[.slice none 0 0, .int .i64 0, .int .i64 0, .int .i64 0, .int .i64 0, .slice none 0 0, .bool false, .bool false, .bool false] 28)).alloc (.cells #[.bool false, .bool false, .int .i64 0] 30)).heap.size = w.heap.size + 3 := by simp
      generalize (((w.alloc (.cells #[.int .i64 2, .int .i64 f, .int .i64 s, .slice A n c] 34)).alloc (.cells #[.slice none 0 0, .int .i64 0, .int .i64 0, .int .i64 0, .int .i64 0, .slice none 0 0, .bool false, .bool false, .bool false] 28)).alloc (.cells #[.bool false, .bool false, .int .i64 0] 30)) = W at hpw hWs ⊢
      have hpx := hpw.on ((Below.refl W.heap.size W).alloc (Nat.le_refl _) (.cells #[.slice none 0 0, .int .i64 0, .int .i64 0, .int .i64 0, .int .i64 0, .slice none 0 0, .bool false, .bool false, .bool false] 28))
      have hpb : Blk (W.alloc (.cells #[.slice none 0 0, .int .i64 0, .int .i64 0, .int .i64 0, .int .i64 0, .slice none 0 0, .bool false, .bool false, .bool false] 28)) (w.heap.size + 3) 28 #[.slice none 0 0, .int .i64 0, .int .i64 0, .int .i64 0, .int .i64 0, .slice none 0 0, .bool false, .bool false, .bool false] := by rw [← hWs]; exact Blk.new W _ _
      go_upto_region 2 with fail
      generalize W.alloc (.cells #[.slice none 0 0, .int .i64 0, .int .i64 0, .int .i64 0, .int .i64 0, .slice none 0 0, .bool false, .bool false, .bool false] 28) = X at hpx hpb ⊢
      clear hpw hWs
      obtain ⟨d0, d1, d2, d3⟩ := hpx.cells
      obtain ⟨p0, p1, p2, p3, p4, p5, p6, p7, p8, pf0, pf1, pf5⟩ := blk9 hpb
      have pf2 := hpb.frozen 2
      have pf3 := hpb.frozen 3
      have pf4 := hpb.frozen 4
      have pf7 := hpb.frozen 7
      have pf8 := hpb.frozen 8
      obtain ⟨k0, k1, k2, k3, k4, k5, k6, k7, k8, m0, m1, m2, f0, f1, f2, f3, f4, f5, f6, f7, f8, g0, g1, g2⟩ := hpx.pro.cells
      have HPX := hid (hpx.on ((Below.refl X.heap.size X).drew))
      have HBX := hid (show Blk X.drew (w.heap.size + 3) 28 #[.slice none 0 0, .int .i64 0, .int .i64 0, .int .i64 0, .int .i64 0, .slice none 0 0, .bool false, .bool false, .bool false] from hpb)
      have HB := hid (H.out.below (hpx.on ((Below.refl X.heap.size X).drew)).pro.below_)
      clear hpx hpb
      (refine wp_mix ?_ ?_ ?_; (focus kernel_rfl); (focus kernel_rfl); intro KK hKK; go_wp2_with (first
            | (fail)
            | (with_reducible refine mix_nil ?_)
            | ((with_reducible refine mix_on ?_ ?_); (focus rfl); intro K hK; go_simp; (first | ((with_reducible refine hK _ _ ?_); clear hK K) | skip))
            | ((with_reducible refine mix_off ?_ ?_); (focus rfl); intro K hK; go_simp; (first | ((with_reducible refine hK _ _ ?_); clear hK K) | skip))
            | ((with_reducible refine mix_step ?_); intro K hK; go_simp; (first | ((with_reducible refine hK _ _ ?_); clear hK K) | skip))))
      clear d0 d1 d2 d3 p0 p1 p2 p3 p4 p5 p6 p7 p8 pf0 pf1 pf2 pf3 pf4 pf5 pf7 pf8 k0 k1 k2 k3 k4 k5 k6 k7 k8 m0 m1 m2 f0 f1 f2 f3 f4 f5 f6 f7 f8 g0 g1 g2
      generalize X.drew = Y at HPX HBX HB ⊢
      obtain ⟨d0, d1, d2, d3⟩ := HPX.out.cells
      obtain ⟨p0, p1, p2, p3, p4, p5, p6, p7, p8, pf0, pf1, pf5⟩ := blk9 HBX.out
      obtain ⟨k0, k1, k2, k3, k4, k5, k6, k7, k8, m0, m1, m2, f0, f1, f2, f3, f4, f5, f6, f7, f8, g0, g1, g2⟩ := HPX.out.pro.cells
      have HSB := hid (show Turned [w.heap.size + 1, w.heap.size + 2] Y Y.drew from (Turned.refl _ _).drew)
      have LP : Hid (∀ w', Turned [w.heap.size + 1, w.heap.size + 2] Y w' → (Instr.loadAt 28 (.pointer (some ⟨w.heap.size + 3, 0, none⟩))).run Try.prog w' = .ok (.agg #[.slice none 0 0, .int .i64 0, .int .i64 0, .int .i64 0, .int .i64 0, .slice none 0 0, .bool false, .bool false, .bool false]) w') := hid fun w' ht => by
        have z0 := ht.cell p0 (by simp)
        have z1 := ht.cell p1 (by simp)
        have z2 := ht.cell p2 (by simp)
        have z3 := ht.cell p3 (by simp)
        have z4 := ht.cell p4 (by simp)
        have z5 := ht.cell p5 (by simp)
        have z6 := ht.cell p6 (by simp)
        have z7 := ht.cell p7 (by simp)
        have z8 := ht.cell p8 (by simp)
        clear d0 d1 d2 d3 p0 p1 p2 p3 p4 p5 p6 p7 p8 k0 k1 k2 k3 k4 k5 k6 k7 k8 m0 m1 m2
        go_simp
      clear d0 d1 d2 d3 p0 p1 p2 p3 p4 p5 p6 p7 p8 pf0 pf1 pf5 k0 k1 k2 k3 k4 k5 k6 k7 k8 m0 m1 m2 f0 f1 f2 f3 f4 f5 f6 f7 f8 g0 g1 g2
      (refine wp_mixZ (Turned [w.heap.size + 1, w.heap.size + 2] Y) rfl ?_ ?_ (HSB.out) ?_; (focus kernel_rfl); (focus kernel_rfl); intro KK hKK; simp only [List.dropLast_cons_cons, List.dropLast_singleton]; go_wp2_with (first
                                                                    | (first
        | ((with_reducible refine mixS_load LP.out ?_ ?_ ?_); (focus rfl); (focus rfl))
        | (go_at_call 26; go_must (refine (rfault_any 6 false _).mono ?_; unfold ft; rintro e w1 ⟨rfl, hb1⟩; have HSB := hid (HSB.out.then hb1); have hP := (HPX.out.pro.on (Below.refl _ _).drew).on hb1; have HP := hid hP; clear hb1; obtain ⟨k0, k1, k2, k3, k4, k5, k6, k7, k8, m0, m1, m2, f0, f1, f2, f3, f4, f5, f6, f7, f8, g0, g1, g2⟩ := hP.cells; clear hP))
        | ((with_reducible refine And.intro ?_ ?_); (focus (first | (with_reducible exact HSB.out) | exact turned9 HSB.out (by simp))))
        | ((with_reducible refine mix_nil ?_); refine hKK _ _ (turned9 HSB.out (by simp)) ?_; (with_reducible refine last_on ?_ ?_); (focus rfl); intro K hK; go_simp))
                                                                    | ((with_reducible refine mix_nil ?_); refine hKK _ _ (HSB.out) ?_; (with_reducible refine last_on ?_ ?_); (focus rfl); intro K hK; go_simp)
                                                                    | ((with_reducible refine mixS_on ?_ ?_); (focus rfl); intro K K' hK hK'; go_simp; (first | ((with_reducible refine hK _ _ ?_); clear hK hK' K K') | ((with_reducible refine hK' _ _ ?_); clear hK hK' K K') | skip))
                                                                    | ((with_reducible refine mixS_off ?_ ?_); (focus rfl); intro K hK; go_simp; (first | ((with_reducible refine hK _ _ ?_); clear hK K) | skip))
                                                                    | ((with_reducible refine mixS_step ?_); intro K K' hK hK'; go_simp; (first | ((with_reducible refine hK _ _ ?_); clear hK hK' K K') | ((with_reducible refine hK' _ _ ?_); clear hK hK' K K') | skip))))
      refine part_end Try.results10 rfl rfl HP.out.p rfl HP.out.q rfl (by omega) ?_
      intro w' ht
      rw [HU.out]
      exact PartPost.plain rfl rfl (HP.out.fin ht)

set_option maxHeartbeats 4000000 in
set_option maxRecDepth 100000 in
theorem rread_3 (f s : Int) (A : Option Addr) (n c : Nat) (l : List UInt8) (w : World) (h : Bs w A n l) (_hnc : n ≤ c) (_hn : n ≤ 1099511627776) :
    Calls Try.prog 10 #[.agg #[.int .i64 3, .int .i64 f, .int .i64 s, .slice A n c]] w (PartPost (readP 3 f s l) w) := by
  have hlen := h.len
  have H := hid h
  clear h
  by_cases hs : s = 0
  · subst hs
    have HU : Hid (readP 3 f 0 l = connP 1) := hid (by unfold readP; simp)
    clear hlen
    go_enter Try.func10, Try.ntmps10
    go_upto_region 1 with fail
    have hpw := ProF.new w 3 f 0 A n c
    have hWs : (((w.alloc (.cells #[.int .i64 3, .int .i64 f, .int .i64 0, .slice A n c] 34)).alloc (.cells #[.slice none 0 0, .int .i64 0, .int .i64 0, .int .i64 0, .int .i64 0, .slice none 0 0, .bool false, .bool false, .bool false] 28)).alloc (.cells #[.bool false, .bool false, .int .i64 0] 30)).heap.size = w.heap.size + 3 := by simp
    generalize (((w.alloc (.cells #[.int .i64 3, .int .i64 f, .int .i64 0, .slice A n c] 34)).alloc (.cells #[.slice none 0 0, .int .i64 0, .int .i64 0, .int .i64 0, .int .i64 0, .slice none 0 0, .bool false, .bool false, .bool false] 28)).alloc (.cells #[.bool false, .bool false, .int .i64 0] 30)) = W at hpw hWs ⊢
    have hpx := hpw.on ((Below.refl W.heap.size W).alloc (Nat.le_refl _) (.cells #[.slice none 0 0, .int .i64 0, .int .i64 0, .int .i64 0, .int .i64 0, .slice none 0 0, .bool false, .bool false, .bool false] 28))
    have hpb : Blk (W.alloc (.cells #[.slice none 0 0, .int .i64 0, .int .i64 0, .int .i64 0, .int .i64 0, .slice none 0 0, .bool false, .bool false, .bool false] 28)) (w.heap.size + 3) 28 #[.slice none 0 0, .int .i64 0, .int .i64 0, .int .i64 0, .int .i64 0, .slice none 0 0, .bool false, .bool false, .bool false] := by rw [← hWs]; exact Blk.new W _ _
    go_upto_region 2 with fail
    generalize W.alloc (.cells #[.slice none 0 0, .int .i64 0, .int .i64 0, .int .i64 0, .int .i64 0, .slice none 0 0, .bool false, .bool false, .bool false] 28) = X at hpx hpb ⊢
    clear hpw hWs
    obtain ⟨d0, d1, d2, d3⟩ := hpx.cells
    obtain ⟨p0, p1, p2, p3, p4, p5, p6, p7, p8, pf0, pf1, pf5⟩ := blk9 hpb
    have pf2 := hpb.frozen 2
    have pf3 := hpb.frozen 3
    have pf4 := hpb.frozen 4
    have pf7 := hpb.frozen 7
    have pf8 := hpb.frozen 8
    obtain ⟨k0, k1, k2, k3, k4, k5, k6, k7, k8, m0, m1, m2, f0, f1, f2, f3, f4, f5, f6, f7, f8, g0, g1, g2⟩ := hpx.pro.cells
    have HPX := hid (hpx.on ((Below.refl X.heap.size X).drew))
    have HBX := hid (show Blk X.drew (w.heap.size + 3) 28 #[.slice none 0 0, .int .i64 0, .int .i64 0, .int .i64 0, .int .i64 0, .slice none 0 0, .bool false, .bool false, .bool false] from hpb)
    have HB := hid (H.out.below (hpx.on ((Below.refl X.heap.size X).drew)).pro.below_)
    clear hpx hpb
    (refine wp_mix ?_ ?_ ?_; (focus kernel_rfl); (focus kernel_rfl); intro KK hKK; go_wp2_with (first
          | (fail)
          | (with_reducible refine mix_nil ?_)
          | ((with_reducible refine mix_on ?_ ?_); (focus rfl); intro K hK; go_simp; (first | ((with_reducible refine hK _ _ ?_); clear hK K) | skip))
          | ((with_reducible refine mix_off ?_ ?_); (focus rfl); intro K hK; go_simp; (first | ((with_reducible refine hK _ _ ?_); clear hK K) | skip))
          | ((with_reducible refine mix_step ?_); intro K hK; go_simp; (first | ((with_reducible refine hK _ _ ?_); clear hK K) | skip))))
    clear d0 d1 d2 d3 p0 p1 p2 p3 p4 p5 p6 p7 p8 pf0 pf1 pf2 pf3 pf4 pf5 pf7 pf8 k0 k1 k2 k3 k4 k5 k6 k7 k8 m0 m1 m2 f0 f1 f2 f3 f4 f5 f6 f7 f8 g0 g1 g2
    generalize X.drew = Y at HPX HBX HB ⊢
    obtain ⟨d0, d1, d2, d3⟩ := HPX.out.cells
    obtain ⟨p0, p1, p2, p3, p4, p5, p6, p7, p8, pf0, pf1, pf5⟩ := blk9 HBX.out
    obtain ⟨k0, k1, k2, k3, k4, k5, k6, k7, k8, m0, m1, m2, f0, f1, f2, f3, f4, f5, f6, f7, f8, g0, g1, g2⟩ := HPX.out.pro.cells
    have HSB := hid (show Turned [w.heap.size + 1, w.heap.size + 2] Y Y.drew from (Turned.refl _ _).drew)
    have LP : Hid (∀ w', Turned [w.heap.size + 1, w.heap.size + 2] Y w' → (Instr.loadAt 28 (.pointer (some ⟨w.heap.size + 3, 0, none⟩))).run Try.prog w' = .ok (.agg #[.slice none 0 0, .int .i64 0, .int .i64 0, .int .i64 0, .int .i64 0, .slice none 0 0, .bool false, .bool false, .bool false]) w') := hid fun w' ht => by
      have z0 := ht.cell p0 (by simp)
      have z1 := ht.cell p1 (by simp)
      have z2 := ht.cell p2 (by simp)
      have z3 := ht.cell p3 (by simp)
      have z4 := ht.cell p4 (by simp)
      have z5 := ht.cell p5 (by simp)
      have z6 := ht.cell p6 (by simp)
      have z7 := ht.cell p7 (by simp)
      have z8 := ht.cell p8 (by simp)
      clear d0 d1 d2 d3 p0 p1 p2 p3 p4 p5 p6 p7 p8 k0 k1 k2 k3 k4 k5 k6 k7 k8 m0 m1 m2
      go_simp
    clear d0 d1 d2 d3 p0 p1 p2 p3 p4 p5 p6 p7 p8 pf0 pf1 pf5 k0 k1 k2 k3 k4 k5 k6 k7 k8 m0 m1 m2 f0 f1 f2 f3 f4 f5 f6 f7 f8 g0 g1 g2
    (refine wp_mixZ (Turned [w.heap.size + 1, w.heap.size + 2] Y) rfl ?_ ?_ (HSB.out) ?_; (focus kernel_rfl); (focus kernel_rfl); intro KK hKK; simp only [List.dropLast_cons_cons, List.dropLast_singleton]; go_wp2_with (first
                                                                  | (first
      | ((with_reducible refine mixS_load LP.out ?_ ?_ ?_); (focus rfl); (focus rfl))
      | (go_at_call 26; go_must (refine (rfault_any 1 true _).mono ?_; unfold ft; rintro e w1 ⟨rfl, hb1⟩; have HSB := hid (HSB.out.then hb1); have hP := (HPX.out.pro.on (Below.refl _ _).drew).on hb1; have HP := hid hP; clear hb1; obtain ⟨k0, k1, k2, k3, k4, k5, k6, k7, k8, m0, m1, m2, f0, f1, f2, f3, f4, f5, f6, f7, f8, g0, g1, g2⟩ := hP.cells; clear hP))
      | ((with_reducible refine And.intro ?_ ?_); (focus (first | (with_reducible exact HSB.out) | exact turned9 HSB.out (by simp))))
      | ((with_reducible refine mix_nil ?_); refine hKK _ _ (turned9 HSB.out (by simp)) ?_; (with_reducible refine last_on ?_ ?_); (focus rfl); intro K hK; go_simp))
                                                                  | ((with_reducible refine mix_nil ?_); refine hKK _ _ (HSB.out) ?_; (with_reducible refine last_on ?_ ?_); (focus rfl); intro K hK; go_simp)
                                                                  | ((with_reducible refine mixS_on ?_ ?_); (focus rfl); intro K K' hK hK'; go_simp; (first | ((with_reducible refine hK _ _ ?_); clear hK hK' K K') | ((with_reducible refine hK' _ _ ?_); clear hK hK' K K') | skip))
                                                                  | ((with_reducible refine mixS_off ?_ ?_); (focus rfl); intro K hK; go_simp; (first | ((with_reducible refine hK _ _ ?_); clear hK K) | skip))
                                                                  | ((with_reducible refine mixS_step ?_); intro K K' hK hK'; go_simp; (first | ((with_reducible refine hK _ _ ?_); clear hK hK' K K') | ((with_reducible refine hK' _ _ ?_); clear hK hK' K K') | skip))))
    refine part_end Try.results10 rfl rfl HP.out.p rfl HP.out.q rfl (by omega) ?_
    intro w' ht
    rw [HU.out]
    exact PartPost.plain rfl rfl (HP.out.fin ht)
  · by_cases h4 : n = 4
    · subst h4
      have HN4 := hid (beI_four (l := l) (by omega))
      have HU : Hid (readP 3 f s l = { code := n4 l }) := hid (by unfold readP; simp [hs, hlen])
      have hs2 : (s != 0) = true := by simp [hs]
      clear hlen
      go_enter Try.func10, Try.ntmps10
      go_upto_region 1 with fail
      have hpw := ProF.new w 3 f s A 4 c
      have hWs : (((w.alloc (.cells #[.int .i64 3, .int .i64 f, .int .i64 s, .slice A 4 c] 34)).alloc (.cells #[.slice none 0 0, .int .i64 0, .int .i64 0, .int .i64 0, .int .i64 0, .slice none 0 0, .bool false, .bool false, .bool false] 28)).alloc (.cells #[.bool false, .bool false, .int .i64 0] 30)).heap.size = w.heap.size + 3 := by simp
      generalize (((w.alloc (.cells #[.int .i64 3, .int .i64 f, .int .i64 s, .slice A 4 c] 34)).alloc (.cells #[.slice none 0 0, .int .i64 0, .int .i64 0, .int .i64 0, .int .i64 0, .slice none 0 0, .bool false, .bool false, .bool false] 28)).alloc (.cells #[.bool false, .bool false, .int .i64 0] 30)) = W at hpw hWs ⊢
      have hpx := hpw.on ((Below.refl W.heap.size W).alloc (Nat.le_refl _) (.cells #[.slice none 0 0, .int .i64 0, .int .i64 0, .int .i64 0, .int .i64 0, .slice none 0 0, .bool false, .bool false, .bool false] 28))
      have hpb : Blk (W.alloc (.cells #[.slice none 0 0, .int .i64 0, .int .i64 0, .int .i64 0, .int .i64 0, .slice none 0 0, .bool false, .bool false, .bool false] 28)) (w.heap.size + 3) 28 #[.slice none 0 0, .int .i64 0, .int .i64 0, .int .i64 0, .int .i64 0, .slice none 0 0, .bool false, .bool false, .bool false] := by rw [← hWs]; exact Blk.new W _ _
      go_upto_region 2 with fail
      generalize W.alloc (.cells #[.slice none 0 0, .int .i64 0, .int .i64 0, .int .i64 0, .int .i64 0, .slice none 0 0, .bool false, .bool false, .bool false] 28) = X at hpx hpb ⊢
      clear hpw hWs
      obtain ⟨d0, d1, d2, d3⟩ := hpx.cells
      obtain ⟨p0, p1, p2, p3, p4, p5, p6, p7, p8, pf0, pf1, pf5⟩ := blk9 hpb
      have pf2 := hpb.frozen 2
      have pf3 := hpb.frozen 3
      have pf4 := hpb.frozen 4
      have pf7 := hpb.frozen 7
      have pf8 := hpb.frozen 8
      obtain ⟨k0, k1, k2, k3, k4, k5, k6, k7, k8, m0, m1, m2, f0, f1, f2, f3, f4, f5, f6, f7, f8, g0, g1, g2⟩ := hpx.pro.cells
      have HPX := hid (hpx.on ((Below.refl X.heap.size X).drew))
      have HBX := hid (show Blk X.drew (w.heap.size + 3) 28 #[.slice none 0 0, .int .i64 0, .int .i64 0, .int .i64 0, .int .i64 0, .slice none 0 0, .bool false, .bool false, .bool false] from hpb)
      have HB := hid (H.out.below (hpx.on ((Below.refl X.heap.size X).drew)).pro.below_)
      clear hpx hpb
      (refine wp_mix ?_ ?_ ?_; (focus kernel_rfl); (focus kernel_rfl); intro KK hKK; go_wp2_with (first
            | ((go_at_call 27; go_must (refine (val_any A 4 c l _ HB.out (by omega)).mono ?_; rw [HN4.out]; rintro e w2 ⟨rfl, rfl⟩)))
            | (with_reducible refine mix_nil ?_)
            | ((with_reducible refine mix_on ?_ ?_); (focus rfl); intro K hK; go_simp; (first | ((with_reducible refine hK _ _ ?_); clear hK K) | skip))
            | ((with_reducible refine mix_off ?_ ?_); (focus rfl); intro K hK; go_simp; (first | ((with_reducible refine hK _ _ ?_); clear hK K) | skip))
            | ((with_reducible refine mix_step ?_); intro K hK; go_simp; (first | ((with_reducible refine hK _ _ ?_); clear hK K) | skip))))
      simp only [drew_in]
      refine part_end Try.results10 rfl rfl (HPX.out.turn (set3 2 _)).pro.p rfl (HPX.out.turn (set3 2 _)).pro.q rfl (by omega) ?_
      intro w' ht
      rw [HU.out]
      exact PartPost.plain rfl rfl ((HPX.out.turn (set3 2 _)).pro.fin ht)
    · have HU : Hid (readP 3 f s l = connP 6) := hid (by unfold readP; simp [hs, hlen, h4])
      have hs2 : (s != 0) = true := by simp [hs]
      have h4' : ((n : Int) != 4) = true := by simp; omega
      clear hlen
      go_enter Try.func10, Try.ntmps10
      go_upto_region 1 with fail
      have hpw := ProF.new w 3 f s A n c
      have hWs : (((w.alloc (.cells #[.int .i64 3, .int .i64 f, .int .i64 s, .slice A n c] 34)).alloc (.cells #[.slice none 0 0, .int .i64 0, .int .i64 0, .int .i64 0, .int .i64 0, .slice none 0 0, .bool false, .bool false, .bool false] 28)).alloc (.cells #[.bool false, .bool false, .int .i64 0] 30)).heap.size = w.heap.size + 3 := by simp
      generalize (((w.alloc (.cells #[.int .i64 3, .int .i64 f, .int .i64 s, .slice A n c] 34)).alloc (.cells #[.slice none 0 0, .int .i64 0, .int .i64 0, .int .i64 0, .int .i64 0, .slice none 0 0, .bool false, .bool false, .bool false] 28)).alloc (.cells #[.bool false, .bool false, .int .i64 0] 30)) = W at hpw hWs ⊢
      have hpx := hpw.on ((Below.refl W.heap.size W).alloc (Nat.le_refl _) (.cells #[.slice none 0 0, .int .i64 0, .int .i64 0, .int .i64 0, .int .i64 0, .slice none 0 0, .bool false, .bool false, .bool false] 28))
      have hpb : Blk (W.alloc (.cells #[.slice none 0 0, .int .i64 0, .int .i64 0, .int .i64 0, .int .i64 0, .slice none 0 0, .bool false, .bool false, .bool false] 28)) (w.heap.size + 3) 28 #[.slice none 0 0, .int .i64 0, .int .i64 0, .int .i64 0, .int .i64 0, .slice none 0 0, .bool false, .bool false, .bool false] := by rw [← hWs]; exact Blk.new W _ _
      go_upto_region 2 with fail
      generalize W.alloc (.cells #[.slice none 0 0, .int .i64 0, .int .i64 0, .int .i64 0, .int .i64 0, .slice none 0 0, .bool false, .bool false, .bool false] 28) = X at hpx hpb ⊢
      clear hpw hWs
      obtain ⟨d0, d1, d2, d3⟩ := hpx.cells
      obtain ⟨p0, p1, p2, p3, p4, p5, p6, p7, p8, pf0, pf1, pf5⟩ := blk9 hpb
      have pf2 := hpb.frozen 2
      have pf3 := hpb.frozen 3
      have pf4 := hpb.frozen 4
      have pf7 := hpb.frozen 7
      have pf8 := hpb.frozen 8
      obtain ⟨k0, k1, k2, k3, k4, k5, k6, k7, k8, m0, m1, m2, f0, f1, f2, f3, f4, f5, f6, f7, f8, g0, g1, g2⟩ := hpx.pro.cells
      have HPX := hid (hpx.on ((Below.refl X.heap.size X).drew))
      have HBX := hid (show Blk X.drew (w.heap.size + 3) 28 #[.slice none 0 0, .int .i64 0, .int .i64 0, .int .i64 0, .int .i64 0, .slice none 0 0, .bool false, .bool false, .bool false] from hpb)
      have HB := hid (H.out.below (hpx.on ((Below.refl X.heap.size X).drew)).pro.below_)
      clear hpx hpb
      (refine wp_mix ?_ ?_ ?_; (focus kernel_rfl); (focus kernel_rfl); intro KK hKK; go_wp2_with (first
            | (fail)
            | (with_reducible refine mix_nil ?_)
            | ((with_reducible refine mix_on ?_ ?_); (focus rfl); intro K hK; go_simp; (first | ((with_reducible refine hK _ _ ?_); clear hK K) | skip))
            | ((with_reducible refine mix_off ?_ ?_); (focus rfl); intro K hK; go_simp; (first | ((with_reducible refine hK _ _ ?_); clear hK K) | skip))
            | ((with_reducible refine mix_step ?_); intro K hK; go_simp; (first | ((with_reducible refine hK _ _ ?_); clear hK K) | skip))))
      clear d0 d1 d2 d3 p0 p1 p2 p3 p4 p5 p6 p7 p8 pf0 pf1 pf2 pf3 pf4 pf5 pf7 pf8 k0 k1 k2 k3 k4 k5 k6 k7 k8 m0 m1 m2 f0 f1 f2 f3 f4 f5 f6 f7 f8 g0 g1 g2
      generalize X.drew = Y at HPX HBX HB ⊢
      obtain ⟨d0, d1, d2, d3⟩ := HPX.out.cells
      obtain ⟨p0, p1, p2, p3, p4, p5, p6, p7, p8, pf0, pf1, pf5⟩ := blk9 HBX.out
      obtain ⟨k0, k1, k2, k3, k4, k5, k6, k7, k8, m0, m1, m2, f0, f1, f2, f3, f4, f5, f6, f7, f8, g0, g1, g2⟩ := HPX.out.pro.cells
      have HSB := hid (show Turned [w.heap.size + 1, w.heap.size + 2] Y Y.drew from (Turned.refl _ _).drew)
      have LP : Hid (∀ w', Turned [w.heap.size + 1, w.heap.size + 2] Y w' → (Instr.loadAt 28 (.pointer (some ⟨w.heap.size + 3, 0, none⟩))).run Try.prog w' = .ok (.agg #[.slice none 0 0, .int .i64 0, .int .i64 0, .int .i64 0, .int .i64 0, .slice none 0 0, .bool false, .bool false, .bool false]) w') := hid fun w' ht => by
        have z0 := ht.cell p0 (by simp)
        have z1 := ht.cell p1 (by simp)
        have z2 := ht.cell p2 (by simp)
        have z3 := ht.cell p3 (by simp)
        have z4 := ht.cell p4 (by simp)
        have z5 := ht.cell p5 (by simp)
        have z6 := ht.cell p6 (by simp)
        have z7 := ht.cell p7 (by simp)
        have z8 := ht.cell p8 (by simp)
        clear d0 d1 d2 d3 p0 p1 p2 p3 p4 p5 p6 p7 p8 k0 k1 k2 k3 k4 k5 k6 k7 k8 m0 m1 m2
        go_simp
      clear d0 d1 d2 d3 p0 p1 p2 p3 p4 p5 p6 p7 p8 pf0 pf1 pf5 k0 k1 k2 k3 k4 k5 k6 k7 k8 m0 m1 m2 f0 f1 f2 f3 f4 f5 f6 f7 f8 g0 g1 g2
      (refine wp_mixZ (Turned [w.heap.size + 1, w.heap.size + 2] Y) rfl ?_ ?_ (HSB.out) ?_; (focus kernel_rfl); (focus kernel_rfl); intro KK hKK; simp only [List.dropLast_cons_cons, List.dropLast_singleton]; go_wp2_with (first
                                                                    | (first
        | ((with_reducible refine mixS_load LP.out ?_ ?_ ?_); (focus rfl); (focus rfl))
        | (go_at_call 26; go_must (refine (rfault_any 6 true _).mono ?_; unfold ft; rintro e w1 ⟨rfl, hb1⟩; have HSB := hid (HSB.out.then hb1); have hP := (HPX.out.pro.on (Below.refl _ _).drew).on hb1; have HP := hid hP; clear hb1; obtain ⟨k0, k1, k2, k3, k4, k5, k6, k7, k8, m0, m1, m2, f0, f1, f2, f3, f4, f5, f6, f7, f8, g0, g1, g2⟩ := hP.cells; clear hP))
        | ((with_reducible refine And.intro ?_ ?_); (focus (first | (with_reducible exact HSB.out) | exact turned9 HSB.out (by simp))))
        | ((with_reducible refine mix_nil ?_); refine hKK _ _ (turned9 HSB.out (by simp)) ?_; (with_reducible refine last_on ?_ ?_); (focus rfl); intro K hK; go_simp))
                                                                    | ((with_reducible refine mix_nil ?_); refine hKK _ _ (HSB.out) ?_; (with_reducible refine last_on ?_ ?_); (focus rfl); intro K hK; go_simp)
                                                                    | ((with_reducible refine mixS_on ?_ ?_); (focus rfl); intro K K' hK hK'; go_simp; (first | ((with_reducible refine hK _ _ ?_); clear hK hK' K K') | ((with_reducible refine hK' _ _ ?_); clear hK hK' K K') | skip))
                                                                    | ((with_reducible refine mixS_off ?_ ?_); (focus rfl); intro K hK; go_simp; (first | ((with_reducible refine hK _ _ ?_); clear hK K) | skip))
                                                                    | ((with_reducible refine mixS_step ?_); intro K K' hK hK'; go_simp; (first | ((with_reducible refine hK _ _ ?_); clear hK hK' K K') | ((with_reducible refine hK' _ _ ?_); clear hK hK' K K') | skip))))
      refine part_end Try.results10 rfl rfl HP.out.p rfl HP.out.q rfl (by omega) ?_
      intro w' ht
      rw [HU.out]
      exact PartPost.plain rfl rfl (HP.out.fin ht)

set_option maxHeartbeats 4000000 in
set_option maxRecDepth 100000 in
theorem rread_6 (f s : Int) (A : Option Addr) (n c : Nat) (l : List UInt8) (w : World) (h : Bs w A n l) (_hnc : n ≤ c) (hn : n ≤ 1099511627776) :
    Calls Try.prog 10 #[.agg #[.int .i64 6, .int .i64 f, .int .i64 s, .slice A n c]] w (PartPost (readP 6 f s l) w) := by
  have hlen := h.len
  have H := hid h
  clear h
  by_cases hs : s = 0
  · subst hs
    by_cases h8 : n = 8
    · subst h8
      have HU : Hid (readP 6 f 0 l = { d := l, a := fl f 1 }) := hid (by unfold readP; simp [wholeP, hlen])
      clear hlen
      go_enter Try.func10, Try.ntmps10
      go_upto_region 1 with fail
      have hpw := ProF.new w 6 f 0 A 8 c
      have hWs : (((w.alloc (.cells #[.int .i64 6, .int .i64 f, .int .i64 0, .slice A 8 c] 34)).alloc (.cells #[.slice none 0 0, .int .i64 0, .int .i64 0, .int .i64 0, .int .i64 0, .slice none 0 0, .bool false, .bool false, .bool false] 28)).alloc (.cells #[.bool false, .bool false, .int .i64 0] 30)).heap.size = w.heap.size + 3 := by simp
      generalize (((w.alloc (.cells #[.int .i64 6, .int .i64 f, .int .i64 0, .slice A 8 c] 34)).alloc (.cells #[.slice none 0 0, .int .i64 0, .int .i64 0, .int .i64 0, .int .i64 0, .slice none 0 0, .bool false, .bool false, .bool false] 28)).alloc (.cells #[.bool false, .bool false, .int .i64 0] 30)) = W at hpw hWs ⊢
      have hpx := hpw.on ((Below.refl W.heap.size W).alloc (Nat.le_refl _) (.cells #[.slice none 0 0, .int .i64 0, .int .i64 0, .int .i64 0, .int .i64 0, .slice none 0 0, .bool false, .bool false, .bool false] 28))
      have hpb : Blk (W.alloc (.cells #[.slice none 0 0, .int .i64 0, .int .i64 0, .int .i64 0, .int .i64 0, .slice none 0 0, .bool false, .bool false, .bool false] 28)) (w.heap.size + 3) 28 #[.slice none 0 0, .int .i64 0, .int .i64 0, .int .i64 0, .int .i64 0, .slice none 0 0, .bool false, .bool false, .bool false] := by rw [← hWs]; exact Blk.new W _ _
      go_upto_region 2 with fail
      generalize W.alloc (.cells #[.slice none 0 0, .int .i64 0, .int .i64 0, .int .i64 0, .int .i64 0, .slice none 0 0, .bool false, .bool false, .bool false] 28) = X at hpx hpb ⊢
      clear hpw hWs
      obtain ⟨d0, d1, d2, d3⟩ := hpx.cells
      obtain ⟨p0, p1, p2, p3, p4, p5, p6, p7, p8, pf0, pf1, pf5⟩ := blk9 hpb
      have pf2 := hpb.frozen 2
      have pf3 := hpb.frozen 3
      have pf4 := hpb.frozen 4
      have pf7 := hpb.frozen 7
      have pf8 := hpb.frozen 8
      obtain ⟨k0, k1, k2, k3, k4, k5, k6, k7, k8, m0, m1, m2, f0, f1, f2, f3, f4, f5, f6, f7, f8, g0, g1, g2⟩ := hpx.pro.cells
      have HPX := hid (hpx.on ((Below.refl X.heap.size X).drew))
      have HBX := hid (show Blk X.drew (w.heap.size + 3) 28 #[.slice none 0 0, .int .i64 0, .int .i64 0, .int .i64 0, .int .i64 0, .slice none 0 0, .bool false, .bool false, .bool false] from hpb)
      have HB := hid (H.out.below (hpx.on ((Below.refl X.heap.size X).drew)).pro.below_)
      clear hpx hpb
      (refine wp_mix ?_ ?_ ?_; (focus kernel_rfl); (focus kernel_rfl); intro KK hKK; go_wp2_with (first
            | (fail)
            | (with_reducible refine mix_nil ?_)
            | ((with_reducible refine mix_on ?_ ?_); (focus rfl); intro K hK; go_simp; (first | ((with_reducible refine hK _ _ ?_); clear hK K) | skip))
            | ((with_reducible refine mix_off ?_ ?_); (focus rfl); intro K hK; go_simp; (first | ((with_reducible refine hK _ _ ?_); clear hK K) | skip))
            | ((with_reducible refine mix_step ?_); intro K hK; go_simp; (first | ((with_reducible refine hK _ _ ?_); clear hK K) | skip))))
      clear d0 d1 d2 d3 p0 p1 p2 p3 p4 p5 p6 p7 p8 pf0 pf1 pf2 pf3 pf4 pf5 pf7 pf8 k0 k1 k2 k3 k4 k5 k6 k7 k8 m0 m1 m2 f0 f1 f2 f3 f4 f5 f6 f7 f8 g0 g1 g2
      generalize X.drew = Y at HPX HBX HB ⊢
      obtain ⟨d0, d1, d2, d3⟩ := HPX.out.cells
      obtain ⟨p0, p1, p2, p3, p4, p5, p6, p7, p8, pf0, pf1, pf5⟩ := blk9 HBX.out
      obtain ⟨k0, k1, k2, k3, k4, k5, k6, k7, k8, m0, m1, m2, f0, f1, f2, f3, f4, f5, f6, f7, f8, g0, g1, g2⟩ := HPX.out.pro.cells
      have pf7 := HBX.out.frozen 7
      have pf8 := HBX.out.frozen 8
      have HSB := hid (show Turned [w.heap.size + 3] Y Y.drew from (Turned.refl _ _).drew)
      have LB : Hid (∀ w', Turned [w.heap.size + 3] Y w' → (Instr.loadAt 25 (.pointer (some ⟨w.heap.size, 3, none⟩))).run Try.prog w' = .ok (.slice A 8 c) w') := hid fun w' ht => by
        have z := ht.cell d3 (by simp)
        clear d0 d1 d2 d3 p0 p1 p2 p3 p4 p5 p6 p7 p8 k0 k1 k2 k3 k4 k5 k6 k7 k8 m0 m1 m2
        go_simp
      have LF : Hid (∀ w', Turned [w.heap.size + 3] Y w' → (Instr.loadAt 3 (.pointer (some ⟨w.heap.size, 1, none⟩))).run Try.prog w' = .ok (.int .i64 f) w') := hid fun w' ht => by
        have z := ht.cell d1 (by simp)
        clear d0 d1 d2 d3 p0 p1 p2 p3 p4 p5 p6 p7 p8 k0 k1 k2 k3 k4 k5 k6 k7 k8 m0 m1 m2
        go_simp
      have hW1 := eq1 f
      have hW4 := eq4 f
      clear d0 d1 d2 d3 p0 p1 p2 p3 p4 p5 p6 p7 p8 pf0 pf1 pf5 pf7 pf8 k0 k1 k2 k3 k4 k5 k6 k7 k8 m0 m1 m2 f0 f1 f2 f3 f4 f5 f6 f7 f8 g0 g1 g2
      (refine wp_mixZ (Turned [w.heap.size + 3] Y) rfl ?_ ?_ (HSB.out) ?_; (focus kernel_rfl); (focus kernel_rfl); intro KK hKK; simp only [List.dropLast_cons_cons, List.dropLast_singleton]; go_wp2_with (first
                                                   | (first
        | ((with_reducible refine mixS_load LB.out ?_ ?_ ?_); (focus rfl); (focus rfl))
        | ((with_reducible refine mixS_load LF.out ?_ ?_ ?_); (focus rfl); (focus rfl))
        | (go_at_call 28; go_must (refine (copy_any A 8 c l _ (HB.out.below (Below.refl _ _).drew) (by omega)).mono ?_; rintro e w1 ⟨A1, c1, rfl, ho1, hb1⟩; have HO := hid ho1; have hpv := (HPX.out.on (Below.refl _ _).drew).on hb1; have HPV := hid hpv; have hpc := (show Blk Y.drew (w.heap.size + 3) 28 #[.slice none 0 0, .int .i64 0, .int .i64 0, .int .i64 0, .int .i64 0, .slice none 0 0, .bool false, .bool false, .bool false] from HBX.out).below hb1 HBX.out.lt; obtain ⟨p0, p1, p2, p3, p4, p5, p6, p7, p8, pf0, pf1, pf5⟩ := blk9 hpc; have pf7 := hpc.frozen 7; have pf8 := hpc.frozen 8; have HSB := hid (HSB.out.then hb1); have hP := hpv.pro; obtain ⟨k0, k1, k2, k3, k4, k5, k6, k7, k8, m0, m1, m2, f0, f1, f2, f3, f4, f5, f6, f7, f8, g0, g1, g2⟩ := hP.cells; clear hP; clear hb1 ho1 hpv hpc))
        | ((with_reducible refine And.intro ?_ ?_); (focus (first | (with_reducible exact HSB.out) | (with_reducible exact HSB.out.setCell (by simp) _) | exact HSB.out.setCell (by simp) _)))
        | ((with_reducible refine mix_nil ?_); refine hKK _ _ (HSB.out.setCell (by simp) _) ?_; (with_reducible refine last_on ?_ ?_); (focus rfl); intro K hK; go_simp))
                                                   | ((with_reducible refine mix_nil ?_); refine hKK _ _ (HSB.out) ?_; (with_reducible refine last_on ?_ ?_); (focus rfl); intro K hK; go_simp)
                                                   | ((with_reducible refine mixS_on ?_ ?_); (focus rfl); intro K K' hK hK'; go_simp; (first | ((with_reducible refine hK _ _ ?_); clear hK hK' K K') | ((with_reducible refine hK' _ _ ?_); clear hK hK' K K') | skip))
                                                   | ((with_reducible refine mixS_off ?_ ?_); (focus rfl); intro K hK; go_simp; (first | ((with_reducible refine hK _ _ ?_); clear hK K) | skip))
                                                   | ((with_reducible refine mixS_step ?_); intro K K' hK hK'; go_simp; (first | ((with_reducible refine hK _ _ ?_); clear hK hK' K K') | ((with_reducible refine hK' _ _ ?_); clear hK hK' K K') | skip))))
      go_wp2_with fail
      have ht2 : Turned [w.heap.size + 3] w1 ((w1.setCell ⟨w.heap.size + 3, 0, none⟩ (.slice A1 8 c1)).setCell ⟨w.heap.size + 3, 7, none⟩ (.bool (fl f 1))) := ((Turned.refl _ _).setCell (by simp) _).setCell (by simp) _
      refine part_end Try.results10 rfl rfl (HPV.out.turn ht2).pro.p rfl (HPV.out.turn ht2).pro.q rfl (by omega) ?_
      intro w' ht
      rw [HU.out]
      have hlt := HBX.out.lt
      exact ⟨A1, 8, c1, none, 0, 0, rfl, ((Bs.of_own HO.out).turned ht2 (own_off HO.out (by simp; omega))).turned ht (own_off HO.out (by simp; omega)), Sts.nil _ _, Above.own HO.out (HPX.out.pro.below_.size), Above.none _, (HPV.out.turn ht2).pro.fin ht⟩
    · have HU : Hid (readP 6 f 0 l = connP 6) := hid (by unfold readP; simp [wholeP, hlen]; omega)
      have h8' : ((n : Int) != 8) = true := by simp; omega
      clear hlen
      go_enter Try.func10, Try.ntmps10
      go_upto_region 1 with fail
      have hpw := ProF.new w 6 f 0 A n c
      have hWs : (((w.alloc (.cells #[.int .i64 6, .int .i64 f, .int .i64 0, .slice A n c] 34)).alloc (.cells #[.slice none 0 0, .int .i64 0, .int .i64 0, .int .i64 0, .int .i64 0, .slice none 0 0, .bool false, .bool false, .bool false] 28)).alloc (.cells #[.bool false, .bool false, .int .i64 0] 30)).heap.size = w.heap.size + 3 := by simp
      generalize (((w.alloc (.cells #[.int .i64 6, .int .i64 f, .int .i64 0, .slice A n c] 34)).alloc (.cells #[.slice none 0 0, .int .i64 0, .int .i64 0, .int .i64 0, .int .i64 0, .slice none 0 0, .bool false, .bool false, .bool false] 28)).alloc (.cells #[.bool false, .bool false, .int .i64 0] 30)) = W at hpw hWs ⊢
      have hpx := hpw.on ((Below.refl W.heap.size W).alloc (Nat.le_refl _) (.cells #[.slice none 0 0, .int .i64 0, .int .i64 0, .int .i64 0, .int .i64 0, .slice none 0 0, .bool false, .bool false, .bool false] 28))
      have hpb : Blk (W.alloc (.cells #[.slice none 0 0, .int .i64 0, .int .i64 0, .int .i64 0, .int .i64 0, .slice none 0 0, .bool false, .bool false, .bool false] 28)) (w.heap.size + 3) 28 #[.slice none 0 0, .int .i64 0, .int .i64 0, .int .i64 0, .int .i64 0, .slice none 0 0, .bool false, .bool false, .bool false] := by rw [← hWs]; exact Blk.new W _ _
      go_upto_region 2 with fail
      generalize W.alloc (.cells #[.slice none 0 0, .int .i64 0, .int .i64 0, .int .i64 0, .int .i64 0, .slice none 0 0, .bool false, .bool false, .bool false] 28) = X at hpx hpb ⊢
      clear hpw hWs
      obtain ⟨d0, d1, d2, d3⟩ := hpx.cells
      obtain ⟨p0, p1, p2, p3, p4, p5, p6, p7, p8, pf0, pf1, pf5⟩ := blk9 hpb
      have pf2 := hpb.frozen 2
      have pf3 := hpb.frozen 3
      have pf4 := hpb.frozen 4
      have pf7 := hpb.frozen 7
      have pf8 := hpb.frozen 8
      obtain ⟨k0, k1, k2, k3, k4, k5, k6, k7, k8, m0, m1, m2, f0, f1, f2, f3, f4, f5, f6, f7, f8, g0, g1, g2⟩ := hpx.pro.cells
      have HPX := hid (hpx.on ((Below.refl X.heap.size X).drew))
      have HBX := hid (show Blk X.drew (w.heap.size + 3) 28 #[.slice none 0 0, .int .i64 0, .int .i64 0, .int .i64 0, .int .i64 0, .slice none 0 0, .bool false, .bool false, .bool false] from hpb)
      have HB := hid (H.out.below (hpx.on ((Below.refl X.heap.size X).drew)).pro.below_)
      clear hpx hpb
      (refine wp_mix ?_ ?_ ?_; (focus kernel_rfl); (focus kernel_rfl); intro KK hKK; go_wp2_with (first
            | (fail)
            | (with_reducible refine mix_nil ?_)
            | ((with_reducible refine mix_on ?_ ?_); (focus rfl); intro K hK; go_simp; (first | ((with_reducible refine hK _ _ ?_); clear hK K) | skip))
            | ((with_reducible refine mix_off ?_ ?_); (focus rfl); intro K hK; go_simp; (first | ((with_reducible refine hK _ _ ?_); clear hK K) | skip))
            | ((with_reducible refine mix_step ?_); intro K hK; go_simp; (first | ((with_reducible refine hK _ _ ?_); clear hK K) | skip))))
      clear d0 d1 d2 d3 p0 p1 p2 p3 p4 p5 p6 p7 p8 pf0 pf1 pf2 pf3 pf4 pf5 pf7 pf8 k0 k1 k2 k3 k4 k5 k6 k7 k8 m0 m1 m2 f0 f1 f2 f3 f4 f5 f6 f7 f8 g0 g1 g2
      generalize X.drew = Y at HPX HBX HB ⊢
      obtain ⟨d0, d1, d2, d3⟩ := HPX.out.cells
      obtain ⟨p0, p1, p2, p3, p4, p5, p6, p7, p8, pf0, pf1, pf5⟩ := blk9 HBX.out
      obtain ⟨k0, k1, k2, k3, k4, k5, k6, k7, k8, m0, m1, m2, f0, f1, f2, f3, f4, f5, f6, f7, f8, g0, g1, g2⟩ := HPX.out.pro.cells
      have HSB := hid (show Turned [w.heap.size + 1, w.heap.size + 2] Y Y.drew from (Turned.refl _ _).drew)
      have LP : Hid (∀ w', Turned [w.heap.size + 1, w.heap.size + 2] Y w' → (Instr.loadAt 28 (.pointer (some ⟨w.heap.size + 3, 0, none⟩))).run Try.prog w' = .ok (.agg #[.slice none 0 0, .int .i64 0, .int .i64 0, .int .i64 0, .int .i64 0, .slice none 0 0, .bool false, .bool false, .bool false]) w') := hid fun w' ht => by
        have z0 := ht.cell p0 (by simp)
        have z1 := ht.cell p1 (by simp)
        have z2 := ht.cell p2 (by simp)
        have z3 := ht.cell p3 (by simp)
        have z4 := ht.cell p4 (by simp)
        have z5 := ht.cell p5 (by simp)
        have z6 := ht.cell p6 (by simp)
        have z7 := ht.cell p7 (by simp)
        have z8 := ht.cell p8 (by simp)
        clear d0 d1 d2 d3 p0 p1 p2 p3 p4 p5 p6 p7 p8 k0 k1 k2 k3 k4 k5 k6 k7 k8 m0 m1 m2
        go_simp
      clear d0 d1 d2 d3 p0 p1 p2 p3 p4 p5 p6 p7 p8 pf0 pf1 pf5 k0 k1 k2 k3 k4 k5 k6 k7 k8 m0 m1 m2 f0 f1 f2 f3 f4 f5 f6 f7 f8 g0 g1 g2
      (refine wp_mixZ (Turned [w.heap.size + 1, w.heap.size + 2] Y) rfl ?_ ?_ (HSB.out) ?_; (focus kernel_rfl); (focus kernel_rfl); intro KK hKK; simp only [List.dropLast_cons_cons, List.dropLast_singleton]; go_wp2_with (first
                                                                    | (first
        | ((with_reducible refine mixS_load LP.out ?_ ?_ ?_); (focus rfl); (focus rfl))
        | (go_at_call 26; go_must (refine (rfault_any 6 true _).mono ?_; unfold ft; rintro e w1 ⟨rfl, hb1⟩; have HSB := hid (HSB.out.then hb1); have hP := (HPX.out.pro.on (Below.refl _ _).drew).on hb1; have HP := hid hP; clear hb1; obtain ⟨k0, k1, k2, k3, k4, k5, k6, k7, k8, m0, m1, m2, f0, f1, f2, f3, f4, f5, f6, f7, f8, g0, g1, g2⟩ := hP.cells; clear hP))
        | ((with_reducible refine And.intro ?_ ?_); (focus (first | (with_reducible exact HSB.out) | exact turned9 HSB.out (by simp))))
        | ((with_reducible refine mix_nil ?_); refine hKK _ _ (turned9 HSB.out (by simp)) ?_; (with_reducible refine last_on ?_ ?_); (focus rfl); intro K hK; go_simp))
                                                                    | ((with_reducible refine mix_nil ?_); refine hKK _ _ (HSB.out) ?_; (with_reducible refine last_on ?_ ?_); (focus rfl); intro K hK; go_simp)
                                                                    | ((with_reducible refine mixS_on ?_ ?_); (focus rfl); intro K K' hK hK'; go_simp; (first | ((with_reducible refine hK _ _ ?_); clear hK hK' K K') | ((with_reducible refine hK' _ _ ?_); clear hK hK' K K') | skip))
                                                                    | ((with_reducible refine mixS_off ?_ ?_); (focus rfl); intro K hK; go_simp; (first | ((with_reducible refine hK _ _ ?_); clear hK K) | skip))
                                                                    | ((with_reducible refine mixS_step ?_); intro K K' hK hK'; go_simp; (first | ((with_reducible refine hK _ _ ?_); clear hK hK' K K') | ((with_reducible refine hK' _ _ ?_); clear hK hK' K K') | skip))))
      refine part_end Try.results10 rfl rfl HP.out.p rfl HP.out.q rfl (by omega) ?_
      intro w' ht
      rw [HU.out]
      exact PartPost.plain rfl rfl (HP.out.fin ht)
  · have HU : Hid (readP 6 f s l = connP 1) := hid (by unfold readP; simp [wholeP, hs])
    have hs2 : (s != 0) = true := by simp [hs]
    clear hlen
    go_enter Try.func10, Try.ntmps10
    go_upto_region 1 with fail
    have hpw := ProF.new w 6 f s A n c
    have hWs : (((w.alloc (.cells #[.int .i64 6, .int .i64 f, .int .i64 s, .slice A n c] 34)).alloc (.cells #[.slice none 0 0, .int .i64 0, .int .i64 0, .int .i64 0, .int .i64 0, .slice none 0 0, .bool false, .bool false, .bool false] 28)).alloc (.cells #[.bool false, .bool false, .int .i64 0] 30)).heap.size = w.heap.size + 3 := by simp
    generalize (((w.alloc (.cells #[.int .i64 6, .int .i64 f, .int .i64 s, .slice A n c] 34)).alloc (.cells #[.slice none 0 0, .int .i64 0, .int .i64 0, .int .i64 0, .int .i64 0, .slice none 0 0, .bool false, .bool false, .bool false] 28)).alloc (.cells #[.bool false, .bool false, .int .i64 0] 30)) = W at hpw hWs ⊢
    have hpx := hpw.on ((Below.refl W.heap.size W).alloc (Nat.le_refl _) (.cells #[.slice none 0 0, .int .i64 0, .int .i64 0, .int .i64 0, .int .i64 0, .slice none 0 0, .bool false, .bool false, .bool false] 28))
    have hpb : Blk (W.alloc (.cells #[.slice none 0 0, .int .i64 0, .int .i64 0, .int .i64 0, .int .i64 0, .slice none 0 0, .bool false, .bool false, .bool false] 28)) (w.heap.size + 3) 28 #[.slice none 0 0, .int .i64 0, .int .i64 0, .int .i64 0, .int .i64 0, .slice none 0 0, .bool false, .bool false, .bool false] := by rw [← hWs]; exact Blk.new W _ _
    go_upto_region 2 with fail
    generalize W.alloc (.cells #[.slice none 0 0, .int .i64 0, .int .i64 0, .int .i64 0, .int .i64 0, .slice none 0 0, .bool false, .bool false, .bool false] 28) = X at hpx hpb ⊢
    clear hpw hWs
    obtain ⟨d0, d1, d2, d3⟩ := hpx.cells
    obtain ⟨p0, p1, p2, p3, p4, p5, p6, p7, p8, pf0, pf1, pf5⟩ := blk9 hpb
    have pf2 := hpb.frozen 2
    have pf3 := hpb.frozen 3
    have pf4 := hpb.frozen 4
    have pf7 := hpb.frozen 7
    have pf8 := hpb.frozen 8
    obtain ⟨k0, k1, k2, k3, k4, k5, k6, k7, k8, m0, m1, m2, f0, f1, f2, f3, f4, f5, f6, f7, f8, g0, g1, g2⟩ := hpx.pro.cells
    have HPX := hid (hpx.on ((Below.refl X.heap.size X).drew))
    have HBX := hid (show Blk X.drew (w.heap.size + 3) 28 #[.slice none 0 0, .int .i64 0, .int .i64 0, .int .i64 0, .int .i64 0, .slice none 0 0, .bool false, .bool false, .bool false] from hpb)
    have HB := hid (H.out.below (hpx.on ((Below.refl X.heap.size X).drew)).pro.below_)
    clear hpx hpb
    (refine wp_mix ?_ ?_ ?_; (focus kernel_rfl); (focus kernel_rfl); intro KK hKK; go_wp2_with (first
          | (fail)
          | (with_reducible refine mix_nil ?_)
          | ((with_reducible refine mix_on ?_ ?_); (focus rfl); intro K hK; go_simp; (first | ((with_reducible refine hK _ _ ?_); clear hK K) | skip))
          | ((with_reducible refine mix_off ?_ ?_); (focus rfl); intro K hK; go_simp; (first | ((with_reducible refine hK _ _ ?_); clear hK K) | skip))
          | ((with_reducible refine mix_step ?_); intro K hK; go_simp; (first | ((with_reducible refine hK _ _ ?_); clear hK K) | skip))))
    clear d0 d1 d2 d3 p0 p1 p2 p3 p4 p5 p6 p7 p8 pf0 pf1 pf2 pf3 pf4 pf5 pf7 pf8 k0 k1 k2 k3 k4 k5 k6 k7 k8 m0 m1 m2 f0 f1 f2 f3 f4 f5 f6 f7 f8 g0 g1 g2
    generalize X.drew = Y at HPX HBX HB ⊢
    obtain ⟨d0, d1, d2, d3⟩ := HPX.out.cells
    obtain ⟨p0, p1, p2, p3, p4, p5, p6, p7, p8, pf0, pf1, pf5⟩ := blk9 HBX.out
    obtain ⟨k0, k1, k2, k3, k4, k5, k6, k7, k8, m0, m1, m2, f0, f1, f2, f3, f4, f5, f6, f7, f8, g0, g1, g2⟩ := HPX.out.pro.cells
    have HSB := hid (show Turned [w.heap.size + 1, w.heap.size + 2] Y Y.drew from (Turned.refl _ _).drew)
    have LP : Hid (∀ w', Turned [w.heap.size + 1, w.heap.size + 2] Y w' → (Instr.loadAt 28 (.pointer (some ⟨w.heap.size + 3, 0, none⟩))).run Try.prog w' = .ok (.agg #[.slice none 0 0, .int .i64 0, .int .i64 0, .int .i64 0, .int .i64 0, .slice none 0 0, .bool false, .bool false, .bool false]) w') := hid fun w' ht => by
      have z0 := ht.cell p0 (by simp)
      have z1 := ht.cell p1 (by simp)
      have z2 := ht.cell p2 (by simp)
      have z3 := ht.cell p3 (by simp)
      have z4 := ht.cell p4 (by simp)
      have z5 := ht.cell p5 (by simp)
      have z6 := ht.cell p6 (by simp)
      have z7 := ht.cell p7 (by simp)
      have z8 := ht.cell p8 (by simp)
      clear d0 d1 d2 d3 p0 p1 p2 p3 p4 p5 p6 p7 p8 k0 k1 k2 k3 k4 k5 k6 k7 k8 m0 m1 m2
      go_simp
    clear d0 d1 d2 d3 p0 p1 p2 p3 p4 p5 p6 p7 p8 pf0 pf1 pf5 k0 k1 k2 k3 k4 k5 k6 k7 k8 m0 m1 m2 f0 f1 f2 f3 f4 f5 f6 f7 f8 g0 g1 g2
    (refine wp_mixZ (Turned [w.heap.size + 1, w.heap.size + 2] Y) rfl ?_ ?_ (HSB.out) ?_; (focus kernel_rfl); (focus kernel_rfl); intro KK hKK; simp only [List.dropLast_cons_cons, List.dropLast_singleton]; go_wp2_with (first
                                                                  | (first
      | ((with_reducible refine mixS_load LP.out ?_ ?_ ?_); (focus rfl); (focus rfl))
      | (go_at_call 26; go_must (refine (rfault_any 1 true _).mono ?_; unfold ft; rintro e w1 ⟨rfl, hb1⟩; have HSB := hid (HSB.out.then hb1); have hP := (HPX.out.pro.on (Below.refl _ _).drew).on hb1; have HP := hid hP; clear hb1; obtain ⟨k0, k1, k2, k3, k4, k5, k6, k7, k8, m0, m1, m2, f0, f1, f2, f3, f4, f5, f6, f7, f8, g0, g1, g2⟩ := hP.cells; clear hP))
      | ((with_reducible refine And.intro ?_ ?_); (focus (first | (with_reducible exact HSB.out) | exact turned9 HSB.out (by simp))))
      | ((with_reducible refine mix_nil ?_); refine hKK _ _ (turned9 HSB.out (by simp)) ?_; (with_reducible refine last_on ?_ ?_); (focus rfl); intro K hK; go_simp))
                                                                  | ((with_reducible refine mix_nil ?_); refine hKK _ _ (HSB.out) ?_; (with_reducible refine last_on ?_ ?_); (focus rfl); intro K hK; go_simp)
                                                                  | ((with_reducible refine mixS_on ?_ ?_); (focus rfl); intro K K' hK hK'; go_simp; (first | ((with_reducible refine hK _ _ ?_); clear hK hK' K K') | ((with_reducible refine hK' _ _ ?_); clear hK hK' K K') | skip))
                                                                  | ((with_reducible refine mixS_off ?_ ?_); (focus rfl); intro K hK; go_simp; (first | ((with_reducible refine hK _ _ ?_); clear hK K) | skip))
                                                                  | ((with_reducible refine mixS_step ?_); intro K K' hK hK'; go_simp; (first | ((with_reducible refine hK _ _ ?_); clear hK hK' K K') | ((with_reducible refine hK' _ _ ?_); clear hK hK' K K') | skip))))
    refine part_end Try.results10 rfl rfl HP.out.p rfl HP.out.q rfl (by omega) ?_
    intro w' ht
    rw [HU.out]
    exact PartPost.plain rfl rfl (HP.out.fin ht)

set_option maxHeartbeats 4000000 in
set_option maxRecDepth 100000 in
theorem rread_9 (f s : Int) (A : Option Addr) (n c : Nat) (l : List UInt8) (w : World) (h : Bs w A n l) (_hnc : n ≤ c) (hn : n ≤ 1099511627776) :
    Calls Try.prog 10 #[.agg #[.int .i64 9, .int .i64 f, .int .i64 s, .slice A n c]] w (PartPost (readP 9 f s l) w) := by
  have hlen := h.len
  have H := hid h
  clear h
  by_cases hs : s = 0
  · subst hs
    have HU : Hid (readP 9 f 0 l = connP 1) := hid (by unfold readP; simp)
    clear hlen
    go_enter Try.func10, Try.ntmps10
    go_upto_region 1 with fail
    have hpw := ProF.new w 9 f 0 A n c
    have hWs : (((w.alloc (.cells #[.int .i64 9, .int .i64 f, .int .i64 0, .slice A n c] 34)).alloc (.cells #[.slice none 0 0, .int .i64 0, .int .i64 0, .int .i64 0, .int .i64 0, .slice none 0 0, .bool false, .bool false, .bool false] 28)).alloc (.cells #[.bool false, .bool false, .int .i64 0] 30)).heap.size = w.heap.size + 3 := by simp
    generalize (((w.alloc (.cells #[.int .i64 9, .int .i64 f, .int .i64 0, .slice A n c] 34)).alloc (.cells #[.slice none 0 0, .int .i64 0, .int .i64 0, .int .i64 0, .int .i64 0, .slice none 0 0, .bool false, .bool false, .bool false] 28)).alloc (.cells #[.bool false, .bool false, .int .i64 0] 30)) = W at hpw hWs ⊢
    have hpx := hpw.on ((Below.refl W.heap.size W).alloc (Nat.le_refl _) (.cells #[.slice none 0 0, .int .i64 0, .int .i64 0, .int .i64 0, .int .i64 0, .slice none 0 0, .bool false, .bool false, .bool false] 28))
    have hpb : Blk (W.alloc (.cells #[.slice none 0 0, .int .i64 0, .int .i64 0, .int .i64 0, .int .i64 0, .slice none 0 0, .bool false, .bool false, .bool false] 28)) (w.heap.size + 3) 28 #[.slice none 0 0, .int .i64 0, .int .i64 0, .int .i64 0, .int .i64 0, .slice none 0 0, .bool false, .bool false, .bool false] := by rw [← hWs]; exact Blk.new W _ _
    go_upto_region 2 with fail
    generalize W.alloc (.cells #[.slice none 0 0, .int .i64 0, .int .i64 0, .int .i64 0, .int .i64 0, .slice none 0 0, .bool false, .bool false, .bool false] 28) = X at hpx hpb ⊢
    clear hpw hWs
    obtain ⟨d0, d1, d2, d3⟩ := hpx.cells
    obtain ⟨p0, p1, p2, p3, p4, p5, p6, p7, p8, pf0, pf1, pf5⟩ := blk9 hpb
    have pf2 := hpb.frozen 2
    have pf3 := hpb.frozen 3
    have pf4 := hpb.frozen 4
    have pf7 := hpb.frozen 7
    have pf8 := hpb.frozen 8
    obtain ⟨k0, k1, k2, k3, k4, k5, k6, k7, k8, m0, m1, m2, f0, f1, f2, f3, f4, f5, f6, f7, f8, g0, g1, g2⟩ := hpx.pro.cells
    have HPX := hid (hpx.on ((Below.refl X.heap.size X).drew))
    have HBX := hid (show Blk X.drew (w.heap.size + 3) 28 #[.slice none 0 0, .int .i64 0, .int .i64 0, .int .i64 0, .int .i64 0, .slice none 0 0, .bool false, .bool false, .bool false] from hpb)
    have HB := hid (H.out.below (hpx.on ((Below.refl X.heap.size X).drew)).pro.below_)
    clear hpx hpb
    (refine wp_mix ?_ ?_ ?_; (focus kernel_rfl); (focus kernel_rfl); intro KK hKK; go_wp2_with (first
          | (fail)
          | (with_reducible refine mix_nil ?_)
          | ((with_reducible refine mix_on ?_ ?_); (focus rfl); intro K hK; go_simp; (first | ((with_reducible refine hK _ _ ?_); clear hK K) | skip))
          | ((with_reducible refine mix_off ?_ ?_); (focus rfl); intro K hK; go_simp; (first | ((with_reducible refine hK _ _ ?_); clear hK K) | skip))
          | ((with_reducible refine mix_step ?_); intro K hK; go_simp; (first | ((with_reducible refine hK _ _ ?_); clear hK K) | skip))))
    clear d0 d1 d2 d3 p0 p1 p2 p3 p4 p5 p6 p7 p8 pf0 pf1 pf2 pf3 pf4 pf5 pf7 pf8 k0 k1 k2 k3 k4 k5 k6 k7 k8 m0 m1 m2 f0 f1 f2 f3 f4 f5 f6 f7 f8 g0 g1 g2
    generalize X.drew = Y at HPX HBX HB ⊢
    obtain ⟨d0, d1, d2, d3⟩ := HPX.out.cells
    obtain ⟨p0, p1, p2, p3, p4, p5, p6, p7, p8, pf0, pf1, pf5⟩ := blk9 HBX.out
    obtain ⟨k0, k1, k2, k3, k4, k5, k6, k7, k8, m0, m1, m2, f0, f1, f2, f3, f4, f5, f6, f7, f8, g0, g1, g2⟩ := HPX.out.pro.cells
    have HSB := hid (show Turned [w.heap.size + 1, w.heap.size + 2] Y Y.drew from (Turned.refl _ _).drew)
    have LP : Hid (∀ w', Turned [w.heap.size + 1, w.heap.size + 2] Y w' → (Instr.loadAt 28 (.pointer (some ⟨w.heap.size + 3, 0, none⟩))).run Try.prog w' = .ok (.agg #[.slice none 0 0, .int .i64 0, .int .i64 0, .int .i64 0, .int .i64 0, .slice none 0 0, .bool false, .bool false, .bool false]) w') := hid fun w' ht => by
      have z0 := ht.cell p0 (by simp)
      have z1 := ht.cell p1 (by simp)
      have z2 := ht.cell p2 (by simp)
      have z3 := ht.cell p3 (by simp)
      have z4 := ht.cell p4 (by simp)
      have z5 := ht.cell p5 (by simp)
      have z6 := ht.cell p6 (by simp)
      have z7 := ht.cell p7 (by simp)
      have z8 := ht.cell p8 (by simp)
      clear d0 d1 d2 d3 p0 p1 p2 p3 p4 p5 p6 p7 p8 k0 k1 k2 k3 k4 k5 k6 k7 k8 m0 m1 m2
      go_simp
    clear d0 d1 d2 d3 p0 p1 p2 p3 p4 p5 p6 p7 p8 pf0 pf1 pf5 k0 k1 k2 k3 k4 k5 k6 k7 k8 m0 m1 m2 f0 f1 f2 f3 f4 f5 f6 f7 f8 g0 g1 g2
    (refine wp_mixZ (Turned [w.heap.size + 1, w.heap.size + 2] Y) rfl ?_ ?_ (HSB.out) ?_; (focus kernel_rfl); (focus kernel_rfl); intro KK hKK; simp only [List.dropLast_cons_cons, List.dropLast_singleton]; go_wp2_with (first
                                                                  | (first
      | ((with_reducible refine mixS_load LP.out ?_ ?_ ?_); (focus rfl); (focus rfl))
      | (go_at_call 26; go_must (refine (rfault_any 1 true _).mono ?_; unfold ft; rintro e w1 ⟨rfl, hb1⟩; have HSB := hid (HSB.out.then hb1); have hP := (HPX.out.pro.on (Below.refl _ _).drew).on hb1; have HP := hid hP; clear hb1; obtain ⟨k0, k1, k2, k3, k4, k5, k6, k7, k8, m0, m1, m2, f0, f1, f2, f3, f4, f5, f6, f7, f8, g0, g1, g2⟩ := hP.cells; clear hP))
      | ((with_reducible refine And.intro ?_ ?_); (focus (first | (with_reducible exact HSB.out) | exact turned9 HSB.out (by simp))))
      | ((with_reducible refine mix_nil ?_); refine hKK _ _ (turned9 HSB.out (by simp)) ?_; (with_reducible refine last_on ?_ ?_); (focus rfl); intro K hK; go_simp))
                                                                  | ((with_reducible refine mix_nil ?_); refine hKK _ _ (HSB.out) ?_; (with_reducible refine last_on ?_ ?_); (focus rfl); intro K hK; go_simp)
                                                                  | ((with_reducible refine mixS_on ?_ ?_); (focus rfl); intro K K' hK hK'; go_simp; (first | ((with_reducible refine hK _ _ ?_); clear hK hK' K K') | ((with_reducible refine hK' _ _ ?_); clear hK hK' K K') | skip))
                                                                  | ((with_reducible refine mixS_off ?_ ?_); (focus rfl); intro K hK; go_simp; (first | ((with_reducible refine hK _ _ ?_); clear hK K) | skip))
                                                                  | ((with_reducible refine mixS_step ?_); intro K K' hK hK'; go_simp; (first | ((with_reducible refine hK _ _ ?_); clear hK hK' K K') | ((with_reducible refine hK' _ _ ?_); clear hK hK' K K') | skip))))
    refine part_end Try.results10 rfl rfl HP.out.p rfl HP.out.q rfl (by omega) ?_
    intro w' ht
    rw [HU.out]
    exact PartPost.plain rfl rfl (HP.out.fin ht)
  · have HU : Hid (readP 9 f s l = { d := l, w := fl f 4 }) := hid (by unfold readP; simp [hs])
    have hs2 : (s != 0) = true := by simp [hs]
    clear hlen
    go_enter Try.func10, Try.ntmps10
    go_upto_region 1 with fail
    have hpw := ProF.new w 9 f s A n c
    have hWs : (((w.alloc (.cells #[.int .i64 9, .int .i64 f, .int .i64 s, .slice A n c] 34)).alloc (.cells #[.slice none 0 0, .int .i64 0, .int .i64 0, .int .i64 0, .int .i64 0, .slice none 0 0, .bool false, .bool false, .bool false] 28)).alloc (.cells #[.bool false, .bool false, .int .i64 0] 30)).heap.size = w.heap.size + 3 := by simp
    generalize (((w.alloc (.cells #[.int .i64 9, .int .i64 f, .int .i64 s, .slice A n c] 34)).alloc (.cells #[.slice none 0 0, .int .i64 0, .int .i64 0, .int .i64 0, .int .i64 0, .slice none 0 0, .bool false, .bool false, .bool false] 28)).alloc (.cells #[.bool false, .bool false, .int .i64 0] 30)) = W at hpw hWs ⊢
    have hpx := hpw.on ((Below.refl W.heap.size W).alloc (Nat.le_refl _) (.cells #[.slice none 0 0, .int .i64 0, .int .i64 0, .int .i64 0, .int .i64 0, .slice none 0 0, .bool false, .bool false, .bool false] 28))
    have hpb : Blk (W.alloc (.cells #[.slice none 0 0, .int .i64 0, .int .i64 0, .int .i64 0, .int .i64 0, .slice none 0 0, .bool false, .bool false, .bool false] 28)) (w.heap.size + 3) 28 #[.slice none 0 0, .int .i64 0, .int .i64 0, .int .i64 0, .int .i64 0, .slice none 0 0, .bool false, .bool false, .bool false] := by rw [← hWs]; exact Blk.new W _ _
    go_upto_region 2 with fail
    generalize W.alloc (.cells #[.slice none 0 0, .int .i64 0, .int .i64 0, .int .i64 0, .int .i64 0, .slice none 0 0, .bool false, .bool false, .bool false] 28) = X at hpx hpb ⊢
    clear hpw hWs
    obtain ⟨d0, d1, d2, d3⟩ := hpx.cells
    obtain ⟨p0, p1, p2, p3, p4, p5, p6, p7, p8, pf0, pf1, pf5⟩ := blk9 hpb
    have pf2 := hpb.frozen 2
    have pf3 := hpb.frozen 3
    have pf4 := hpb.frozen 4
    have pf7 := hpb.frozen 7
    have pf8 := hpb.frozen 8
    obtain ⟨k0, k1, k2, k3, k4, k5, k6, k7, k8, m0, m1, m2, f0, f1, f2, f3, f4, f5, f6, f7, f8, g0, g1, g2⟩ := hpx.pro.cells
    have HPX := hid (hpx.on ((Below.refl X.heap.size X).drew))
    have HBX := hid (show Blk X.drew (w.heap.size + 3) 28 #[.slice none 0 0, .int .i64 0, .int .i64 0, .int .i64 0, .int .i64 0, .slice none 0 0, .bool false, .bool false, .bool false] from hpb)
    have HB := hid (H.out.below (hpx.on ((Below.refl X.heap.size X).drew)).pro.below_)
    clear hpx hpb
    (refine wp_mix ?_ ?_ ?_; (focus kernel_rfl); (focus kernel_rfl); intro KK hKK; go_wp2_with (first
          | (fail)
          | (with_reducible refine mix_nil ?_)
          | ((with_reducible refine mix_on ?_ ?_); (focus rfl); intro K hK; go_simp; (first | ((with_reducible refine hK _ _ ?_); clear hK K) | skip))
          | ((with_reducible refine mix_off ?_ ?_); (focus rfl); intro K hK; go_simp; (first | ((with_reducible refine hK _ _ ?_); clear hK K) | skip))
          | ((with_reducible refine mix_step ?_); intro K hK; go_simp; (first | ((with_reducible refine hK _ _ ?_); clear hK K) | skip))))
    clear d0 d1 d2 d3 p0 p1 p2 p3 p4 p5 p6 p7 p8 pf0 pf1 pf2 pf3 pf4 pf5 pf7 pf8 k0 k1 k2 k3 k4 k5 k6 k7 k8 m0 m1 m2 f0 f1 f2 f3 f4 f5 f6 f7 f8 g0 g1 g2
    generalize X.drew = Y at HPX HBX HB ⊢
    obtain ⟨d0, d1, d2, d3⟩ := HPX.out.cells
    obtain ⟨p0, p1, p2, p3, p4, p5, p6, p7, p8, pf0, pf1, pf5⟩ := blk9 HBX.out
    obtain ⟨k0, k1, k2, k3, k4, k5, k6, k7, k8, m0, m1, m2, f0, f1, f2, f3, f4, f5, f6, f7, f8, g0, g1, g2⟩ := HPX.out.pro.cells
    have pf7 := HBX.out.frozen 7
    have pf8 := HBX.out.frozen 8
    have HSB := hid (show Turned [w.heap.size + 3] Y Y.drew from (Turned.refl _ _).drew)
    have LB : Hid (∀ w', Turned [w.heap.size + 3] Y w' → (Instr.loadAt 25 (.pointer (some ⟨w.heap.size, 3, none⟩))).run Try.prog w' = .ok (.slice A n c) w') := hid fun w' ht => by
      have z := ht.cell d3 (by simp)
      clear d0 d1 d2 d3 p0 p1 p2 p3 p4 p5 p6 p7 p8 k0 k1 k2 k3 k4 k5 k6 k7 k8 m0 m1 m2
      go_simp
    have LF : Hid (∀ w', Turned [w.heap.size + 3] Y w' → (Instr.loadAt 3 (.pointer (some ⟨w.heap.size, 1, none⟩))).run Try.prog w' = .ok (.int .i64 f) w') := hid fun w' ht => by
      have z := ht.cell d1 (by simp)
      clear d0 d1 d2 d3 p0 p1 p2 p3 p4 p5 p6 p7 p8 k0 k1 k2 k3 k4 k5 k6 k7 k8 m0 m1 m2
      go_simp
    have hW1 := eq1 f
    have hW4 := eq4 f
    clear d0 d1 d2 d3 p0 p1 p2 p3 p4 p5 p6 p7 p8 pf0 pf1 pf5 pf7 pf8 k0 k1 k2 k3 k4 k5 k6 k7 k8 m0 m1 m2 f0 f1 f2 f3 f4 f5 f6 f7 f8 g0 g1 g2
    (refine wp_mixZ (Turned [w.heap.size + 3] Y) rfl ?_ ?_ (HSB.out) ?_; (focus kernel_rfl); (focus kernel_rfl); intro KK hKK; simp only [List.dropLast_cons_cons, List.dropLast_singleton]; go_wp2_with (first
                                                 | (first
      | ((with_reducible refine mixS_load LB.out ?_ ?_ ?_); (focus rfl); (focus rfl))
      | ((with_reducible refine mixS_load LF.out ?_ ?_ ?_); (focus rfl); (focus rfl))
      | (go_at_call 28; go_must (refine (copy_any A n c l _ (HB.out.below (Below.refl _ _).drew) (by omega)).mono ?_; rintro e w1 ⟨A1, c1, rfl, ho1, hb1⟩; have HO := hid ho1; have hpv := (HPX.out.on (Below.refl _ _).drew).on hb1; have HPV := hid hpv; have hpc := (show Blk Y.drew (w.heap.size + 3) 28 #[.slice none 0 0, .int .i64 0, .int .i64 0, .int .i64 0, .int .i64 0, .slice none 0 0, .bool false, .bool false, .bool false] from HBX.out).below hb1 HBX.out.lt; obtain ⟨p0, p1, p2, p3, p4, p5, p6, p7, p8, pf0, pf1, pf5⟩ := blk9 hpc; have pf7 := hpc.frozen 7; have pf8 := hpc.frozen 8; have HSB := hid (HSB.out.then hb1); have hP := hpv.pro; obtain ⟨k0, k1, k2, k3, k4, k5, k6, k7, k8, m0, m1, m2, f0, f1, f2, f3, f4, f5, f6, f7, f8, g0, g1, g2⟩ := hP.cells; clear hP; clear hb1 ho1 hpv hpc))
      | ((with_reducible refine And.intro ?_ ?_); (focus (first | (with_reducible exact HSB.out) | (with_reducible exact HSB.out.setCell (by simp) _) | exact HSB.out.setCell (by simp) _)))
      | ((with_reducible refine mix_nil ?_); refine hKK _ _ (HSB.out.setCell (by simp) _) ?_; (with_reducible refine last_on ?_ ?_); (focus rfl); intro K hK; go_simp))
                                                 | ((with_reducible refine mix_nil ?_); refine hKK _ _ (HSB.out) ?_; (with_reducible refine last_on ?_ ?_); (focus rfl); intro K hK; go_simp)
                                                 | ((with_reducible refine mixS_on ?_ ?_); (focus rfl); intro K K' hK hK'; go_simp; (first | ((with_reducible refine hK _ _ ?_); clear hK hK' K K') | ((with_reducible refine hK' _ _ ?_); clear hK hK' K K') | skip))
                                                 | ((with_reducible refine mixS_off ?_ ?_); (focus rfl); intro K hK; go_simp; (first | ((with_reducible refine hK _ _ ?_); clear hK K) | skip))
                                                 | ((with_reducible refine mixS_step ?_); intro K K' hK hK'; go_simp; (first | ((with_reducible refine hK _ _ ?_); clear hK hK' K K') | ((with_reducible refine hK' _ _ ?_); clear hK hK' K K') | skip))))
    go_wp2_with fail
    have ht2 : Turned [w.heap.size + 3] w1 ((w1.setCell ⟨w.heap.size + 3, 0, none⟩ (.slice A1 n c1)).setCell ⟨w.heap.size + 3, 8, none⟩ (.bool (fl f 4))) := ((Turned.refl _ _).setCell (by simp) _).setCell (by simp) _
    refine part_end Try.results10 rfl rfl (HPV.out.turn ht2).pro.p rfl (HPV.out.turn ht2).pro.q rfl (by omega) ?_
    intro w' ht
    rw [HU.out]
    have hlt := HBX.out.lt
    exact ⟨A1, n, c1, none, 0, 0, rfl, ((Bs.of_own HO.out).turned ht2 (own_off HO.out (by simp; omega))).turned ht (own_off HO.out (by simp; omega)), Sts.nil _ _, Above.own HO.out (HPX.out.pro.below_.size), Above.none _, (HPV.out.turn ht2).pro.fin ht⟩
end Go.Proofs.Ytdiahjeplaegnaa
