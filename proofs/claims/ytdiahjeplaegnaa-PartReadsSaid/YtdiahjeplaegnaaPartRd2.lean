/- The reference's Read, more kinds. Conditions: at most 2^40 bytes. -/
import Derived.Test.YtdiahjeplaegnaaPartRd
namespace Go.Proofs.Ytdiahjeplaegnaa
open Go.RowKit
attribute [local go_sem] kd kdS
attribute [local go_sem ↓] sliced_word
attribute [local go_sem] offA_zero


theorem val_4 (A : Option Addr) (n c : Nat) (l : List UInt8) (w : World) (h : Bs w A n l) (hn : 4 ≤ n) :
    Calls Try.prog 27 #[.slice A 4 c] w fun e w' => e = .returned (.int .i64 (n4 l)) ∧ w = w' := by
  have h2 := val_any A 4 c (l.take 4) w (h.to hn) (Nat.le_refl _)
  have e : beI (l.take 4) 4 = beI l 4 := by
    unfold beI
    rw [List.take_take, Nat.min_self]
  rw [e, beI_four (by rw [h.len]; exact hn)] at h2
  exact h2
theorem val_48 (A : Option Addr) (n c c' : Nat) (l : List UInt8) (w : World) (h : Bs w A n l) (hn : 8 ≤ n) (hc : n ≤ c) :
    Calls Try.prog 27 #[.slice (offA A 4 c 1) 4 c'] w fun e w' => e = .returned (.int .i64 (n4 (l.drop 4))) ∧ w = w' :=
  val_4 _ (n - 4) _ _ w (h.off (by omega) hc) (by omega)

set_option maxHeartbeats 4000000 in
set_option maxRecDepth 100000 in
theorem rread_0 (f s : Int) (A : Option Addr) (n c : Nat) (l : List UInt8) (w : World) (h : Bs w A n l) (hnc : n ≤ c) (hn : n ≤ 1099511627776) :
    Calls Try.prog 10 #[.agg #[.int .i64 0, .int .i64 f, .int .i64 s, .slice A n c]] w (PartPost (readP 0 f s l) w) := by
  have hlen := h.len
  have H := hid h
  clear h
  have HU : Hid (readP 0 f s l = bodyP 0 f s l) := hid (by unfold readP; simp)
  clear hlen
  generalize hPP : bodyP 0 f s l = P at HU
  go_enter Try.func10, Try.ntmps10
  go_upto_region 1 with fail
  have hpw := ProF.new w 0 f s A n c
  have hWs : (((w.alloc (.cells #[.int .i64 0, .int .i64 f, .int .i64 s, .slice A n c] 34)).alloc (.cells #[.slice none 0 0, .int .i64 0, .int .i64 0, .int .i64 0, .int .i64 0, .slice none 0 0, .bool false, .bool false, .bool false] 28)).alloc (.cells #[.bool false, .bool false, .int .i64 0] 30)).heap.size = w.heap.size + 3 := by simp
  generalize (((w.alloc (.cells #[.int .i64 0, .int .i64 f, .int .i64 s, .slice A n c] 34)).alloc (.cells #[.slice none 0 0, .int .i64 0, .int .i64 0, .int .i64 0, .int .i64 0, .slice none 0 0, .bool false, .bool false, .bool false] 28)).alloc (.cells #[.bool false, .bool false, .int .i64 0] 30)) = W at hpw hWs ⊢
  have hpx := hpw.on ((Below.refl W.heap.size W).alloc (Nat.le_refl _) (.cells #[.slice none 0 0, .int .i64 0, .int .i64 0, .int .i64 0, .int .i64 0, .slice none 0 0, .bool false, .bool false, .bool false] 28))
  have hpb : Blk (W.alloc (.cells #[.slice none 0 0, .int .i64 0, .int .i64 0, .int .i64 0, .int .i64 0, .slice none 0 0, .bool false, .bool false, .bool false] 28)) (w.heap.size + 3) 28 #[.slice none 0 0, .int .i64 0, .int .i64 0, .int .i64 0, .int .i64 0, .slice none 0 0, .bool false, .bool false, .bool false] := by rw [← hWs]; exact Blk.new W _ _
  go_upto_region 2 with fail
  generalize W.alloc (.cells #[.slice none 0 0, .int .i64 0, .int .i64 0, .int .i64 0, .int .i64 0, .slice none 0 0, .bool false, .bool false, .bool false] 28) = X at hpx hpb ⊢
  clear hpw hWs
  obtain ⟨d0, d1, d2, d3⟩ := hpx.cells
  obtain ⟨p0, p1, p2, p3, p4, p5, p6, p7, p8, pf0, pf1, pf5⟩ := blk9 hpb
  have pf2 := hpb.frozen 2
  have pf3 := hpb.frozen 3
  have pf4 := hpb.frozen 4
  have pf7 := hpb.frozen 7
  have pf8 := hpb.frozen 8
  obtain ⟨k0, k1, k2, k3, k4, k5, k6, k7, k8, m0, m1, m2, f0, f1, f2, f3, f4, f5, f6, f7, f8, g0, g1, g2⟩ := hpx.pro.cells
  have HPX := hid (hpx.on ((Below.refl X.heap.size X).drew))
  have HBX := hid (show Blk X.drew (w.heap.size + 3) 28 #[.slice none 0 0, .int .i64 0, .int .i64 0, .int .i64 0, .int .i64 0, .slice none 0 0, .bool false, .bool false, .bool false] from hpb)
  have HB := hid (H.out.below (hpx.on ((Below.refl X.heap.size X).drew)).pro.below_)
  clear hpx hpb
  (refine wp_mix ?_ ?_ ?_; (focus kernel_rfl); (focus kernel_rfl); intro KK hKK; go_wp2_with (first
        | ((go_at_call 25; go_must (refine (padded_0 f s A n c l _ HB.out hnc (by omega)).mono ?_; rw [hPP]; unfold PartPost pv ft; rintro e w1 ⟨Ad, nd, cd, As, ns, cs, rfl, hbd, hst, had, has, hb1⟩; have HBD := hid hbd; have HST := hid hst; have HAD := hid had; have HAS := hid has; have hP := HPX.out.pro.on hb1; have HP := hid hP; clear hb1 hbd hst had has; obtain ⟨k0, k1, k2, k3, k4, k5, k6, k7, k8, m0, m1, m2, f0, f1, f2, f3, f4, f5, f6, f7, f8, g0, g1, g2⟩ := hP.cells; clear hP)))
        | (with_reducible refine mix_nil ?_)
        | ((with_reducible refine mix_on ?_ ?_); (focus rfl); intro K hK; go_simp; (first | ((with_reducible refine hK _ _ ?_); clear hK K) | skip))
        | ((with_reducible refine mix_off ?_ ?_); (focus rfl); intro K hK; go_simp; (first | ((with_reducible refine hK _ _ ?_); clear hK K) | skip))
        | ((with_reducible refine mix_step ?_); intro K hK; go_simp; (first | ((with_reducible refine hK _ _ ?_); clear hK K) | skip))))
  refine part_end Try.results10 rfl rfl HP.out.p rfl HP.out.q rfl (by omega) ?_
  intro w' ht
  rw [HU.out]
  have hz := HPX.out.pro.below_.size
  have hoff : ∀ b ∈ [w.heap.size + 1, w.heap.size + 2], b < X.drew.heap.size := fun b hb => by
    have := HPX.out.pro.lt
    simp at hb this ⊢
    omega
  exact ⟨Ad, nd, cd, As, ns, cs, rfl, HBD.out.turned ht (HAD.out.off hoff), Rd.turned HST.out ht (HAS.out.off hoff), HAD.out.le hz, HAS.out.le hz, HP.out.fin ht⟩

set_option maxHeartbeats 4000000 in
set_option maxRecDepth 100000 in
theorem rread_1 (f s : Int) (A : Option Addr) (n c : Nat) (l : List UInt8) (w : World) (h : Bs w A n l) (hnc : n ≤ c) (hn : n ≤ 1099511627776) :
    Calls Try.prog 10 #[.agg #[.int .i64 1, .int .i64 f, .int .i64 s, .slice A n c]] w (PartPost (readP 1 f s l) w) := by
  have hlen := h.len
  have H := hid h
  clear h
  have HU : Hid (readP 1 f s l = bodyP 1 f s l) := hid (by unfold readP; simp)
  clear hlen
  generalize hPP : bodyP 1 f s l = P at HU
  go_enter Try.func10, Try.ntmps10
  go_upto_region 1 with fail
  have hpw := ProF.new w 1 f s A n c
  have hWs : (((w.alloc (.cells #[.int .i64 1, .int .i64 f, .int .i64 s, .slice A n c] 34)).alloc (.cells #[.slice none 0 0, .int .i64 0, .int .i64 0, .int .i64 0, .int .i64 0, .slice none 0 0, .bool false, .bool false, .bool false] 28)).alloc (.cells #[.bool false, .bool false, .int .i64 0] 30)).heap.size = w.heap.size + 3 := by simp
  generalize (((w.alloc (.cells #[.int .i64 1, .int .i64 f, .int .i64 s, .slice A n c] 34)).alloc (.cells #[.slice none 0 0, .int .i64 0, .int .i64 0, .int .i64 0, .int .i64 0, .slice none 0 0, .bool false, .bool false, .bool false] 28)).alloc (.cells #[.bool false, .bool false, .int .i64 0] 30)) = W at hpw hWs ⊢
  have hpx := hpw.on ((Below.refl W.heap.size W).alloc (Nat.le_refl _) (.cells #[.slice none 0 0, .int .i64 0, .int .i64 0, .int .i64 0, .int .i64 0, .slice none 0 0, .bool false, .bool false, .bool false] 28))
  have hpb : Blk (W.alloc (.cells #[.slice none 0 0, .int .i64 0, .int .i64 0, .int .i64 0, .int .i64 0, .slice none 0 0, .bool false, .bool false, .bool false] 28)) (w.heap.size + 3) 28 #[.slice none 0 0, .int .i64 0, .int .i64 0, .int .i64 0, .int .i64 0, .slice none 0 0, .bool false, .bool false, .bool false] := by rw [← hWs]; exact Blk.new W _ _
  go_upto_region 2 with fail
  generalize W.alloc (.cells #[.slice none 0 0, .int .i64 0, .int .i64 0, .int .i64 0, .int .i64 0, .slice none 0 0, .bool false, .bool false, .bool false] 28) = X at hpx hpb ⊢
  clear hpw hWs
  obtain ⟨d0, d1, d2, d3⟩ := hpx.cells
  obtain ⟨p0, p1, p2, p3, p4, p5, p6, p7, p8, pf0, pf1, pf5⟩ := blk9 hpb
  have pf2 := hpb.frozen 2
  have pf3 := hpb.frozen 3
  have pf4 := hpb.frozen 4
  have pf7 := hpb.frozen 7
  have pf8 := hpb.frozen 8
  obtain ⟨k0, k1, k2, k3, k4, k5, k6, k7, k8, m0, m1, m2, f0, f1, f2, f3, f4, f5, f6, f7, f8, g0, g1, g2⟩ := hpx.pro.cells
  have HPX := hid (hpx.on ((Below.refl X.heap.size X).drew))
  have HBX := hid (show Blk X.drew (w.heap.size + 3) 28 #[.slice none 0 0, .int .i64 0, .int .i64 0, .int .i64 0, .int .i64 0, .slice none 0 0, .bool false, .bool false, .bool false] from hpb)
  have HB := hid (H.out.below (hpx.on ((Below.refl X.heap.size X).drew)).pro.below_)
  clear hpx hpb
  (refine wp_mix ?_ ?_ ?_; (focus kernel_rfl); (focus kernel_rfl); intro KK hKK; go_wp2_with (first
        | ((go_at_call 25; go_must (refine (padded_1 f s A n c l _ HB.out hnc (by omega)).mono ?_; rw [hPP]; unfold PartPost pv ft; rintro e w1 ⟨Ad, nd, cd, As, ns, cs, rfl, hbd, hst, had, has, hb1⟩; have HBD := hid hbd; have HST := hid hst; have HAD := hid had; have HAS := hid has; have hP := HPX.out.pro.on hb1; have HP := hid hP; clear hb1 hbd hst had has; obtain ⟨k0, k1, k2, k3, k4, k5, k6, k7, k8, m0, m1, m2, f0, f1, f2, f3, f4, f5, f6, f7, f8, g0, g1, g2⟩ := hP.cells; clear hP)))
        | (with_reducible refine mix_nil ?_)
        | ((with_reducible refine mix_on ?_ ?_); (focus rfl); intro K hK; go_simp; (first | ((with_reducible refine hK _ _ ?_); clear hK K) | skip))
        | ((with_reducible refine mix_off ?_ ?_); (focus rfl); intro K hK; go_simp; (first | ((with_reducible refine hK _ _ ?_); clear hK K) | skip))
        | ((with_reducible refine mix_step ?_); intro K hK; go_simp; (first | ((with_reducible refine hK _ _ ?_); clear hK K) | skip))))
  refine part_end Try.results10 rfl rfl HP.out.p rfl HP.out.q rfl (by omega) ?_
  intro w' ht
  rw [HU.out]
  have hz := HPX.out.pro.below_.size
  have hoff : ∀ b ∈ [w.heap.size + 1, w.heap.size + 2], b < X.drew.heap.size := fun b hb => by
    have := HPX.out.pro.lt
    simp at hb this ⊢
    omega
  exact ⟨Ad, nd, cd, As, ns, cs, rfl, HBD.out.turned ht (HAD.out.off hoff), Rd.turned HST.out ht (HAS.out.off hoff), HAD.out.le hz, HAS.out.le hz, HP.out.fin ht⟩

set_option maxHeartbeats 4000000 in
set_option maxRecDepth 100000 in
theorem rread_7 (f s : Int) (A : Option Addr) (n c : Nat) (l : List UInt8) (w : World) (h : Bs w A n l) (hnc : n ≤ c) (hn : n ≤ 1099511627776) :
    Calls Try.prog 10 #[.agg #[.int .i64 7, .int .i64 f, .int .i64 s, .slice A n c]] w (PartPost (readP 7 f s l) w) := by
  have hlen := h.len
  have H := hid h
  clear h
  by_cases hs : s = 0
  · subst hs
    by_cases h8 : n < 8
    · have HU : Hid (readP 7 f 0 l = connP 6) := hid (by unfold readP; simp [wholeP, hlen, h8])
      have h8' : (n : Int) < 8 := by omega
      clear hlen
      go_enter Try.func10, Try.ntmps10
      go_upto_region 1 with fail
      have hpw := ProF.new w 7 f 0 A n c
      have hWs : (((w.alloc (.cells #[.int .i64 7, .int .i64 f, .int .i64 0, .slice A n c] 34)).alloc (.cells #[.slice none 0 0, .int .i64 0, .int .i64 0, .int .i64 0, .int .i64 0, .slice none 0 0, .bool false, .bool false, .bool false] 28)).alloc (.cells #[.bool false, .bool false, .int .i64 0] 30)).heap.size = w.heap.size + 3 := by simp
      generalize (((w.alloc (.cells #[.int .i64 7, .int .i64 f, .int .i64 0, .slice A n c] 34)).alloc (.cells #[.slice none 0 0, .int .i64 0, .int .i64 0, .int .i64 0, .int .i64 0, .slice none 0 0, .bool false, .bool false, .bool false] 28)).alloc (.cells #[.bool false, .bool false, .int .i64 0] 30)) = W at hpw hWs ⊢
      have hpx := hpw.on ((Below.refl W.heap.size W).alloc (Nat.le_refl _) (.cells #[.slice none 0 0, .int .i64 0, .int .i64 0, .int .i64 0, .int .i64 0, .slice none 0 0, .bool false, .bool false, .bool false] 28))
      have hpb : Blk (W.alloc (.cells #[.slice none 0 0, .int .i64 0, .int .i64 0, .int .i64 0, .int .i64 0, .slice none 0 0, .bool false, .bool false, .bool false] 28)) (w.heap.size + 3) 28 #[.slice none 0 0, .int .i64 0, .int .i64 0, .int .i64 0, .int .i64 0, .slice none 0 0, .bool false, .bool false, .bool false] := by rw [← hWs]; exact Blk.new W _ _
      go_upto_region 2 with fail
      generalize W.alloc (.cells #[.slice none 0 0, .int .i64 0, .int .i64 0, .int .i64 0, .int .i64 0, .slice none 0 0, .bool false, .bool false, .bool false] 28) = X at hpx hpb ⊢
      clear hpw hWs
      obtain ⟨d0, d1, d2, d3⟩ := hpx.cells
      obtain ⟨p0, p1, p2, p3, p4, p5, p6, p7, p8, pf0, pf1, pf5⟩ := blk9 hpb
      have pf2 := hpb.frozen 2
      have pf3 := hpb.frozen 3
      have pf4 := hpb.frozen 4
      have pf7 := hpb.frozen 7
      have pf8 := hpb.frozen 8
      obtain ⟨k0, k1, k2, k3, k4, k5, k6, k7, k8, m0, m1, m2, f0, f1, f2, f3, f4, f5, f6, f7, f8, g0, g1, g2⟩ := hpx.pro.cells
      have HPX := hid (hpx.on ((Below.refl X.heap.size X).drew))
      have HBX := hid (show Blk X.drew (w.heap.size + 3) 28 #[.slice none 0 0, .int .i64 0, .int .i64 0, .int .i64 0, .int .i64 0, .slice none 0 0, .bool false, .bool false, .bool false] from hpb)
      have HB := hid (H.out.below (hpx.on ((Below.refl X.heap.size X).drew)).pro.below_)
      clear hpx hpb
      (refine wp_mix ?_ ?_ ?_; (focus kernel_rfl); (focus kernel_rfl); intro KK hKK; go_wp2_with (first
            | (fail)
            | (with_reducible refine mix_nil ?_)
            | ((with_reducible refine mix_on ?_ ?_); (focus rfl); intro K hK; go_simp; (first | ((with_reducible refine hK _ _ ?_); clear hK K) | skip))
            | ((with_reducible refine mix_off ?_ ?_); (focus rfl); intro K hK; go_simp; (first | ((with_reducible refine hK _ _ ?_); clear hK K) | skip))
            | ((with_reducible refine mix_step ?_); intro K hK; go_simp; (first | ((with_reducible refine hK _ _ ?_); clear hK K) | skip))))
      clear d0 d1 d2 d3 p0 p1 p2 p3 p4 p5 p6 p7 p8 pf0 pf1 pf2 pf3 pf4 pf5 pf7 pf8 k0 k1 k2 k3 k4 k5 k6 k7 k8 m0 m1 m2 f0 f1 f2 f3 f4 f5 f6 f7 f8 g0 g1 g2
      generalize X.drew = Y at HPX HBX HB ⊢
      obtain ⟨d0, d1, d2, d3⟩ := HPX.out.cells
      obtain ⟨p0, p1, p2, p3, p4, p5, p6, p7, p8, pf0, pf1, pf5⟩ := blk9 HBX.out
      obtain ⟨k0, k1, k2, k3, k4, k5, k6, k7, k8, m0, m1, m2, f0, f1, f2, f3, f4, f5, f6, f7, f8, g0, g1, g2⟩ := HPX.out.pro.cells
      have HSB := hid (show Turned [w.heap.size + 1, w.heap.size + 2] Y Y.drew from (Turned.refl _ _).drew)
      have LP : Hid (∀ w', Turned [w.heap.size + 1, w.heap.size + 2] Y w' → (Instr.loadAt 28 (.pointer (some ⟨w.heap.size + 3, 0, none⟩))).run Try.prog w' = .ok (.agg #[.slice none 0 0, .int .i64 0, .int .i64 0, .int .i64 0, .int .i64 0, .slice none 0 0, .bool false, .bool false, .bool false]) w') := hid fun w' ht => by
        have z0 := ht.cell p0 (by simp)
        have z1 := ht.cell p1 (by simp)
        have z2 := ht.cell p2 (by simp)
        have z3 := ht.cell p3 (by simp)
        have z4 := ht.cell p4 (by simp)
        have z5 := ht.cell p5 (by simp)
        have z6 := ht.cell p6 (by simp)
        have z7 := ht.cell p7 (by simp)
        have z8 := ht.cell p8 (by simp)
        clear d0 d1 d2 d3 p0 p1 p2 p3 p4 p5 p6 p7 p8 k0 k1 k2 k3 k4 k5 k6 k7 k8 m0 m1 m2
        go_simp
      clear d0 d1 d2 d3 p0 p1 p2 p3 p4 p5 p6 p7 p8 pf0 pf1 pf5 k0 k1 k2 k3 k4 k5 k6 k7 k8 m0 m1 m2 f0 f1 f2 f3 f4 f5 f6 f7 f8 g0 g1 g2
      (refine wp_mixZ (Turned [w.heap.size + 1, w.heap.size + 2] Y) rfl ?_ ?_ (HSB.out) ?_; (focus kernel_rfl); (focus kernel_rfl); intro KK hKK; simp only [List.dropLast_cons_cons, List.dropLast_singleton]; go_wp2_with (first
                                                                    | (first
        | ((with_reducible refine mixS_load LP.out ?_ ?_ ?_); (focus rfl); (focus rfl))
        | (go_at_call 26; go_must (refine (rfault_any 6 true _).mono ?_; unfold ft; rintro e w1 ⟨rfl, hb1⟩; have HSB := hid (HSB.out.then hb1); have hP := (HPX.out.pro.on (Below.refl _ _).drew).on hb1; have HP := hid hP; clear hb1; obtain ⟨k0, k1, k2, k3, k4, k5, k6, k7, k8, m0, m1, m2, f0, f1, f2, f3, f4, f5, f6, f7, f8, g0, g1, g2⟩ := hP.cells; clear hP))
        | ((with_reducible refine And.intro ?_ ?_); (focus (first | (with_reducible exact HSB.out) | exact turned9 HSB.out (by simp))))
        | ((with_reducible refine mix_nil ?_); refine hKK _ _ (turned9 HSB.out (by simp)) ?_; (with_reducible refine last_on ?_ ?_); (focus rfl); intro K hK; go_simp))
                                                                    | ((with_reducible refine mix_nil ?_); refine hKK _ _ (HSB.out) ?_; (with_reducible refine last_on ?_ ?_); (focus rfl); intro K hK; go_simp)
                                                                    | ((with_reducible refine mixS_on ?_ ?_); (focus rfl); intro K K' hK hK'; go_simp; (first | ((with_reducible refine hK _ _ ?_); clear hK hK' K K') | ((with_reducible refine hK' _ _ ?_); clear hK hK' K K') | skip))
                                                                    | ((with_reducible refine mixS_off ?_ ?_); (focus rfl); intro K hK; go_simp; (first | ((with_reducible refine hK _ _ ?_); clear hK K) | skip))
                                                                    | ((with_reducible refine mixS_step ?_); intro K K' hK hK'; go_simp; (first | ((with_reducible refine hK _ _ ?_); clear hK hK' K K') | ((with_reducible refine hK' _ _ ?_); clear hK hK' K K') | skip))))
      refine part_end Try.results10 rfl rfl HP.out.p rfl HP.out.q rfl (by omega) ?_
      intro w' ht
      rw [HU.out]
      exact PartPost.plain rfl rfl (HP.out.fin ht)
    · have HU : Hid (readP 7 f 0 l = { last := m31 (n4 l), code := n4 (l.drop 4) }) := hid (by unfold readP; simp [wholeP, hlen, h8])
      have h8' : ¬ (n : Int) < 8 := by omega
      have h8'' : (8 : Int) ≤ n := by omega
      have h4' : (4 : Int) ≤ n := by omega
      have h8c : 8 ≤ c := by omega
      have h4n := n4_le l
      have hm31 := m31b h4n.1 h4n.2
      clear h4n
      obtain ⟨a4, ha4⟩ : ∃ a, n4 l = a := ⟨_, rfl⟩
      obtain ⟨m4, hm4⟩ : ∃ a, m31 a4 = a := ⟨_, rfl⟩
      have HV1 : Hid (∀ w, Bs w A n l → Calls Try.prog 27 #[.slice A 4 c] w fun e w' => e = .returned (.int .i64 a4) ∧ w = w') := hid fun w h => by rw [← ha4]; exact val_4 A n c l w h (by omega)
      obtain ⟨b4, hb4⟩ : ∃ a, n4 (l.drop 4) = a := ⟨_, rfl⟩
      have HV2 : Hid (∀ w, Bs w A n l → Calls Try.prog 27 #[.slice (offA A 4 c 1) 4 (c - 4)] w fun e w' => e = .returned (.int .i64 b4) ∧ w = w') := hid fun w h => by rw [← hb4]; exact val_48 A n c (c - 4) l w h (by omega) hnc
      rw [ha4, hm4, hb4] at HU
      rw [ha4, hm4] at hm31
      clear ha4 hm4 hb4
      clear hlen
      go_enter Try.func10, Try.ntmps10
      go_upto_region 1 with fail
      have hpw := ProF.new w 7 f 0 A n c
      have hWs : (((w.alloc (.cells #[.int .i64 7, .int .i64 f, .int .i64 0, .slice A n c] 34)).alloc (.cells #[.slice none 0 0, .int .i64 0, .int .i64 0, .int .i64 0, .int .i64 0, .slice none 0 0, .bool false, .bool false, .bool false] 28)).alloc (.cells #[.bool false, .bool false, .int .i64 0] 30)).heap.size = w.heap.size + 3 := by simp
      generalize (((w.alloc (.cells #[.int .i64 7, .int .i64 f, .int .i64 0, .slice A n c] 34)).alloc (.cells #[.slice none 0 0, .int .i64 0, .int .i64 0, .int .i64 0, .int .i64 0, .slice none 0 0, .bool false, .bool false, .bool false] 28)).alloc (.cells #[.bool false, .bool false, .int .i64 0] 30)) = W at hpw hWs ⊢
      have hpx := hpw.on ((Below.refl W.heap.size W).alloc (Nat.le_refl _) (.cells #[.slice none 0 0, .int .i64 0, .int .i64 0, .int .i64 0, .int .i64 0, .slice none 0 0, .bool false, .bool false, .bool false] 28))
      have hpb : Blk (W.alloc (.cells #[.slice none 0 0, .int .i64 0, .int .i64 0, .int .i64 0, .int .i64 0, .slice none 0 0, .bool false, .bool false, .bool false] 28)) (w.heap.size + 3) 28 #[.slice none 0 0, .int .i64 0, .int .i64 0, .int .i64 0, .int .i64 0, .slice none 0 0, .bool false, .bool false, .bool false] := by rw [← hWs]; exact Blk.new W _ _
      go_upto_region 2 with fail
      generalize W.alloc (.cells #[.slice none 0 0, .int .i64 0, .int .i64 0, .int .i64 0, .int .i64 0, .slice none 0 0, .bool false, .bool false, .bool false] 28) = X at hpx hpb ⊢
      clear hpw hWs
      obtain ⟨d0, d1, d2, d3⟩ := hpx.cells
      obtain ⟨p0, p1, p2, p3, p4, p5, p6, p7, p8, pf0, pf1, pf5⟩ := blk9 hpb
      have pf2 := hpb.frozen 2
      have pf3 := hpb.frozen 3
      have pf4 := hpb.frozen 4
      have pf7 := hpb.frozen 7
      have pf8 := hpb.frozen 8
      obtain ⟨k0, k1, k2, k3, k4, k5, k6, k7, k8, m0, m1, m2, f0, f1, f2, f3, f4, f5, f6, f7, f8, g0, g1, g2⟩ := hpx.pro.cells
      have HPX := hid (hpx.on ((Below.refl X.heap.size X).drew))
      have HBX := hid (show Blk X.drew (w.heap.size + 3) 28 #[.slice none 0 0, .int .i64 0, .int .i64 0, .int .i64 0, .int .i64 0, .slice none 0 0, .bool false, .bool false, .bool false] from hpb)
      have HB := hid (H.out.below (hpx.on ((Below.refl X.heap.size X).drew)).pro.below_)
      clear hpx hpb
      (refine wp_mix ?_ ?_ ?_; (focus kernel_rfl); (focus kernel_rfl); intro KK hKK; go_wp2_with (first
            | (fail)
            | (with_reducible refine mix_nil ?_)
            | ((with_reducible refine mix_on ?_ ?_); (focus rfl); intro K hK; go_simp; (first | ((with_reducible refine hK _ _ ?_); clear hK K) | skip))
            | ((with_reducible refine mix_off ?_ ?_); (focus rfl); intro K hK; go_simp; (first | ((with_reducible refine hK _ _ ?_); clear hK K) | skip))
            | ((with_reducible refine mix_step ?_); intro K hK; go_simp; (first | ((with_reducible refine hK _ _ ?_); clear hK K) | skip))))
      clear d0 d1 d2 d3 p0 p1 p2 p3 p4 p5 p6 p7 p8 pf0 pf1 pf2 pf3 pf4 pf5 pf7 pf8 k0 k1 k2 k3 k4 k5 k6 k7 k8 m0 m1 m2 f0 f1 f2 f3 f4 f5 f6 f7 f8 g0 g1 g2
      generalize X.drew = Y at HPX HBX HB ⊢
      obtain ⟨d0, d1, d2, d3⟩ := HPX.out.cells
      obtain ⟨p0, p1, p2, p3, p4, p5, p6, p7, p8, pf0, pf1, pf5⟩ := blk9 HBX.out
      obtain ⟨k0, k1, k2, k3, k4, k5, k6, k7, k8, m0, m1, m2, f0, f1, f2, f3, f4, f5, f6, f7, f8, g0, g1, g2⟩ := HPX.out.pro.cells
      have HBD := hid (show Bs Y.drew A n l from HB.out)
      have pf2 := HBX.out.frozen 2
      have pf3 := HBX.out.frozen 3
      have HSB := hid (show Turned [w.heap.size + 3] Y Y.drew from (Turned.refl _ _).drew)
      have LB : Hid (∀ w', Turned [w.heap.size + 3] Y w' → (Instr.loadAt 25 (.pointer (some ⟨w.heap.size, 3, none⟩))).run Try.prog w' = .ok (.slice A n c) w') := hid fun w' ht => by
        have z := ht.cell d3 (by simp)
        clear d0 d1 d2 d3 p0 p1 p2 p3 p4 p5 p6 p7 p8 k0 k1 k2 k3 k4 k5 k6 k7 k8 m0 m1 m2
        go_simp
      (refine wp_mixZ (Turned [w.heap.size + 3] Y) rfl ?_ ?_ (HSB.out) ?_; (focus kernel_rfl); (focus kernel_rfl); intro KK hKK; simp only [List.dropLast_cons_cons, List.dropLast_singleton]; go_wp2_with (first
                                                   | (first
        | ((with_reducible refine mixS_load LB.out ?_ ?_ ?_); (focus rfl); (focus rfl))
        | (go_at_call 27; (with_reducible refine (HV1.out _ HBD.out).mono ?_); rintro e w2 ⟨rfl, rfl⟩)
        | (go_at_call 27; go_must (refine (HV2.out _ HBD.out).mono ?_; rintro e w2 ⟨rfl, rfl⟩))
        | ((with_reducible refine And.intro ?_ ?_); (focus (first | (with_reducible exact HSB.out) | (with_reducible exact HSB.out.setCell (by simp) _) | exact HSB.out.setCell (by simp) _)))
        | ((with_reducible refine mix_nil ?_); refine hKK _ _ (HSB.out.setCell (by simp) _) ?_; (with_reducible refine last_on ?_ ?_); (focus rfl); intro K hK; go_simp))
                                                   | ((with_reducible refine mix_nil ?_); refine hKK _ _ (HSB.out) ?_; (with_reducible refine last_on ?_ ?_); (focus rfl); intro K hK; go_simp)
                                                   | ((with_reducible refine mixS_on ?_ ?_); (focus rfl); intro K K' hK hK'; go_simp; (first | ((with_reducible refine hK _ _ ?_); clear hK hK' K K') | ((with_reducible refine hK' _ _ ?_); clear hK hK' K K') | skip))
                                                   | ((with_reducible refine mixS_off ?_ ?_); (focus rfl); intro K hK; go_simp; (first | ((with_reducible refine hK _ _ ?_); clear hK K) | skip))
                                                   | ((with_reducible refine mixS_step ?_); intro K K' hK hK'; go_simp; (first | ((with_reducible refine hK _ _ ?_); clear hK hK' K K') | ((with_reducible refine hK' _ _ ?_); clear hK hK' K K') | skip))))
      go_wp2_with fail
      simp only [drew_in]
      refine part_end Try.results10 rfl rfl ((HPX.out.on ((Below.refl Y.heap.size Y).drew)).turn (((Turned.refl _ _).setCell (p := ⟨w.heap.size + 3, 3, none⟩) (by simp) (.int .i64 m4)).setCell (p := ⟨w.heap.size + 3, 2, none⟩) (by simp) (.int .i64 b4))).pro.p rfl ((HPX.out.on ((Below.refl Y.heap.size Y).drew)).turn (((Turned.refl _ _).setCell (p := ⟨w.heap.size + 3, 3, none⟩) (by simp) (.int .i64 m4)).setCell (p := ⟨w.heap.size + 3, 2, none⟩) (by simp) (.int .i64 b4))).pro.q rfl (by omega) ?_
      intro w' ht
      rw [HU.out]
      exact PartPost.plain rfl rfl (((HPX.out.on ((Below.refl Y.heap.size Y).drew)).turn (((Turned.refl _ _).setCell (p := ⟨w.heap.size + 3, 3, none⟩) (by simp) (.int .i64 m4)).setCell (p := ⟨w.heap.size + 3, 2, none⟩) (by simp) (.int .i64 b4))).pro.fin ht)
  · have HU : Hid (readP 7 f s l = connP 1) := hid (by unfold readP; simp [wholeP, hs])
    have hs2 : (s != 0) = true := by simp [hs]
    clear hlen
    go_enter Try.func10, Try.ntmps10
    go_upto_region 1 with fail
    have hpw := ProF.new w 7 f s A n c
    have hWs : (((w.alloc (.cells #[.int .i64 7, .int .i64 f, .int .i64 s, .slice A n c] 34)).alloc (.cells #[.slice none 0 0, .int .i64 0, .int .i64 0, .int .i64 0, .int .i64 0, .slice none 0 0, .bool false, .bool false, .bool false] 28)).alloc (.cells #[.bool false, .bool false, .int .i64 0] 30)).heap.size = w.heap.size + 3 := by simp
    generalize (((w.alloc (.cells #[.int .i64 7, .int .i64 f, .int .i64 s, .slice A n c] 34)).alloc (.cells #[.slice none 0 0, .int .i64 0, .int .i64 0, .int .i64 0, .int .i64 0, .slice none 0 0, .bool false, .bool false, .bool false] 28)).alloc (.cells #[.bool false, .bool false, .int .i64 0] 30)) = W at hpw hWs ⊢
    have hpx := hpw.on ((Below.refl W.heap.size W).alloc (Nat.le_refl _) (.cells #[.slice none 0 0, .int .i64 0, .int .i64 0, .int .i64 0, .int .i64 0, .slice none 0 0, .bool false, .bool false, .bool false] 28))
    have hpb : Blk (W.alloc (.cells #[.slice none 0 0, .int .i64 0, .int .i64 0, .int .i64 0, .int .i64 0, .slice none 0 0, .bool false, .bool false, .bool false] 28)) (w.heap.size + 3) 28 #[.slice none 0 0, .int .i64 0, .int .i64 0, .int .i64 0, .int .i64 0, .slice none 0 0, .bool false, .bool false, .bool false] := by rw [← hWs]; exact Blk.new W _ _
    go_upto_region 2 with fail
    generalize W.alloc (.cells #[.slice none 0 0, .int .i64 0, .int .i64 0, .int .i64 0, .int .i64 0, .slice none 0 0, .bool false, .bool false, .bool false] 28) = X at hpx hpb ⊢
    clear hpw hWs
    obtain ⟨d0, d1, d2, d3⟩ := hpx.cells
    obtain ⟨p0, p1, p2, p3, p4, p5, p6, p7, p8, pf0, pf1, pf5⟩ := blk9 hpb
    have pf2 := hpb.frozen 2
    have pf3 := hpb.frozen 3
    have pf4 := hpb.frozen 4
    have pf7 := hpb.frozen 7
    have pf8 := hpb.frozen 8
    obtain ⟨k0, k1, k2, k3, k4, k5, k6, k7, k8, m0, m1, m2, f0, f1, f2, f3, f4, f5, f6, f7, f8, g0, g1, g2⟩ := hpx.pro.cells
    have HPX := hid (hpx.on ((Below.refl X.heap.size X).drew))
    have HBX := hid (show Blk X.drew (w.heap.size + 3) 28 #[.slice none 0 0, .int .i64 0, .int .i64 0, .int .i64 0, .int .i64 0, .slice none 0 0, .bool false, .bool false, .bool false] from hpb)
    have HB := hid (H.out.below (hpx.on ((Below.refl X.heap.size X).drew)).pro.below_)
    clear hpx hpb
    (refine wp_mix ?_ ?_ ?_; (focus kernel_rfl); (focus kernel_rfl); intro KK hKK; go_wp2_with (first
          | (fail)
          | (with_reducible refine mix_nil ?_)
          | ((with_reducible refine mix_on ?_ ?_); (focus rfl); intro K hK; go_simp; (first | ((with_reducible refine hK _ _ ?_); clear hK K) | skip))
          | ((with_reducible refine mix_off ?_ ?_); (focus rfl); intro K hK; go_simp; (first | ((with_reducible refine hK _ _ ?_); clear hK K) | skip))
          | ((with_reducible refine mix_step ?_); intro K hK; go_simp; (first | ((with_reducible refine hK _ _ ?_); clear hK K) | skip))))
    clear d0 d1 d2 d3 p0 p1 p2 p3 p4 p5 p6 p7 p8 pf0 pf1 pf2 pf3 pf4 pf5 pf7 pf8 k0 k1 k2 k3 k4 k5 k6 k7 k8 m0 m1 m2 f0 f1 f2 f3 f4 f5 f6 f7 f8 g0 g1 g2
    generalize X.drew = Y at HPX HBX HB ⊢
    obtain ⟨d0, d1, d2, d3⟩ := HPX.out.cells
    obtain ⟨p0, p1, p2, p3, p4, p5, p6, p7, p8, pf0, pf1, pf5⟩ := blk9 HBX.out
    obtain ⟨k0, k1, k2, k3, k4, k5, k6, k7, k8, m0, m1, m2, f0, f1, f2, f3, f4, f5, f6, f7, f8, g0, g1, g2⟩ := HPX.out.pro.cells
    have HSB := hid (show Turned [w.heap.size + 1, w.heap.size + 2] Y Y.drew from (Turned.refl _ _).drew)
    have LP : Hid (∀ w', Turned [w.heap.size + 1, w.heap.size + 2] Y w' → (Instr.loadAt 28 (.pointer (some ⟨w.heap.size + 3, 0, none⟩))).run Try.prog w' = .ok (.agg #[.slice none 0 0, .int .i64 0, .int .i64 0, .int .i64 0, .int .i64 0, .slice none 0 0, .bool false, .bool false, .bool false]) w') := hid fun w' ht => by
      have z0 := ht.cell p0 (by simp)
      have z1 := ht.cell p1 (by simp)
      have z2 := ht.cell p2 (by simp)
      have z3 := ht.cell p3 (by simp)
      have z4 := ht.cell p4 (by simp)
      have z5 := ht.cell p5 (by simp)
      have z6 := ht.cell p6 (by simp)
      have z7 := ht.cell p7 (by simp)
      have z8 := ht.cell p8 (by simp)
      clear d0 d1 d2 d3 p0 p1 p2 p3 p4 p5 p6 p7 p8 k0 k1 k2 k3 k4 k5 k6 k7 k8 m0 m1 m2
      go_simp
    clear d0 d1 d2 d3 p0 p1 p2 p3 p4 p5 p6 p7 p8 pf0 pf1 pf5 k0 k1 k2 k3 k4 k5 k6 k7 k8 m0 m1 m2 f0 f1 f2 f3 f4 f5 f6 f7 f8 g0 g1 g2
    (refine wp_mixZ (Turned [w.heap.size + 1, w.heap.size + 2] Y) rfl ?_ ?_ (HSB.out) ?_; (focus kernel_rfl); (focus kernel_rfl); intro KK hKK; simp only [List.dropLast_cons_cons, List.dropLast_singleton]; go_wp2_with (first
                                                                  | (first
      | ((with_reducible refine mixS_load LP.out ?_ ?_ ?_); (focus rfl); (focus rfl))
      | (go_at_call 26; go_must (refine (rfault_any 1 true _).mono ?_; unfold ft; rintro e w1 ⟨rfl, hb1⟩; have HSB := hid (HSB.out.then hb1); have hP := (HPX.out.pro.on (Below.refl _ _).drew).on hb1; have HP := hid hP; clear hb1; obtain ⟨k0, k1, k2, k3, k4, k5, k6, k7, k8, m0, m1, m2, f0, f1, f2, f3, f4, f5, f6, f7, f8, g0, g1, g2⟩ := hP.cells; clear hP))
      | ((with_reducible refine And.intro ?_ ?_); (focus (first | (with_reducible exact HSB.out) | exact turned9 HSB.out (by simp))))
      | ((with_reducible refine mix_nil ?_); refine hKK _ _ (turned9 HSB.out (by simp)) ?_; (with_reducible refine last_on ?_ ?_); (focus rfl); intro K hK; go_simp))
                                                                  | ((with_reducible refine mix_nil ?_); refine hKK _ _ (HSB.out) ?_; (with_reducible refine last_on ?_ ?_); (focus rfl); intro K hK; go_simp)
                                                                  | ((with_reducible refine mixS_on ?_ ?_); (focus rfl); intro K K' hK hK'; go_simp; (first | ((with_reducible refine hK _ _ ?_); clear hK hK' K K') | ((with_reducible refine hK' _ _ ?_); clear hK hK' K K') | skip))
                                                                  | ((with_reducible refine mixS_off ?_ ?_); (focus rfl); intro K hK; go_simp; (first | ((with_reducible refine hK _ _ ?_); clear hK K) | skip))
                                                                  | ((with_reducible refine mixS_step ?_); intro K K' hK hK'; go_simp; (first | ((with_reducible refine hK _ _ ?_); clear hK hK' K K') | ((with_reducible refine hK' _ _ ?_); clear hK hK' K K') | skip))))
    refine part_end Try.results10 rfl rfl HP.out.p rfl HP.out.q rfl (by omega) ?_
    intro w' ht
    rw [HU.out]
    exact PartPost.plain rfl rfl (HP.out.fin ht)

set_option maxHeartbeats 4000000 in
set_option maxRecDepth 100000 in
theorem rread_8a (f : Int) (A : Option Addr) (c : Nat) (l : List UInt8) (w : World) (h : Bs w A 4 l) (hnc : 4 ≤ c) (hn : 4 ≤ 1099511627776) (hm : m31 (n4 l) = 0) :
    Calls Try.prog 10 #[.agg #[.int .i64 8, .int .i64 f, .int .i64 0, .slice A 4 c]] w (PartPost (readP 8 f 0 l) w) := by
  have hlen := h.len
  have H := hid h
  clear h
  have HU : Hid (readP 8 f 0 l = connP 1) := hid (by unfold readP; simp [updateP, hlen, hm])
  have h4n := n4_le l
  have hm31 := m31b h4n.1 h4n.2
  clear h4n
  rw [hm] at hm31
  clear hlen
  go_enter Try.func10, Try.ntmps10
  go_upto_region 1 with fail
  have hpw := ProF.new w 8 f 0 A 4 c
  have hWs : (((w.alloc (.cells #[.int .i64 8, .int .i64 f, .int .i64 0, .slice A 4 c] 34)).alloc (.cells #[.slice none 0 0, .int .i64 0, .int .i64 0, .int .i64 0, .int .i64 0, .slice none 0 0, .bool false, .bool false, .bool false] 28)).alloc (.cells #[.bool false, .bool false, .int .i64 0] 30)).heap.size = w.heap.size + 3 := by simp
  generalize (((w.alloc (.cells #[.int .i64 8, .int .i64 f, .int .i64 0, .slice A 4 c] 34)).alloc (.cells #[.slice none 0 0, .int .i64 0, .int .i64 0, .int .i64 0, .int .i64 0, .slice none 0 0, .bool false, .bool false, .bool false] 28)).alloc (.cells #[.bool false, .bool false, .int .i64 0] 30)) = W at hpw hWs ⊢
  have hpx := hpw.on ((Below.refl W.heap.size W).alloc (Nat.le_refl _) (.cells #[.slice none 0 0, .int .i64 0, .int .i64 0, .int .i64 0, .int .i64 0, .slice none 0 0, .bool false, .bool false, .bool false] 28))
  have hpb : Blk (W.alloc (.cells #[.slice none 0 0, .int .i64 0, .int .i64 0, .int .i64 0, .int .i64 0, .slice none 0 0, .bool false, .bool false, .bool false] 28)) (w.heap.size + 3) 28 #[.slice none 0 0, .int .i64 0, .int .i64 0, .int .i64 0, .int .i64 0, .slice none 0 0, .bool false, .bool false, .bool false] := by rw [← hWs]; exact Blk.new W _ _
  go_upto_region 2 with fail
  generalize W.alloc (.cells #[.slice none 0 0, .int .i64 0, .int .i64 0, .int .i64 0, .int .i64 0, .slice none 0 0, .bool false, .bool false, .bool false] 28) = X at hpx hpb ⊢
  clear hpw hWs
  obtain ⟨d0, d1, d2, d3⟩ := hpx.cells
  obtain ⟨p0, p1, p2, p3, p4, p5, p6, p7, p8, pf0, pf1, pf5⟩ := blk9 hpb
  have pf2 := hpb.frozen 2
  have pf3 := hpb.frozen 3
  have pf4 := hpb.frozen 4
  have pf7 := hpb.frozen 7
  have pf8 := hpb.frozen 8
  obtain ⟨k0, k1, k2, k3, k4, k5, k6, k7, k8, m0, m1, m2, f0, f1, f2, f3, f4, f5, f6, f7, f8, g0, g1, g2⟩ := hpx.pro.cells
  have HPX := hid (hpx.on ((Below.refl X.heap.size X).drew))
  have HBX := hid (show Blk X.drew (w.heap.size + 3) 28 #[.slice none 0 0, .int .i64 0, .int .i64 0, .int .i64 0, .int .i64 0, .slice none 0 0, .bool false, .bool false, .bool false] from hpb)
  have HB := hid (H.out.below (hpx.on ((Below.refl X.heap.size X).drew)).pro.below_)
  clear hpx hpb
  (refine wp_mix ?_ ?_ ?_; (focus kernel_rfl); (focus kernel_rfl); intro KK hKK; go_wp2_with (first
        | ((go_at_call 27; go_must (refine (val_4 A 4 c l _ HB.out (by omega)).mono ?_; rintro e w2 ⟨rfl, rfl⟩)))
        | (with_reducible refine mix_nil ?_)
        | ((with_reducible refine mix_on ?_ ?_); (focus rfl); intro K hK; go_simp; (first | ((with_reducible refine hK _ _ ?_); clear hK K) | skip))
        | ((with_reducible refine mix_off ?_ ?_); (focus rfl); intro K hK; go_simp; (first | ((with_reducible refine hK _ _ ?_); clear hK K) | skip))
        | ((with_reducible refine mix_step ?_); intro K hK; go_simp; (first | ((with_reducible refine hK _ _ ?_); clear hK K) | skip))))
  have HPX := hid (show ProF w (X.setCell ⟨w.heap.size + 3, 4, none⟩ (.int .i64 0)).drew 8 f 0 A 4 c from HPX.out.turn (set3 4 (.int .i64 0)))
  have HBX := hid (show Blk (X.setCell ⟨w.heap.size + 3, 4, none⟩ (.int .i64 0)).drew (w.heap.size + 3) 28 #[.slice none 0 0, .int .i64 0, .int .i64 0, .int .i64 0, .int .i64 0, .slice none 0 0, .bool false, .bool false, .bool false] from HBX.out.set_ 4 (.int .i64 0))
  clear HB
  clear d0 d1 d2 d3 p0 p1 p2 p3 p4 p5 p6 p7 p8 pf0 pf1 pf2 pf3 pf4 pf5 pf7 pf8 k0 k1 k2 k3 k4 k5 k6 k7 k8 m0 m1 m2 f0 f1 f2 f3 f4 f5 f6 f7 f8 g0 g1 g2
  generalize (X.setCell ⟨w.heap.size + 3, 4, none⟩ (.int .i64 0)).drew = Y at HPX HBX ⊢
  obtain ⟨d0, d1, d2, d3⟩ := HPX.out.cells
  obtain ⟨p0, p1, p2, p3, p4, p5, p6, p7, p8, pf0, pf1, pf5⟩ := blk9 HBX.out
  obtain ⟨k0, k1, k2, k3, k4, k5, k6, k7, k8, m0, m1, m2, f0, f1, f2, f3, f4, f5, f6, f7, f8, g0, g1, g2⟩ := HPX.out.pro.cells
  have HSB := hid (show Turned [w.heap.size + 1, w.heap.size + 2] Y Y.drew from (Turned.refl _ _).drew)
  have LP : Hid (∀ w', Turned [w.heap.size + 1, w.heap.size + 2] Y w' → (Instr.loadAt 28 (.pointer (some ⟨w.heap.size + 3, 0, none⟩))).run Try.prog w' = .ok (.agg #[.slice none 0 0, .int .i64 0, .int .i64 0, .int .i64 0, .int .i64 0, .slice none 0 0, .bool false, .bool false, .bool false]) w') := hid fun w' ht => by
    have z0 := ht.cell p0 (by simp)
    have z1 := ht.cell p1 (by simp)
    have z2 := ht.cell p2 (by simp)
    have z3 := ht.cell p3 (by simp)
    have z4 := ht.cell p4 (by simp)
    have z5 := ht.cell p5 (by simp)
    have z6 := ht.cell p6 (by simp)
    have z7 := ht.cell p7 (by simp)
    have z8 := ht.cell p8 (by simp)
    clear d0 d1 d2 d3 p0 p1 p2 p3 p4 p5 p6 p7 p8 k0 k1 k2 k3 k4 k5 k6 k7 k8 m0 m1 m2
    go_simp
  clear d0 d1 d2 d3 p0 p1 p2 p3 p4 p5 p6 p7 p8 pf0 pf1 pf5 k0 k1 k2 k3 k4 k5 k6 k7 k8 m0 m1 m2 f0 f1 f2 f3 f4 f5 f6 f7 f8 g0 g1 g2
  (refine wp_mixZ (Turned [w.heap.size + 1, w.heap.size + 2] Y) rfl ?_ ?_ (HSB.out) ?_; (focus kernel_rfl); (focus kernel_rfl); intro KK hKK; simp only [List.dropLast_cons_cons, List.dropLast_singleton]; go_wp2_with (first
                                                                | (first
    | ((with_reducible refine mixS_load LP.out ?_ ?_ ?_); (focus rfl); (focus rfl))
    | (go_at_call 26; go_must (refine (rfault_any 1 true _).mono ?_; unfold ft; rintro e w1 ⟨rfl, hb1⟩; have HSB := hid (HSB.out.then hb1); have hP := (HPX.out.pro.on (Below.refl _ _).drew).on hb1; have HP := hid hP; clear hb1; obtain ⟨k0, k1, k2, k3, k4, k5, k6, k7, k8, m0, m1, m2, f0, f1, f2, f3, f4, f5, f6, f7, f8, g0, g1, g2⟩ := hP.cells; clear hP))
    | ((with_reducible refine And.intro ?_ ?_); (focus (first | (with_reducible exact HSB.out) | exact turned9 HSB.out (by simp))))
    | ((with_reducible refine mix_nil ?_); refine hKK _ _ (turned9 HSB.out (by simp)) ?_; (with_reducible refine last_on ?_ ?_); (focus rfl); intro K hK; go_simp))
                                                                | ((with_reducible refine mix_nil ?_); refine hKK _ _ (HSB.out) ?_; (with_reducible refine last_on ?_ ?_); (focus rfl); intro K hK; go_simp)
                                                                | ((with_reducible refine mixS_on ?_ ?_); (focus rfl); intro K K' hK hK'; go_simp; (first | ((with_reducible refine hK _ _ ?_); clear hK hK' K K') | ((with_reducible refine hK' _ _ ?_); clear hK hK' K K') | skip))
                                                                | ((with_reducible refine mixS_off ?_ ?_); (focus rfl); intro K hK; go_simp; (first | ((with_reducible refine hK _ _ ?_); clear hK K) | skip))
                                                                | ((with_reducible refine mixS_step ?_); intro K K' hK hK'; go_simp; (first | ((with_reducible refine hK _ _ ?_); clear hK hK' K K') | ((with_reducible refine hK' _ _ ?_); clear hK hK' K K') | skip))))
  refine part_end Try.results10 rfl rfl HP.out.p rfl HP.out.q rfl (by omega) ?_
  intro w' ht
  rw [HU.out]
  exact PartPost.plain rfl rfl (HP.out.fin ht)

set_option maxHeartbeats 4000000 in
set_option maxRecDepth 100000 in
theorem rread_8b (f s : Int) (A : Option Addr) (c : Nat) (l : List UInt8) (w : World) (h : Bs w A 4 l) (hnc : 4 ≤ c) (hn : 4 ≤ 1099511627776) (hs : s ≠ 0) (hm : m31 (n4 l) = 0) :
    Calls Try.prog 10 #[.agg #[.int .i64 8, .int .i64 f, .int .i64 s, .slice A 4 c]] w (PartPost (readP 8 f s l) w) := by
  have hlen := h.len
  have H := hid h
  clear h
  have HU : Hid (readP 8 f s l = streamP 1) := hid (by unfold readP; simp [updateP, hlen, hm, hs])
  have h4n := n4_le l
  have hm31 := m31b h4n.1 h4n.2
  clear h4n
  rw [hm] at hm31
  have hs2 : (s != 0) = true := by simp [hs]
  clear hlen
  go_enter Try.func10, Try.ntmps10
  go_upto_region 1 with fail
  have hpw := ProF.new w 8 f s A 4 c
  have hWs : (((w.alloc (.cells #[.int .i64 8, .int .i64 f, .int .i64 s, .slice A 4 c] 34)).alloc (.cells #[.slice none 0 0, .int .i64 0, .int .i64 0, .int .i64 0, .int .i64 0, .slice none 0 0, .bool false, .bool false, .bool false] 28)).alloc (.cells #[.bool false, .bool false, .int .i64 0] 30)).heap.size = w.heap.size + 3 := by simp
  generalize (((w.alloc (.cells #[.int .i64 8, .int .i64 f, .int .i64 s, .slice A 4 c] 34)).alloc (.cells #[.slice none 0 0, .int .i64 0, .int .i64 0, .int .i64 0, .int .i64 0, .slice none 0 0, .bool false, .bool false, .bool false] 28)).alloc (.cells #[.bool false, .bool false, .int .i64 0] 30)) = W at hpw hWs ⊢
  have hpx := hpw.on ((Below.refl W.heap.size W).alloc (Nat.le_refl _) (.cells #[.slice none 0 0, .int .i64 0, .int .i64 0, .int .i64 0, .int .i64 0, .slice none 0 0, .bool false, .bool false, .bool false] 28))
  have hpb : Blk (W.alloc (.cells #[.slice none 0 0, .int .i64 0, .int .i64 0, .int .i64 0, .int .i64 0, .slice none 0 0, .bool false, .bool false, .bool false] 28)) (w.heap.size + 3) 28 #[.slice none 0 0, .int .i64 0, .int .i64 0, .int .i64 0, .int .i64 0, .slice none 0 0, .bool false, .bool false, .bool false] := by rw [← hWs]; exact Blk.new W _ _
  go_upto_region 2 with fail
  generalize W.alloc (.cells #[.slice none 0 0, .int .i64 0, .int .i64 0, .int .i64 0, .int .i64 0, .slice none 0 0, .bool false, .bool false, .bool false] 28) = X at hpx hpb ⊢
  clear hpw hWs
  obtain ⟨d0, d1, d2, d3⟩ := hpx.cells
  obtain ⟨p0, p1, p2, p3, p4, p5, p6, p7, p8, pf0, pf1, pf5⟩ := blk9 hpb
  have pf2 := hpb.frozen 2
  have pf3 := hpb.frozen 3
  have pf4 := hpb.frozen 4
  have pf7 := hpb.frozen 7
  have pf8 := hpb.frozen 8
  obtain ⟨k0, k1, k2, k3, k4, k5, k6, k7, k8, m0, m1, m2, f0, f1, f2, f3, f4, f5, f6, f7, f8, g0, g1, g2⟩ := hpx.pro.cells
  have HPX := hid (hpx.on ((Below.refl X.heap.size X).drew))
  have HBX := hid (show Blk X.drew (w.heap.size + 3) 28 #[.slice none 0 0, .int .i64 0, .int .i64 0, .int .i64 0, .int .i64 0, .slice none 0 0, .bool false, .bool false, .bool false] from hpb)
  have HB := hid (H.out.below (hpx.on ((Below.refl X.heap.size X).drew)).pro.below_)
  clear hpx hpb
  (refine wp_mix ?_ ?_ ?_; (focus kernel_rfl); (focus kernel_rfl); intro KK hKK; go_wp2_with (first
        | ((go_at_call 27; go_must (refine (val_4 A 4 c l _ HB.out (by omega)).mono ?_; rintro e w2 ⟨rfl, rfl⟩)))
        | (with_reducible refine mix_nil ?_)
        | ((with_reducible refine mix_on ?_ ?_); (focus rfl); intro K hK; go_simp; (first | ((with_reducible refine hK _ _ ?_); clear hK K) | skip))
        | ((with_reducible refine mix_off ?_ ?_); (focus rfl); intro K hK; go_simp; (first | ((with_reducible refine hK _ _ ?_); clear hK K) | skip))
        | ((with_reducible refine mix_step ?_); intro K hK; go_simp; (first | ((with_reducible refine hK _ _ ?_); clear hK K) | skip))))
  have HPX := hid (show ProF w (X.setCell ⟨w.heap.size + 3, 4, none⟩ (.int .i64 0)).drew 8 f s A 4 c from HPX.out.turn (set3 4 (.int .i64 0)))
  have HBX := hid (show Blk (X.setCell ⟨w.heap.size + 3, 4, none⟩ (.int .i64 0)).drew (w.heap.size + 3) 28 #[.slice none 0 0, .int .i64 0, .int .i64 0, .int .i64 0, .int .i64 0, .slice none 0 0, .bool false, .bool false, .bool false] from HBX.out.set_ 4 (.int .i64 0))
  clear HB
  clear d0 d1 d2 d3 p0 p1 p2 p3 p4 p5 p6 p7 p8 pf0 pf1 pf2 pf3 pf4 pf5 pf7 pf8 k0 k1 k2 k3 k4 k5 k6 k7 k8 m0 m1 m2 f0 f1 f2 f3 f4 f5 f6 f7 f8 g0 g1 g2
  generalize (X.setCell ⟨w.heap.size + 3, 4, none⟩ (.int .i64 0)).drew = Y at HPX HBX ⊢
  obtain ⟨d0, d1, d2, d3⟩ := HPX.out.cells
  obtain ⟨p0, p1, p2, p3, p4, p5, p6, p7, p8, pf0, pf1, pf5⟩ := blk9 HBX.out
  obtain ⟨k0, k1, k2, k3, k4, k5, k6, k7, k8, m0, m1, m2, f0, f1, f2, f3, f4, f5, f6, f7, f8, g0, g1, g2⟩ := HPX.out.pro.cells
  have HSB := hid (show Turned [w.heap.size + 1, w.heap.size + 2] Y Y.drew from (Turned.refl _ _).drew)
  have LP : Hid (∀ w', Turned [w.heap.size + 1, w.heap.size + 2] Y w' → (Instr.loadAt 28 (.pointer (some ⟨w.heap.size + 3, 0, none⟩))).run Try.prog w' = .ok (.agg #[.slice none 0 0, .int .i64 0, .int .i64 0, .int .i64 0, .int .i64 0, .slice none 0 0, .bool false, .bool false, .bool false]) w') := hid fun w' ht => by
    have z0 := ht.cell p0 (by simp)
    have z1 := ht.cell p1 (by simp)
    have z2 := ht.cell p2 (by simp)
    have z3 := ht.cell p3 (by simp)
    have z4 := ht.cell p4 (by simp)
    have z5 := ht.cell p5 (by simp)
    have z6 := ht.cell p6 (by simp)
    have z7 := ht.cell p7 (by simp)
    have z8 := ht.cell p8 (by simp)
    clear d0 d1 d2 d3 p0 p1 p2 p3 p4 p5 p6 p7 p8 k0 k1 k2 k3 k4 k5 k6 k7 k8 m0 m1 m2
    go_simp
  clear d0 d1 d2 d3 p0 p1 p2 p3 p4 p5 p6 p7 p8 pf0 pf1 pf5 k0 k1 k2 k3 k4 k5 k6 k7 k8 m0 m1 m2 f0 f1 f2 f3 f4 f5 f6 f7 f8 g0 g1 g2
  (refine wp_mixZ (Turned [w.heap.size + 1, w.heap.size + 2] Y) rfl ?_ ?_ (HSB.out) ?_; (focus kernel_rfl); (focus kernel_rfl); intro KK hKK; simp only [List.dropLast_cons_cons, List.dropLast_singleton]; go_wp2_with (first
                                                                | (first
    | ((with_reducible refine mixS_load LP.out ?_ ?_ ?_); (focus rfl); (focus rfl))
    | (go_at_call 26; go_must (refine (rfault_any 1 false _).mono ?_; unfold ft; rintro e w1 ⟨rfl, hb1⟩; have HSB := hid (HSB.out.then hb1); have hP := (HPX.out.pro.on (Below.refl _ _).drew).on hb1; have HP := hid hP; clear hb1; obtain ⟨k0, k1, k2, k3, k4, k5, k6, k7, k8, m0, m1, m2, f0, f1, f2, f3, f4, f5, f6, f7, f8, g0, g1, g2⟩ := hP.cells; clear hP))
    | ((with_reducible refine And.intro ?_ ?_); (focus (first | (with_reducible exact HSB.out) | exact turned9 HSB.out (by simp))))
    | ((with_reducible refine mix_nil ?_); refine hKK _ _ (turned9 HSB.out (by simp)) ?_; (with_reducible refine last_on ?_ ?_); (focus rfl); intro K hK; go_simp))
                                                                | ((with_reducible refine mix_nil ?_); refine hKK _ _ (HSB.out) ?_; (with_reducible refine last_on ?_ ?_); (focus rfl); intro K hK; go_simp)
                                                                | ((with_reducible refine mixS_on ?_ ?_); (focus rfl); intro K K' hK hK'; go_simp; (first | ((with_reducible refine hK _ _ ?_); clear hK hK' K K') | ((with_reducible refine hK' _ _ ?_); clear hK hK' K K') | skip))
                                                                | ((with_reducible refine mixS_off ?_ ?_); (focus rfl); intro K hK; go_simp; (first | ((with_reducible refine hK _ _ ?_); clear hK K) | skip))
                                                                | ((with_reducible refine mixS_step ?_); intro K K' hK hK'; go_simp; (first | ((with_reducible refine hK _ _ ?_); clear hK hK' K K') | ((with_reducible refine hK' _ _ ?_); clear hK hK' K K') | skip))))
  refine part_end Try.results10 rfl rfl HP.out.p rfl HP.out.q rfl (by omega) ?_
  intro w' ht
  rw [HU.out]
  exact PartPost.plain rfl rfl (HP.out.fin ht)

set_option maxHeartbeats 4000000 in
set_option maxRecDepth 100000 in
theorem rread_8c (f s : Int) (A : Option Addr) (c : Nat) (l : List UInt8) (w : World) (h : Bs w A 4 l) (hnc : 4 ≤ c) (hn : 4 ≤ 1099511627776) (hm : m31 (n4 l) ≠ 0) :
    Calls Try.prog 10 #[.agg #[.int .i64 8, .int .i64 f, .int .i64 s, .slice A 4 c]] w (PartPost (readP 8 f s l) w) := by
  have hlen := h.len
  have H := hid h
  clear h
  have HU : Hid (readP 8 f s l = { step := m31 (n4 l) }) := hid (by unfold readP; simp [updateP, hlen, hm])
  have h4n := n4_le l
  have hm31 := m31b h4n.1 h4n.2
  clear h4n
  obtain ⟨a4, ha4⟩ : ∃ a, n4 l = a := ⟨_, rfl⟩
  obtain ⟨m4, hm4⟩ : ∃ a, m31 a4 = a := ⟨_, rfl⟩
  have HV1 : Hid (∀ w, Bs w A 4 l → Calls Try.prog 27 #[.slice A 4 c] w fun e w' => e = .returned (.int .i64 a4) ∧ w = w') := hid fun w h => by rw [← ha4]; exact val_4 A 4 c l w h (by omega)
  rw [ha4, hm4] at HU
  rw [ha4, hm4] at hm31
  rw [ha4, hm4] at hm
  clear ha4 hm4
  have hmb : (m4 == 0) = false := by simp [hm]
  clear hlen
  go_enter Try.func10, Try.ntmps10
  go_upto_region 1 with fail
  have hpw := ProF.new w 8 f s A 4 c
  have hWs : (((w.alloc (.cells #[.int .i64 8, .int .i64 f, .int .i64 s, .slice A 4 c] 34)).alloc (.cells #[.slice none 0 0, .int .i64 0, .int .i64 0, .int .i64 0, .int .i64 0, .slice none 0 0, .bool false, .bool false, .bool false] 28)).alloc (.cells #[.bool false, .bool false, .int .i64 0] 30)).heap.size = w.heap.size + 3 := by simp
  generalize (((w.alloc (.cells #[.int .i64 8, .int .i64 f, .int .i64 s, .slice A 4 c] 34)).alloc (.cells #[.slice none 0 0, .int .i64 0, .int .i64 0, .int .i64 0, .int .i64 0, .slice none 0 0, .bool false, .bool false, .bool false] 28)).alloc (.cells #[.bool false, .bool false, .int .i64 0] 30)) = W at hpw hWs ⊢
  have hpx := hpw.on ((Below.refl W.heap.size W).alloc (Nat.le_refl _) (.cells #[.slice none 0 0, .int .i64 0, .int .i64 0, .int .i64 0, .int .i64 0, .slice none 0 0, .bool false, .bool false, .bool false] 28))
  have hpb : Blk (W.alloc (.cells #[.slice none 0 0, .int .i64 0, .int .i64 0, .int .i64 0, .int .i64 0, .slice none 0 0, .bool false, .bool false, .bool false] 28)) (w.heap.size + 3) 28 #[.slice none 0 0, .int .i64 0, .int .i64 0, .int .i64 0, .int .i64 0, .slice none 0 0, .bool false, .bool false, .bool false] := by rw [← hWs]; exact Blk.new W _ _
  go_upto_region 2 with fail
  generalize W.alloc (.cells #[.slice none 0 0, .int .i64 0, .int .i64 0, .int .i64 0, .int .i64 0, .slice none 0 0, .bool false, .bool false, .bool false] 28) = X at hpx hpb ⊢
  clear hpw hWs
  obtain ⟨d0, d1, d2, d3⟩ := hpx.cells
  obtain ⟨p0, p1, p2, p3, p4, p5, p6, p7, p8, pf0, pf1, pf5⟩ := blk9 hpb
  have pf2 := hpb.frozen 2
  have pf3 := hpb.frozen 3
  have pf4 := hpb.frozen 4
  have pf7 := hpb.frozen 7
  have pf8 := hpb.frozen 8
  obtain ⟨k0, k1, k2, k3, k4, k5, k6, k7, k8, m0, m1, m2, f0, f1, f2, f3, f4, f5, f6, f7, f8, g0, g1, g2⟩ := hpx.pro.cells
  have HPX := hid (hpx.on ((Below.refl X.heap.size X).drew))
  have HBX := hid (show Blk X.drew (w.heap.size + 3) 28 #[.slice none 0 0, .int .i64 0, .int .i64 0, .int .i64 0, .int .i64 0, .slice none 0 0, .bool false, .bool false, .bool false] from hpb)
  have HB := hid (H.out.below (hpx.on ((Below.refl X.heap.size X).drew)).pro.below_)
  clear hpx hpb
  (refine wp_mix ?_ ?_ ?_; (focus kernel_rfl); (focus kernel_rfl); intro KK hKK; go_wp2_with (first
        | ((go_at_call 27; go_must (refine (HV1.out _ HB.out).mono ?_; rintro e w2 ⟨rfl, rfl⟩)))
        | (with_reducible refine mix_nil ?_)
        | ((with_reducible refine mix_on ?_ ?_); (focus rfl); intro K hK; go_simp; (first | ((with_reducible refine hK _ _ ?_); clear hK K) | skip))
        | ((with_reducible refine mix_off ?_ ?_); (focus rfl); intro K hK; go_simp; (first | ((with_reducible refine hK _ _ ?_); clear hK K) | skip))
        | ((with_reducible refine mix_step ?_); intro K hK; go_simp; (first | ((with_reducible refine hK _ _ ?_); clear hK K) | skip))))
  simp only [drew_in]
  refine part_end Try.results10 rfl rfl (HPX.out.turn (set3 4 _)).pro.p rfl (HPX.out.turn (set3 4 _)).pro.q rfl (by omega) ?_
  intro w' ht
  rw [HU.out]
  exact PartPost.plain rfl rfl ((HPX.out.turn (set3 4 _)).pro.fin ht)

set_option maxHeartbeats 4000000 in
set_option maxRecDepth 100000 in
theorem rread_8d (f s : Int) (A : Option Addr) (n c : Nat) (l : List UInt8) (w : World) (h : Bs w A n l) (hnc : n ≤ c) (hn : n ≤ 1099511627776) (h4 : n ≠ 4) :
    Calls Try.prog 10 #[.agg #[.int .i64 8, .int .i64 f, .int .i64 s, .slice A n c]] w (PartPost (readP 8 f s l) w) := by
  have hlen := h.len
  have H := hid h
  clear h
  have HU : Hid (readP 8 f s l = connP 6) := hid (by unfold readP; simp [updateP, hlen, h4])
  have h4' : ((n : Int) != 4) = true := by simp; omega
  clear hlen
  go_enter Try.func10, Try.ntmps10
  go_upto_region 1 with fail
  have hpw := ProF.new w 8 f s A n c
  have hWs : (((w.alloc (.cells #[.int .i64 8, .int .i64 f, .int .i64 s, .slice A n c] 34)).alloc (.cells #[.slice none 0 0, .int .i64 0, .int .i64 0, .int .i64 0, .int .i64 0, .slice none 0 0, .bool false, .bool false, .bool false] 28)).alloc (.cells #[.bool false, .bool false, .int .i64 0] 30)).heap.size = w.heap.size + 3 := by simp
  generalize (((w.alloc (.cells #[.int .i64 8, .int .i64 f, .int .i64 s, .slice A n c] 34)).alloc (.cells #[.slice none 0 0, .int .i64 0, .int .i64 0, .int .i64 0, .int .i64 0, .slice none 0 0, .bool false, .bool false, .bool false] 28)).alloc (.cells #[.bool false, .bool false, .int .i64 0] 30)) = W at hpw hWs ⊢
  have hpx := hpw.on ((Below.refl W.heap.size W).alloc (Nat.le_refl _) (.cells #[.slice none 0 0, .int .i64 0, .int .i64 0, .int .i64 0, .int .i64 0, .slice none 0 0, .bool false, .bool false, .bool false] 28))
  have hpb : Blk (W.alloc (.cells #[.slice none 0 0, .int .i64 0, .int .i64 0, .int .i64 0, .int .i64 0, .slice none 0 0, .bool false, .bool false, .bool false] 28)) (w.heap.size + 3) 28 #[.slice none 0 0, .int .i64 0, .int .i64 0, .int .i64 0, .int .i64 0, .slice none 0 0, .bool false, .bool false, .bool false] := by rw [← hWs]; exact Blk.new W _ _
  go_upto_region 2 with fail
  generalize W.alloc (.cells #[.slice none 0 0, .int .i64 0, .int .i64 0, .int .i64 0, .int .i64 0, .slice none 0 0, .bool false, .bool false, .bool false] 28) = X at hpx hpb ⊢
  clear hpw hWs
  obtain ⟨d0, d1, d2, d3⟩ := hpx.cells
  obtain ⟨p0, p1, p2, p3, p4, p5, p6, p7, p8, pf0, pf1, pf5⟩ := blk9 hpb
  have pf2 := hpb.frozen 2
  have pf3 := hpb.frozen 3
  have pf4 := hpb.frozen 4
  have pf7 := hpb.frozen 7
  have pf8 := hpb.frozen 8
  obtain ⟨k0, k1, k2, k3, k4, k5, k6, k7, k8, m0, m1, m2, f0, f1, f2, f3, f4, f5, f6, f7, f8, g0, g1, g2⟩ := hpx.pro.cells
  have HPX := hid (hpx.on ((Below.refl X.heap.size X).drew))
  have HBX := hid (show Blk X.drew (w.heap.size + 3) 28 #[.slice none 0 0, .int .i64 0, .int .i64 0, .int .i64 0, .int .i64 0, .slice none 0 0, .bool false, .bool false, .bool false] from hpb)
  have HB := hid (H.out.below (hpx.on ((Below.refl X.heap.size X).drew)).pro.below_)
  clear hpx hpb
  (refine wp_mix ?_ ?_ ?_; (focus kernel_rfl); (focus kernel_rfl); intro KK hKK; go_wp2_with (first
        | (fail)
        | (with_reducible refine mix_nil ?_)
        | ((with_reducible refine mix_on ?_ ?_); (focus rfl); intro K hK; go_simp; (first | ((with_reducible refine hK _ _ ?_); clear hK K) | skip))
        | ((with_reducible refine mix_off ?_ ?_); (focus rfl); intro K hK; go_simp; (first | ((with_reducible refine hK _ _ ?_); clear hK K) | skip))
        | ((with_reducible refine mix_step ?_); intro K hK; go_simp; (first | ((with_reducible refine hK _ _ ?_); clear hK K) | skip))))
  clear d0 d1 d2 d3 p0 p1 p2 p3 p4 p5 p6 p7 p8 pf0 pf1 pf2 pf3 pf4 pf5 pf7 pf8 k0 k1 k2 k3 k4 k5 k6 k7 k8 m0 m1 m2 f0 f1 f2 f3 f4 f5 f6 f7 f8 g0 g1 g2
  generalize X.drew = Y at HPX HBX HB ⊢
  obtain ⟨d0, d1, d2, d3⟩ := HPX.out.cells
  obtain ⟨p0, p1, p2, p3, p4, p5, p6, p7, p8, pf0, pf1, pf5⟩ := blk9 HBX.out
  obtain ⟨k0, k1, k2, k3, k4, k5, k6, k7, k8, m0, m1, m2, f0, f1, f2, f3, f4, f5, f6, f7, f8, g0, g1, g2⟩ := HPX.out.pro.cells
  have HSB := hid (show Turned [w.heap.size + 1, w.heap.size + 2] Y Y.drew from (Turned.refl _ _).drew)
  have LP : Hid (∀ w', Turned [w.heap.size + 1, w.heap.size + 2] Y w' → (Instr.loadAt 28 (.pointer (some ⟨w.heap.size + 3, 0, none⟩))).run Try.prog w' = .ok (.agg #[.slice none 0 0, .int .i64 0, .int .i64 0, .int .i64 0, .int .i64 0, .slice none 0 0, .bool false, .bool false, .bool false]) w') := hid fun w' ht => by
    have z0 := ht.cell p0 (by simp)
    have z1 := ht.cell p1 (by simp)
    have z2 := ht.cell p2 (by simp)
    have z3 := ht.cell p3 (by simp)
    have z4 := ht.cell p4 (by simp)
    have z5 := ht.cell p5 (by simp)
    have z6 := ht.cell p6 (by simp)
    have z7 := ht.cell p7 (by simp)
    have z8 := ht.cell p8 (by simp)
    clear d0 d1 d2 d3 p0 p1 p2 p3 p4 p5 p6 p7 p8 k0 k1 k2 k3 k4 k5 k6 k7 k8 m0 m1 m2
    go_simp
  clear d0 d1 d2 d3 p0 p1 p2 p3 p4 p5 p6 p7 p8 pf0 pf1 pf5 k0 k1 k2 k3 k4 k5 k6 k7 k8 m0 m1 m2 f0 f1 f2 f3 f4 f5 f6 f7 f8 g0 g1 g2
  (refine wp_mixZ (Turned [w.heap.size + 1, w.heap.size + 2] Y) rfl ?_ ?_ (HSB.out) ?_; (focus kernel_rfl); (focus kernel_rfl); intro KK hKK; simp only [List.dropLast_cons_cons, List.dropLast_singleton]; go_wp2_with (first
                                                                | (first
    | ((with_reducible refine mixS_load LP.out ?_ ?_ ?_); (focus rfl); (focus rfl))
    | (go_at_call 26; go_must (refine (rfault_any 6 true _).mono ?_; unfold ft; rintro e w1 ⟨rfl, hb1⟩; have HSB := hid (HSB.out.then hb1); have hP := (HPX.out.pro.on (Below.refl _ _).drew).on hb1; have HP := hid hP; clear hb1; obtain ⟨k0, k1, k2, k3, k4, k5, k6, k7, k8, m0, m1, m2, f0, f1, f2, f3, f4, f5, f6, f7, f8, g0, g1, g2⟩ := hP.cells; clear hP))
    | ((with_reducible refine And.intro ?_ ?_); (focus (first | (with_reducible exact HSB.out) | exact turned9 HSB.out (by simp))))
    | ((with_reducible refine mix_nil ?_); refine hKK _ _ (turned9 HSB.out (by simp)) ?_; (with_reducible refine last_on ?_ ?_); (focus rfl); intro K hK; go_simp))
                                                                | ((with_reducible refine mix_nil ?_); refine hKK _ _ (HSB.out) ?_; (with_reducible refine last_on ?_ ?_); (focus rfl); intro K hK; go_simp)
                                                                | ((with_reducible refine mixS_on ?_ ?_); (focus rfl); intro K K' hK hK'; go_simp; (first | ((with_reducible refine hK _ _ ?_); clear hK hK' K K') | ((with_reducible refine hK' _ _ ?_); clear hK hK' K K') | skip))
                                                                | ((with_reducible refine mixS_off ?_ ?_); (focus rfl); intro K hK; go_simp; (first | ((with_reducible refine hK _ _ ?_); clear hK K) | skip))
                                                                | ((with_reducible refine mixS_step ?_); intro K K' hK hK'; go_simp; (first | ((with_reducible refine hK _ _ ?_); clear hK hK' K K') | ((with_reducible refine hK' _ _ ?_); clear hK hK' K K') | skip))))
  refine part_end Try.results10 rfl rfl HP.out.p rfl HP.out.q rfl (by omega) ?_
  intro w' ht
  rw [HU.out]
  exact PartPost.plain rfl rfl (HP.out.fin ht)

set_option maxHeartbeats 4000000 in
set_option maxRecDepth 100000 in
theorem rread_x (k f s : Int) (A : Option Addr) (n c : Nat) (l : List UInt8) (w : World) (h : Bs w A n l) (_hnc : n ≤ c) (_hn : n ≤ 1099511627776) (hk0 : k ≠ 0) (hk1 : k ≠ 1) (hk2 : k ≠ 2) (hk3 : k ≠ 3) (hk4 : k ≠ 4) (hk5 : k ≠ 5) (hk6 : k ≠ 6) (hk7 : k ≠ 7) (hk8 : k ≠ 8) (hk9 : k ≠ 9) :
    Calls Try.prog 10 #[.agg #[.int .i64 k, .int .i64 f, .int .i64 s, .slice A n c]] w (PartPost (readP k f s l) w) := by
  have hlen := h.len
  have H := hid h
  clear h
  have kb0 : (k == 0) = false := by simp [hk0]
  have kb1 : (k == 1) = false := by simp [hk1]
  have kb2 : (k == 2) = false := by simp [hk2]
  have kb3 : (k == 3) = false := by simp [hk3]
  have kb4 : (k == 4) = false := by simp [hk4]
  have kb5 : (k == 5) = false := by simp [hk5]
  have kb6 : (k == 6) = false := by simp [hk6]
  have kb7 : (k == 7) = false := by simp [hk7]
  have kb8 : (k == 8) = false := by simp [hk8]
  have kb9 : (k == 9) = false := by simp [hk9]
  have HU : Hid (readP k f s l = {}) := hid (by unfold readP; simp [hk0, hk1, hk2, hk3, hk4, hk5, hk6, hk7, hk8, hk9])
  clear hk0 hk1 hk2 hk3 hk4 hk5 hk6 hk7 hk8 hk9
  clear hlen
  go_enter Try.func10, Try.ntmps10
  go_upto_region 1 with fail
  have hpw := ProF.new w k f s A n c
  have hWs : (((w.alloc (.cells #[.int .i64 k, .int .i64 f, .int .i64 s, .slice A n c] 34)).alloc (.cells #[.slice none 0 0, .int .i64 0, .int .i64 0, .int .i64 0, .int .i64 0, .slice none 0 0, .bool false, .bool false, .bool false] 28)).alloc (.cells #[.bool false, .bool false, .int .i64 0] 30)).heap.size = w.heap.size + 3 := by simp
  generalize (((w.alloc (.cells #[.int .i64 k, .int .i64 f, .int .i64 s, .slice A n c] 34)).alloc (.cells #[.slice none 0 0, .int .i64 0, .int .i64 0, .int .i64 0, .int .i64 0, .slice none 0 0, .bool false, .bool false, .bool false] 28)).alloc (.cells #[.bool false, .bool false, .int .i64 0] 30)) = W at hpw hWs ⊢
  have hpx := hpw.on ((Below.refl W.heap.size W).alloc (Nat.le_refl _) (.cells #[.slice none 0 0, .int .i64 0, .int .i64 0, .int .i64 0, .int .i64 0, .slice none 0 0, .bool false, .bool false, .bool false] 28))
  have hpb : Blk (W.alloc (.cells #[.slice none 0 0, .int .i64 0, .int .i64 0, .int .i64 0, .int .i64 0, .slice none 0 0, .bool false, .bool false, .bool false] 28)) (w.heap.size + 3) 28 #[.slice none 0 0, .int .i64 0, .int .i64 0, .int .i64 0, .int .i64 0, .slice none 0 0, .bool false, .bool false, .bool false] := by rw [← hWs]; exact Blk.new W _ _
  go_upto_region 2 with fail
  generalize W.alloc (.cells #[.slice none 0 0, .int .i64 0, .int .i64 0, .int .i64 0, .int .i64 0, .slice none 0 0, .bool false, .bool false, .bool false] 28) = X at hpx hpb ⊢
  clear hpw hWs
  obtain ⟨d0, d1, d2, d3⟩ := hpx.cells
  obtain ⟨p0, p1, p2, p3, p4, p5, p6, p7, p8, pf0, pf1, pf5⟩ := blk9 hpb
  have pf2 := hpb.frozen 2
  have pf3 := hpb.frozen 3
  have pf4 := hpb.frozen 4
  have pf7 := hpb.frozen 7
  have pf8 := hpb.frozen 8
  obtain ⟨k0, k1, k2, k3, k4, k5, k6, k7, k8, m0, m1, m2, f0, f1, f2, f3, f4, f5, f6, f7, f8, g0, g1, g2⟩ := hpx.pro.cells
  have HPX := hid (hpx.on ((Below.refl X.heap.size X).drew))
  have HBX := hid (show Blk X.drew (w.heap.size + 3) 28 #[.slice none 0 0, .int .i64 0, .int .i64 0, .int .i64 0, .int .i64 0, .slice none 0 0, .bool false, .bool false, .bool false] from hpb)
  have HB := hid (H.out.below (hpx.on ((Below.refl X.heap.size X).drew)).pro.below_)
  clear hpx hpb
  (refine wp_mix ?_ ?_ ?_; (focus kernel_rfl); (focus kernel_rfl); intro KK hKK; go_wp2_with (first
        | (fail)
        | (with_reducible refine mix_nil ?_)
        | ((with_reducible refine mix_on ?_ ?_); (focus rfl); intro K hK; go_simp; (first | ((with_reducible refine hK _ _ ?_); clear hK K) | skip))
        | ((with_reducible refine mix_off ?_ ?_); (focus rfl); intro K hK; go_simp; (first | ((with_reducible refine hK _ _ ?_); clear hK K) | skip))
        | ((with_reducible refine mix_step ?_); intro K hK; go_simp; (first | ((with_reducible refine hK _ _ ?_); clear hK K) | skip))))
  simp only [drew_in]
  refine part_end Try.results10 rfl rfl HPX.out.pro.p rfl HPX.out.pro.q rfl (by omega) ?_
  intro w' ht
  rw [HU.out]
  exact PartPost.plain rfl rfl (HPX.out.pro.fin ht)
end Go.Proofs.Ytdiahjeplaegnaa
