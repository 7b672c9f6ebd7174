/- Data and Headers. Conditions: at most 2^45 bytes. -/
import Derived.Test.YtdiahjeplaegnaaPart
import Derived.Test.YtdiahjeplaegnaaScopes
import Derived.Test.YtdiahjeplaegnaaAnd
namespace Go.Proofs.Ytdiahjeplaegnaa
open Go.RowKit
attribute [local go_sem] kd kdS
attribute [local go_sem ↓] sliced_word
attribute [local go_sem] offA_zero

def stage3 (k f pad padv : Int) (l : List UInt8) : PR :=
  if (l.length : Int) < pad then connP 1 else { d := l.take (l.length - pad.toNat), pad := padv, e := fl f 1, w := decide (k = 1) && fl f 4 }
def stage2 (k f pad padv : Int) (l : List UInt8) : PR :=
  if k = 0 ∨ bits .and .i64 f 32 = 0 then stage3 k f pad padv l else if l.length < 5 then connP 6 else stage3 k f pad padv (l.drop 5)
def bodyP (k f s : Int) (l : List UInt8) : PR :=
  if s = 0 then connP 1 else if bits .and .i64 f 8 = 0 then stage2 k f 0 0 l else if l.length = 0 then connP 6 else stage2 k f (nb l 0) (nb l 0 + 1) (l.drop 1)

/-- Where a jump finds the call. -/
def J0 (f s : Int) (A : Option Addr) (n c : Nat) (l : List UInt8) (w : World) (lab : Nat) (a' : Act) (w' : World) : Prop :=
  lab < 2 ∧ ∃ (pad padv : Int) (A5 : Option Addr) (n5 c5 : Nat) (l5 : List UInt8), (∃ us : Nat → Value, a' = { tmps := #[us 0, .pointer (some ⟨w.heap.size, 0, none⟩), .pointer (some ⟨w.heap.size + 1, 0, none⟩), .pointer (some ⟨w.heap.size + 1 + 1, 0, none⟩), .pointer (some ⟨w.heap.size + 1 + 1 + 1, 0, none⟩), .slice A5 n5 c5, .int .i64 pad, us 7, us 8, us 9, us 10, us 11, us 12, us 13, us 14, us 15, us 16, us 17, us 18, us 19, us 20, us 21, us 22, us 23, us 24, us 25, us 26, us 27, us 28, us 29, us 30, us 31, us 32, us 33, us 34, us 35, us 36, us 37, us 38, us 39, us 40, us 41, us 42, us 43, us 44, us 45, us 46, us 47, us 48, us 49, us 50, us 51, us 52, us 53, us 54, us 55, us 56, us 57, us 58, us 59, us 60, us 61, us 62, us 63, us 64, us 65, us 66, us 67, us 68, us 69, us 70, us 71, us 72, us 73, us 74, us 75, us 76, us 77, us 78, us 79, us 80, us 81], defers := [] }) ∧ 0 ≤ pad ∧
    ProF w w' 0 f s A n c ∧ Blk w' (w.heap.size + 3) 28 #[.slice none 0 0, .int .i64 padv, .int .i64 0, .int .i64 0, .int .i64 0, .slice none 0 0, .bool (decide (0 < bits .and .i64 f 1)), .bool false, .bool false] ∧ Bs w' A5 n5 l5 ∧ n5 ≤ c5 ∧ n5 ≤ n ∧
    bodyP 0 f s l = if lab = 0 then stage2 0 f pad padv l5 else stage3 0 f pad padv l5

set_option maxHeartbeats 4000000 in
set_option maxRecDepth 100000 in
theorem bodied_0 (f s : Int) (A : Option Addr) (n c : Nat) (l : List UInt8) (w : World) (h : Bs w A n l) (hnc : n ≤ c) (hn : n ≤ 70368744177664) :
    Calls Try.prog 17 #[.agg #[.int .i64 0, .int .i64 f, .int .i64 s, .slice A n c]] w (PartPost (bodyP 0 f s l) w) := by
  have hlen := h.len
  have H := hid h
  clear h
  go_enter Try.func17, Try.ntmps17
  go_upto_region 1 with fail
  have hpw := ProF.new w 0 f s A n c
  have hWs : (((w.alloc (.cells #[.int .i64 0, .int .i64 f, .int .i64 s, .slice A n c] 34)).alloc (.cells #[.slice none 0 0, .int .i64 0, .int .i64 0, .int .i64 0, .int .i64 0, .slice none 0 0, .bool false, .bool false, .bool false] 28)).alloc (.cells #[.bool false, .bool false, .int .i64 0] 30)).heap.size = w.heap.size + 1 + 1 + 1 := by simp
  generalize (((w.alloc (.cells #[.int .i64 0, .int .i64 f, .int .i64 s, .slice A n c] 34)).alloc (.cells #[.slice none 0 0, .int .i64 0, .int .i64 0, .int .i64 0, .int .i64 0, .slice none 0 0, .bool false, .bool false, .bool false] 28)).alloc (.cells #[.bool false, .bool false, .int .i64 0] 30)) = W at hpw hWs ⊢
  have HPW := hid hpw
  clear hpw
  refine wp_scope_all (J0 f s A n c l w) (fun l => 2 - l) ?_ ?_
  · obtain ⟨d0, d1, d2, d3⟩ := HPW.out.cells
    go_upto_region 3 with fail
    obtain ⟨V, hV⟩ : ∃ V, W.alloc (.cells #[.slice none 0 0, .int .i64 0, .int .i64 0, .int .i64 0, .int .i64 0, .slice none 0 0, .bool (decide (0 < bits .and .i64 f 1)), .bool false, .bool false] 28) = V := ⟨_, rfl⟩
    have hbV : Below W.heap.size W V := by rw [← hV]; exact (Below.refl _ _).alloc (Nat.le_refl _) _
    have HBP : Hid (Blk V (w.heap.size + 3) 28 #[.slice none 0 0, .int .i64 0, .int .i64 0, .int .i64 0, .int .i64 0, .slice none 0 0, .bool (decide (0 < bits .and .i64 f 1)), .bool false, .bool false]) := hid (by rw [← hV, show w.heap.size + 3 = W.heap.size by omega]; exact Blk.new W _ _)
    have HPV := hid (HPW.out.on hbV)
    have HB := hid (H.out.below HPV.out.pro.below_)
    rw [hV]
    clear d0 d1 d2 d3 hV hbV hWs HPW
    obtain ⟨d0, d1, d2, d3⟩ := HPV.out.cells
    by_cases hs : s = 0
    · subst hs
      have HU : Hid (bodyP 0 f 0 l = connP 1) := hid (by unfold bodyP; rw [if_pos rfl])
      go_wp2_with (go_at_call 19; go_must (refine (conn_any 1 _).mono ?_; unfold pv ft; rintro e w1 ⟨rfl, hb1⟩; have hP := HPV.out.pro.on hb1; have HP := hid hP; clear hb1; obtain ⟨k0, k1, k2, k3, k4, k5, k6, k7, k8, m0, m1, m2, f0, f1, f2, f3, f4, f5, f6, f7, f8, g0, g1, g2⟩ := hP.cells; clear hP))
      simp only [jumps]
      refine part_end Try.results17 rfl rfl HP.out.p rfl HP.out.q rfl (by omega) ?_
      intro w' ht
      rw [HU.out]
      exact PartPost.plain rfl rfl (HP.out.fin ht)
    have hs' : (s == 0) = false := beq_eq_false_iff_ne.2 hs
    rcases and_8 f with h8 | h8
    · have HS : Hid (bodyP 0 f s l = stage2 0 f 0 0 l) := hid (by unfold bodyP; rw [if_neg hs, if_pos h8])
      clear hs
      go_wp2_with fail
      go_step3
      exact (show J0 f s A n c l w 0 _ _ from ⟨by decide, 0, 0, A, n, c, l, frame_some _ rfl, Int.le_refl _, HPV.out, HBP.out, HB.out, hnc, Nat.le_refl _, by rw [HS.out]; rfl⟩)
    by_cases hn0 : n = 0
    · have HU : Hid (bodyP 0 f s l = connP 6) := hid (by unfold bodyP; rw [if_neg hs, if_neg (by rw [h8]; decide), if_pos (by omega)])
      subst hn0
      clear hs
      go_wp2_with (go_at_call 19; go_must (refine (conn_any 6 _).mono ?_; unfold pv ft; rintro e w1 ⟨rfl, hb1⟩; have hP := HPV.out.pro.on hb1; have HP := hid hP; clear hb1; obtain ⟨k0, k1, k2, k3, k4, k5, k6, k7, k8, m0, m1, m2, f0, f1, f2, f3, f4, f5, f6, f7, f8, g0, g1, g2⟩ := hP.cells; clear hP))
      simp only [jumps]
      refine part_end Try.results17 rfl rfl HP.out.p rfl HP.out.q rfl (by omega) ?_
      intro w' ht
      rw [HU.out]
      exact PartPost.plain rfl rfl (HP.out.fin ht)
    obtain ⟨b, o, x0, rfl, hx0, hc0⟩ := HB.out.at_ (i := 0) (by omega)
    clear hx0 hc0
    have c0 := nb_cell HB.out (i := 0) (by omega)
    rw [Nat.add_zero] at c0
    have hb0 := nb_le l 0
    have hi0 : (0 : Int) < n := by omega
    have hi1 : (1 : Int) ≤ n := by omega
    have hw0 : IntKind.i64.wrap (nb l 0) = nb l 0 := IntWalk.i64_in _ (by omega)
    have hw1 : wrap64 (nb l 0) = nb l 0 := IntWalk.wrap64_in _ (by omega)
    have HS : Hid (bodyP 0 f s l = stage2 0 f (nb l 0) (nb l 0 + 1) (l.drop 1)) := hid (by unfold bodyP; rw [if_neg hs, if_neg (by rw [h8]; decide), if_neg (by omega)])
    clear hs hn0
    obtain ⟨q0, q1, q2, q3, q4, q5, q6, q7, q8, qf0, qf1, qf5⟩ := blk9 HBP.out
    go_wp2_with fail
    go_quiet (fail)
    go_upto_region 10 with fail
    obtain ⟨V2, hV2⟩ : ∃ V2, (V.drewN nq).setCell ⟨w.heap.size + 3, 1, none⟩ (.int .i64 (nb l 0 + 1)) = V2 := ⟨_, rfl⟩
    have HPV := hid (show ProF w V2 0 f s _ n c by rw [← hV2]; exact (HPV.out.on (below_drewN (Below.refl _ _) nq)).turn (set3 1 _))
    have HBP : Hid (Blk V2 (w.heap.size + 3) 28 #[.slice none 0 0, .int .i64 (nb l 0 + 1), .int .i64 0, .int .i64 0, .int .i64 0, .slice none 0 0, .bool (decide (0 < bits .and .i64 f 1)), .bool false, .bool false]) := hid (by rw [← hV2]; exact (HBP.out.below (below_drewN (Below.refl _ _) nq) HBP.out.lt).set_ 1 _)
    rw [show w.heap.size + 1 + 1 + 1 = w.heap.size + 3 from rfl, hV2]
    have HB5 := hid ((H.out.below HPV.out.pro.below_).off (k := 1) (cap := c) (by omega) hnc)
    obtain ⟨A5, hA5⟩ : ∃ A5, offA (some ⟨b, o, none⟩) 1 c 1 = A5 := ⟨_, rfl⟩
    rw [hA5] at HB5 ⊢
    clear d0 d1 d2 d3 hV2 hA5 q0 q1 q2 q3 q4 q5 q6 q7 q8 qf0 qf1 qf5 c0 hw0 hw1
    have hnc5 : n - 1 ≤ c - 1 := by omega
    have hn5 : n - 1 ≤ n := by omega
    have hpad := hb0.1
    generalize l.drop 1 = l5 at HB5 HS
    generalize nb l 0 = pad at HS HBP hpad hb0 ⊢
    generalize hpv1 : pad + 1 = padv at HS HBP ⊢
    generalize hn51 : n - 1 = n5 at HB5 hnc5 hn5 ⊢
    generalize hc51 : c - 1 = c5 at hnc5 ⊢
    clear hpv1 hn51 hc51 hi0 hi1
    go_step3
    obtain ⟨d0, d1, d2, d3⟩ := HPV.out.cells
    have HS2 : Hid (bodyP 0 f s l = stage3 0 f pad padv l5) := hid (by rw [HS.out]; unfold stage2; rw [if_pos (.inl rfl)])
    go_wp2_with fail
    go_step3
    first
      | exact (show J0 f s _ n c l w 1 _ _ from ⟨by decide, pad, padv, A5, n5, c5, l5, frame_some _ rfl, hpad, HPV.out, HBP.out, HB5.out, hnc5, hn5, by rw [HS2.out]; rfl⟩)
      | exact ⟨(show J0 f s _ n c l w 1 _ _ from ⟨by decide, pad, padv, A5, n5, c5, l5, frame_some _ rfl, hpad, HPV.out, HBP.out, HB5.out, hnc5, hn5, by rw [HS2.out]; rfl⟩), by decide⟩
  · rintro lab a' V ⟨hlab, pad, padv, A5, n5, c5, l5, ⟨us, rfl⟩, hpad, hpv, hbp, hb5, hnc5, hn5, hS⟩
    have HPV := hid hpv
    have HBP := hid hbp
    have HB5 := hid hb5
    clear hpv hbp hb5
    rcases (show lab = 0 ∨ lab = 1 by omega) with rfl | rfl
    · rw [if_pos rfl] at hS
      have HS := hid hS
      clear hS
      refine ⟨_, rfl, ?_⟩
      obtain ⟨d0, d1, d2, d3⟩ := HPV.out.cells
      have HS2 : Hid (bodyP 0 f s l = stage3 0 f pad padv l5) := hid (by rw [HS.out]; unfold stage2; rw [if_pos (.inl rfl)])
      go_wp2_with fail
      go_step3
      first
        | exact (show J0 f s _ n c l w 1 _ _ from ⟨by decide, pad, padv, A5, n5, c5, l5, frame_some _ rfl, hpad, HPV.out, HBP.out, HB5.out, hnc5, hn5, by rw [HS2.out]; rfl⟩)
        | exact ⟨(show J0 f s _ n c l w 1 _ _ from ⟨by decide, pad, padv, A5, n5, c5, l5, frame_some _ rfl, hpad, HPV.out, HBP.out, HB5.out, hnc5, hn5, by rw [HS2.out]; rfl⟩), by decide⟩
    · rw [if_neg (by decide)] at hS
      have HS := hid hS
      clear hS
      refine ⟨_, rfl, ?_⟩
      rcases Int.lt_or_le (n5 : Int) pad with hlt | hle
      · have HU : Hid (bodyP 0 f s l = connP 1) := hid (by rw [HS.out]; unfold stage3; rw [if_pos (by rw [HB5.out.len]; exact hlt)])
        obtain ⟨d0, d1, d2, d3⟩ := HPV.out.cells
        go_wp2_with (go_at_call 19; go_must (refine (conn_any 1 _).mono ?_; unfold pv ft; rintro e w1 ⟨rfl, hb1⟩; have hP := HPV.out.pro.on hb1; have HP := hid hP; clear hb1; obtain ⟨k0, k1, k2, k3, k4, k5, k6, k7, k8, m0, m1, m2, f0, f1, f2, f3, f4, f5, f6, f7, f8, g0, g1, g2⟩ := hP.cells; clear hP))
        simp only [jumps]
        refine part_end Try.results17 rfl rfl HP.out.p rfl HP.out.q rfl (by omega) ?_
        intro w' ht
        rw [HU.out]
        exact PartPost.plain rfl rfl (HP.out.fin ht)
      · obtain ⟨pn, rfl⟩ : ∃ pn : Nat, pad = pn := ⟨pad.toNat, by omega⟩
        have hpn : pn ≤ n5 := by omega
        have HU : Hid (bodyP 0 f s l = { d := l5.take (n5 - pn), pad := padv, e := decide (0 < bits .and .i64 f 1), w := false }) := hid (by rw [HS.out]; unfold stage3; rw [if_neg (by rw [HB5.out.len]; omega), HB5.out.len]; simp [fl])
        clear hle
        go_wp2_with (go_at_call 22; go_must (refine (clone_any A5 (n5 - pn) c5 (l5.take (n5 - pn)) _ (HB5.out.to (by omega)) (by omega)).mono ?_; rintro e w2 ⟨A1, c1, rfl, ho1, hb1⟩; have HO := hid ho1; have hP := HPV.out.pro.on hb1; have HP := hid hP; have hbp := HBP.out.below hb1 HBP.out.lt; obtain ⟨q0, q1, q2, q3, q4, q5, q6, q7, q8, qf0, qf1, qf5⟩ := blk9 hbp; obtain ⟨k0, k1, k2, k3, k4, k5, k6, k7, k8, m0, m1, m2, f0, f1, f2, f3, f4, f5, f6, f7, f8, g0, g1, g2⟩ := hP.cells; clear hb1 ho1 hP hbp))
        simp only [jumps]
        refine part_end Try.results17 rfl rfl (HP.out.turn (set3 0 _)).p rfl (HP.out.turn (set3 0 _)).q rfl (by omega) ?_
        intro w' ht
        rw [HU.out]
        have hlt := HPV.out.pro.lt
        have h3 := HBP.out.lt
        exact ⟨A1, n5 - pn, c1, none, 0, 0, rfl, ((Bs.of_own HO.out).turned (set3 0 _) (own_off HO.out (by simp; omega))).turned ht (own_off HO.out (by simp; omega)), Sts.nil _ _, Above.own HO.out HPV.out.pro.below_.size, Above.none _, (HP.out.turn (set3 0 _)).fin ht⟩

/-- Where a jump finds the call. -/
def J1 (f s : Int) (A : Option Addr) (n c : Nat) (l : List UInt8) (w : World) (lab : Nat) (a' : Act) (w' : World) : Prop :=
  lab < 2 ∧ ∃ (pad padv : Int) (A5 : Option Addr) (n5 c5 : Nat) (l5 : List UInt8), (∃ us : Nat → Value, a' = { tmps := #[us 0, .pointer (some ⟨w.heap.size, 0, none⟩), .pointer (some ⟨w.heap.size + 1, 0, none⟩), .pointer (some ⟨w.heap.size + 1 + 1, 0, none⟩), .pointer (some ⟨w.heap.size + 1 + 1 + 1, 0, none⟩), .slice A5 n5 c5, .int .i64 pad, us 7, us 8, us 9, us 10, us 11, us 12, us 13, us 14, us 15, us 16, us 17, us 18, us 19, us 20, us 21, us 22, us 23, us 24, us 25, us 26, us 27, us 28, us 29, us 30, us 31, us 32, us 33, us 34, us 35, us 36, us 37, us 38, us 39, us 40, us 41, us 42, us 43, us 44, us 45, us 46, us 47, us 48, us 49, us 50, us 51, us 52, us 53, us 54, us 55, us 56, us 57, us 58, us 59, us 60, us 61, us 62, us 63, us 64, us 65, us 66, us 67, us 68, us 69, us 70, us 71, us 72, us 73, us 74, us 75, us 76, us 77, us 78, us 79, us 80, us 81], defers := [] }) ∧ 0 ≤ pad ∧
    ProF w w' 1 f s A n c ∧ Blk w' (w.heap.size + 3) 28 #[.slice none 0 0, .int .i64 padv, .int .i64 0, .int .i64 0, .int .i64 0, .slice none 0 0, .bool (decide (0 < bits .and .i64 f 1)), .bool false, .bool (decide (0 < bits .and .i64 f 4))] ∧ Bs w' A5 n5 l5 ∧ n5 ≤ c5 ∧ n5 ≤ n ∧
    bodyP 1 f s l = if lab = 0 then stage2 1 f pad padv l5 else stage3 1 f pad padv l5

set_option maxHeartbeats 4000000 in
set_option maxRecDepth 100000 in
theorem bodied_1 (f s : Int) (A : Option Addr) (n c : Nat) (l : List UInt8) (w : World) (h : Bs w A n l) (hnc : n ≤ c) (hn : n ≤ 70368744177664) :
    Calls Try.prog 17 #[.agg #[.int .i64 1, .int .i64 f, .int .i64 s, .slice A n c]] w (PartPost (bodyP 1 f s l) w) := by
  have hlen := h.len
  have H := hid h
  clear h
  go_enter Try.func17, Try.ntmps17
  go_upto_region 1 with fail
  have hpw := ProF.new w 1 f s A n c
  have hWs : (((w.alloc (.cells #[.int .i64 1, .int .i64 f, .int .i64 s, .slice A n c] 34)).alloc (.cells #[.slice none 0 0, .int .i64 0, .int .i64 0, .int .i64 0, .int .i64 0, .slice none 0 0, .bool false, .bool false, .bool false] 28)).alloc (.cells #[.bool false, .bool false, .int .i64 0] 30)).heap.size = w.heap.size + 1 + 1 + 1 := by simp
  generalize (((w.alloc (.cells #[.int .i64 1, .int .i64 f, .int .i64 s, .slice A n c] 34)).alloc (.cells #[.slice none 0 0, .int .i64 0, .int .i64 0, .int .i64 0, .int .i64 0, .slice none 0 0, .bool false, .bool false, .bool false] 28)).alloc (.cells #[.bool false, .bool false, .int .i64 0] 30)) = W at hpw hWs ⊢
  have HPW := hid hpw
  clear hpw
  refine wp_scope_all (J1 f s A n c l w) (fun l => 2 - l) ?_ ?_
  · obtain ⟨d0, d1, d2, d3⟩ := HPW.out.cells
    go_upto_region 3 with fail
    obtain ⟨V, hV⟩ : ∃ V, W.alloc (.cells #[.slice none 0 0, .int .i64 0, .int .i64 0, .int .i64 0, .int .i64 0, .slice none 0 0, .bool (decide (0 < bits .and .i64 f 1)), .bool false, .bool (decide (0 < bits .and .i64 f 4))] 28) = V := ⟨_, rfl⟩
    have hbV : Below W.heap.size W V := by rw [← hV]; exact (Below.refl _ _).alloc (Nat.le_refl _) _
    have HBP : Hid (Blk V (w.heap.size + 3) 28 #[.slice none 0 0, .int .i64 0, .int .i64 0, .int .i64 0, .int .i64 0, .slice none 0 0, .bool (decide (0 < bits .and .i64 f 1)), .bool false, .bool (decide (0 < bits .and .i64 f 4))]) := hid (by rw [← hV, show w.heap.size + 3 = W.heap.size by omega]; exact Blk.new W _ _)
    have HPV := hid (HPW.out.on hbV)
    have HB := hid (H.out.below HPV.out.pro.below_)
    rw [hV]
    clear d0 d1 d2 d3 hV hbV hWs HPW
    obtain ⟨d0, d1, d2, d3⟩ := HPV.out.cells
    by_cases hs : s = 0
    · subst hs
      have HU : Hid (bodyP 1 f 0 l = connP 1) := hid (by unfold bodyP; rw [if_pos rfl])
      go_wp2_with (go_at_call 19; go_must (refine (conn_any 1 _).mono ?_; unfold pv ft; rintro e w1 ⟨rfl, hb1⟩; have hP := HPV.out.pro.on hb1; have HP := hid hP; clear hb1; obtain ⟨k0, k1, k2, k3, k4, k5, k6, k7, k8, m0, m1, m2, f0, f1, f2, f3, f4, f5, f6, f7, f8, g0, g1, g2⟩ := hP.cells; clear hP))
      simp only [jumps]
      refine part_end Try.results17 rfl rfl HP.out.p rfl HP.out.q rfl (by omega) ?_
      intro w' ht
      rw [HU.out]
      exact PartPost.plain rfl rfl (HP.out.fin ht)
    have hs' : (s == 0) = false := beq_eq_false_iff_ne.2 hs
    rcases and_8 f with h8 | h8
    · have HS : Hid (bodyP 1 f s l = stage2 1 f 0 0 l) := hid (by unfold bodyP; rw [if_neg hs, if_pos h8])
      clear hs
      go_wp2_with fail
      go_step3
      exact (show J1 f s A n c l w 0 _ _ from ⟨by decide, 0, 0, A, n, c, l, frame_some _ rfl, Int.le_refl _, HPV.out, HBP.out, HB.out, hnc, Nat.le_refl _, by rw [HS.out]; rfl⟩)
    by_cases hn0 : n = 0
    · have HU : Hid (bodyP 1 f s l = connP 6) := hid (by unfold bodyP; rw [if_neg hs, if_neg (by rw [h8]; decide), if_pos (by omega)])
      subst hn0
      clear hs
      go_wp2_with (go_at_call 19; go_must (refine (conn_any 6 _).mono ?_; unfold pv ft; rintro e w1 ⟨rfl, hb1⟩; have hP := HPV.out.pro.on hb1; have HP := hid hP; clear hb1; obtain ⟨k0, k1, k2, k3, k4, k5, k6, k7, k8, m0, m1, m2, f0, f1, f2, f3, f4, f5, f6, f7, f8, g0, g1, g2⟩ := hP.cells; clear hP))
      simp only [jumps]
      refine part_end Try.results17 rfl rfl HP.out.p rfl HP.out.q rfl (by omega) ?_
      intro w' ht
      rw [HU.out]
      exact PartPost.plain rfl rfl (HP.out.fin ht)
    obtain ⟨b, o, x0, rfl, hx0, hc0⟩ := HB.out.at_ (i := 0) (by omega)
    clear hx0 hc0
    have c0 := nb_cell HB.out (i := 0) (by omega)
    rw [Nat.add_zero] at c0
    have hb0 := nb_le l 0
    have hi0 : (0 : Int) < n := by omega
    have hi1 : (1 : Int) ≤ n := by omega
    have hw0 : IntKind.i64.wrap (nb l 0) = nb l 0 := IntWalk.i64_in _ (by omega)
    have hw1 : wrap64 (nb l 0) = nb l 0 := IntWalk.wrap64_in _ (by omega)
    have HS : Hid (bodyP 1 f s l = stage2 1 f (nb l 0) (nb l 0 + 1) (l.drop 1)) := hid (by unfold bodyP; rw [if_neg hs, if_neg (by rw [h8]; decide), if_neg (by omega)])
    clear hs hn0
    obtain ⟨q0, q1, q2, q3, q4, q5, q6, q7, q8, qf0, qf1, qf5⟩ := blk9 HBP.out
    go_wp2_with fail
    go_quiet (fail)
    go_upto_region 10 with fail
    obtain ⟨V2, hV2⟩ : ∃ V2, (V.drewN nq).setCell ⟨w.heap.size + 3, 1, none⟩ (.int .i64 (nb l 0 + 1)) = V2 := ⟨_, rfl⟩
    have HPV := hid (show ProF w V2 1 f s _ n c by rw [← hV2]; exact (HPV.out.on (below_drewN (Below.refl _ _) nq)).turn (set3 1 _))
    have HBP : Hid (Blk V2 (w.heap.size + 3) 28 #[.slice none 0 0, .int .i64 (nb l 0 + 1), .int .i64 0, .int .i64 0, .int .i64 0, .slice none 0 0, .bool (decide (0 < bits .and .i64 f 1)), .bool false, .bool (decide (0 < bits .and .i64 f 4))]) := hid (by rw [← hV2]; exact (HBP.out.below (below_drewN (Below.refl _ _) nq) HBP.out.lt).set_ 1 _)
    rw [show w.heap.size + 1 + 1 + 1 = w.heap.size + 3 from rfl, hV2]
    have HB5 := hid ((H.out.below HPV.out.pro.below_).off (k := 1) (cap := c) (by omega) hnc)
    obtain ⟨A5, hA5⟩ : ∃ A5, offA (some ⟨b, o, none⟩) 1 c 1 = A5 := ⟨_, rfl⟩
    rw [hA5] at HB5 ⊢
    clear d0 d1 d2 d3 hV2 hA5 q0 q1 q2 q3 q4 q5 q6 q7 q8 qf0 qf1 qf5 c0 hw0 hw1
    have hnc5 : n - 1 ≤ c - 1 := by omega
    have hn5 : n - 1 ≤ n := by omega
    have hpad := hb0.1
    generalize l.drop 1 = l5 at HB5 HS
    generalize nb l 0 = pad at HS HBP hpad hb0 ⊢
    generalize hpv1 : pad + 1 = padv at HS HBP ⊢
    generalize hn51 : n - 1 = n5 at HB5 hnc5 hn5 ⊢
    generalize hc51 : c - 1 = c5 at hnc5 ⊢
    clear hpv1 hn51 hc51 hi0 hi1
    go_step3
    obtain ⟨d0, d1, d2, d3⟩ := HPV.out.cells
    rcases and_32 f with h32 | h32
    · have HS2 : Hid (bodyP 1 f s l = stage3 1 f pad padv l5) := hid (by rw [HS.out]; unfold stage2; rw [if_pos (.inr h32)])
      go_wp2_with fail
      go_step3
      first
        | exact (show J1 f s _ n c l w 1 _ _ from ⟨by decide, pad, padv, A5, n5, c5, l5, frame_some _ rfl, hpad, HPV.out, HBP.out, HB5.out, hnc5, hn5, by rw [HS2.out]; rfl⟩)
        | exact ⟨(show J1 f s _ n c l w 1 _ _ from ⟨by decide, pad, padv, A5, n5, c5, l5, frame_some _ rfl, hpad, HPV.out, HBP.out, HB5.out, hnc5, hn5, by rw [HS2.out]; rfl⟩), by decide⟩
    by_cases hlt5 : n5 < 5
    · have HU : Hid (bodyP 1 f s l = connP 6) := hid (by rw [HS.out]; unfold stage2; rw [if_neg (by rw [h32]; decide), if_pos (by rw [HB5.out.len]; exact hlt5)])
      have hlt6 : (n5 : Int) < 5 := by omega
      clear hlt5
      go_wp2_with (go_at_call 19; go_must (refine (conn_any 6 _).mono ?_; unfold pv ft; rintro e w1 ⟨rfl, hb1⟩; have hP := HPV.out.pro.on hb1; have HP := hid hP; clear hb1; obtain ⟨k0, k1, k2, k3, k4, k5, k6, k7, k8, m0, m1, m2, f0, f1, f2, f3, f4, f5, f6, f7, f8, g0, g1, g2⟩ := hP.cells; clear hP))
      simp only [jumps]
      refine part_end Try.results17 rfl rfl HP.out.p rfl HP.out.q rfl (by omega) ?_
      intro w' ht
      rw [HU.out]
      exact PartPost.plain rfl rfl (HP.out.fin ht)
    have HS2 : Hid (bodyP 1 f s l = stage3 1 f pad padv (l5.drop 5)) := hid (by rw [HS.out]; unfold stage2; rw [if_neg (by rw [h32]; decide), if_neg (by rw [HB5.out.len]; exact hlt5)])
    have hge6 : (5 : Int) ≤ (n5 : Int) := by omega
    go_upto_region 14 with fail
    go_step3
    have HB6 := hid (HB5.out.off (k := 5) (cap := c5) (by omega) hnc5)
    obtain ⟨A5, hA6⟩ : ∃ A6, offA A5 5 c5 1 = A6 := ⟨_, rfl⟩
    rw [hA6] at HB6 ⊢
    clear HB5 hA6 HS
    have HB5 := HB6
    have HS := HS2
    clear HB6 HS2
    have hnc6 : n5 - 5 ≤ c5 - 5 := by omega
    have hn6 : n5 - 5 ≤ n := by omega
    clear hlt5 hge6 hnc5 hn5
    generalize n5 - 5 = n5 at HB5 hnc6 hn6 ⊢
    generalize c5 - 5 = c5 at hnc6 ⊢
    generalize l5.drop 5 = l5 at HB5 HS
    have hnc5 := hnc6
    have hn5 := hn6
    clear d0 d1 d2 d3
    rcases Int.lt_or_le (n5 : Int) pad with hlt | hle
    · have HU : Hid (bodyP 1 f s l = connP 1) := hid (by rw [HS.out]; unfold stage3; rw [if_pos (by rw [HB5.out.len]; exact hlt)])
      obtain ⟨d0, d1, d2, d3⟩ := HPV.out.cells
      go_wp2_with (go_at_call 19; go_must (refine (conn_any 1 _).mono ?_; unfold pv ft; rintro e w1 ⟨rfl, hb1⟩; have hP := HPV.out.pro.on hb1; have HP := hid hP; clear hb1; obtain ⟨k0, k1, k2, k3, k4, k5, k6, k7, k8, m0, m1, m2, f0, f1, f2, f3, f4, f5, f6, f7, f8, g0, g1, g2⟩ := hP.cells; clear hP))
      simp only [jumps]
      refine part_end Try.results17 rfl rfl HP.out.p rfl HP.out.q rfl (by omega) ?_
      intro w' ht
      rw [HU.out]
      exact PartPost.plain rfl rfl (HP.out.fin ht)
    · obtain ⟨pn, rfl⟩ : ∃ pn : Nat, pad = pn := ⟨pad.toNat, by omega⟩
      have hpn : pn ≤ n5 := by omega
      have HU : Hid (bodyP 1 f s l = { d := l5.take (n5 - pn), pad := padv, e := decide (0 < bits .and .i64 f 1), w := (decide (0 < bits .and .i64 f 4)) }) := hid (by rw [HS.out]; unfold stage3; rw [if_neg (by rw [HB5.out.len]; omega), HB5.out.len]; simp [fl])
      clear hle
      go_wp2_with (go_at_call 22; go_must (refine (clone_any A5 (n5 - pn) c5 (l5.take (n5 - pn)) _ (HB5.out.to (by omega)) (by omega)).mono ?_; rintro e w2 ⟨A1, c1, rfl, ho1, hb1⟩; have HO := hid ho1; have hP := HPV.out.pro.on hb1; have HP := hid hP; have hbp := HBP.out.below hb1 HBP.out.lt; obtain ⟨q0, q1, q2, q3, q4, q5, q6, q7, q8, qf0, qf1, qf5⟩ := blk9 hbp; obtain ⟨k0, k1, k2, k3, k4, k5, k6, k7, k8, m0, m1, m2, f0, f1, f2, f3, f4, f5, f6, f7, f8, g0, g1, g2⟩ := hP.cells; clear hb1 ho1 hP hbp))
      simp only [jumps]
      refine part_end Try.results17 rfl rfl (HP.out.turn (set3 0 _)).p rfl (HP.out.turn (set3 0 _)).q rfl (by omega) ?_
      intro w' ht
      rw [HU.out]
      have hlt := HPV.out.pro.lt
      have h3 := HBP.out.lt
      exact ⟨A1, n5 - pn, c1, none, 0, 0, rfl, ((Bs.of_own HO.out).turned (set3 0 _) (own_off HO.out (by simp; omega))).turned ht (own_off HO.out (by simp; omega)), Sts.nil _ _, Above.own HO.out HPV.out.pro.below_.size, Above.none _, (HP.out.turn (set3 0 _)).fin ht⟩
  · rintro lab a' V ⟨hlab, pad, padv, A5, n5, c5, l5, ⟨us, rfl⟩, hpad, hpv, hbp, hb5, hnc5, hn5, hS⟩
    have HPV := hid hpv
    have HBP := hid hbp
    have HB5 := hid hb5
    clear hpv hbp hb5
    rcases (show lab = 0 ∨ lab = 1 by omega) with rfl | rfl
    · rw [if_pos rfl] at hS
      have HS := hid hS
      clear hS
      refine ⟨_, rfl, ?_⟩
      obtain ⟨d0, d1, d2, d3⟩ := HPV.out.cells
      rcases and_32 f with h32 | h32
      · have HS2 : Hid (bodyP 1 f s l = stage3 1 f pad padv l5) := hid (by rw [HS.out]; unfold stage2; rw [if_pos (.inr h32)])
        go_wp2_with fail
        go_step3
        first
          | exact (show J1 f s _ n c l w 1 _ _ from ⟨by decide, pad, padv, A5, n5, c5, l5, frame_some _ rfl, hpad, HPV.out, HBP.out, HB5.out, hnc5, hn5, by rw [HS2.out]; rfl⟩)
          | exact ⟨(show J1 f s _ n c l w 1 _ _ from ⟨by decide, pad, padv, A5, n5, c5, l5, frame_some _ rfl, hpad, HPV.out, HBP.out, HB5.out, hnc5, hn5, by rw [HS2.out]; rfl⟩), by decide⟩
      by_cases hlt5 : n5 < 5
      · have HU : Hid (bodyP 1 f s l = connP 6) := hid (by rw [HS.out]; unfold stage2; rw [if_neg (by rw [h32]; decide), if_pos (by rw [HB5.out.len]; exact hlt5)])
        have hlt6 : (n5 : Int) < 5 := by omega
        clear hlt5
        go_wp2_with (go_at_call 19; go_must (refine (conn_any 6 _).mono ?_; unfold pv ft; rintro e w1 ⟨rfl, hb1⟩; have hP := HPV.out.pro.on hb1; have HP := hid hP; clear hb1; obtain ⟨k0, k1, k2, k3, k4, k5, k6, k7, k8, m0, m1, m2, f0, f1, f2, f3, f4, f5, f6, f7, f8, g0, g1, g2⟩ := hP.cells; clear hP))
        simp only [jumps]
        refine part_end Try.results17 rfl rfl HP.out.p rfl HP.out.q rfl (by omega) ?_
        intro w' ht
        rw [HU.out]
        exact PartPost.plain rfl rfl (HP.out.fin ht)
      have HS2 : Hid (bodyP 1 f s l = stage3 1 f pad padv (l5.drop 5)) := hid (by rw [HS.out]; unfold stage2; rw [if_neg (by rw [h32]; decide), if_neg (by rw [HB5.out.len]; exact hlt5)])
      have hge6 : (5 : Int) ≤ (n5 : Int) := by omega
      go_upto_region 14 with fail
      go_step3
      have HB6 := hid (HB5.out.off (k := 5) (cap := c5) (by omega) hnc5)
      obtain ⟨A5, hA6⟩ : ∃ A6, offA A5 5 c5 1 = A6 := ⟨_, rfl⟩
      rw [hA6] at HB6 ⊢
      clear HB5 hA6 HS
      have HB5 := HB6
      have HS := HS2
      clear HB6 HS2
      have hnc6 : n5 - 5 ≤ c5 - 5 := by omega
      have hn6 : n5 - 5 ≤ n := by omega
      clear hlt5 hge6 hnc5 hn5
      generalize n5 - 5 = n5 at HB5 hnc6 hn6 ⊢
      generalize c5 - 5 = c5 at hnc6 ⊢
      generalize l5.drop 5 = l5 at HB5 HS
      have hnc5 := hnc6
      have hn5 := hn6
      clear d0 d1 d2 d3
      rcases Int.lt_or_le (n5 : Int) pad with hlt | hle
      · have HU : Hid (bodyP 1 f s l = connP 1) := hid (by rw [HS.out]; unfold stage3; rw [if_pos (by rw [HB5.out.len]; exact hlt)])
        obtain ⟨d0, d1, d2, d3⟩ := HPV.out.cells
        go_wp2_with (go_at_call 19; go_must (refine (conn_any 1 _).mono ?_; unfold pv ft; rintro e w1 ⟨rfl, hb1⟩; have hP := HPV.out.pro.on hb1; have HP := hid hP; clear hb1; obtain ⟨k0, k1, k2, k3, k4, k5, k6, k7, k8, m0, m1, m2, f0, f1, f2, f3, f4, f5, f6, f7, f8, g0, g1, g2⟩ := hP.cells; clear hP))
        simp only [jumps]
        refine part_end Try.results17 rfl rfl HP.out.p rfl HP.out.q rfl (by omega) ?_
        intro w' ht
        rw [HU.out]
        exact PartPost.plain rfl rfl (HP.out.fin ht)
      · obtain ⟨pn, rfl⟩ : ∃ pn : Nat, pad = pn := ⟨pad.toNat, by omega⟩
        have hpn : pn ≤ n5 := by omega
        have HU : Hid (bodyP 1 f s l = { d := l5.take (n5 - pn), pad := padv, e := decide (0 < bits .and .i64 f 1), w := (decide (0 < bits .and .i64 f 4)) }) := hid (by rw [HS.out]; unfold stage3; rw [if_neg (by rw [HB5.out.len]; omega), HB5.out.len]; simp [fl])
        clear hle
        go_wp2_with (go_at_call 22; go_must (refine (clone_any A5 (n5 - pn) c5 (l5.take (n5 - pn)) _ (HB5.out.to (by omega)) (by omega)).mono ?_; rintro e w2 ⟨A1, c1, rfl, ho1, hb1⟩; have HO := hid ho1; have hP := HPV.out.pro.on hb1; have HP := hid hP; have hbp := HBP.out.below hb1 HBP.out.lt; obtain ⟨q0, q1, q2, q3, q4, q5, q6, q7, q8, qf0, qf1, qf5⟩ := blk9 hbp; obtain ⟨k0, k1, k2, k3, k4, k5, k6, k7, k8, m0, m1, m2, f0, f1, f2, f3, f4, f5, f6, f7, f8, g0, g1, g2⟩ := hP.cells; clear hb1 ho1 hP hbp))
        simp only [jumps]
        refine part_end Try.results17 rfl rfl (HP.out.turn (set3 0 _)).p rfl (HP.out.turn (set3 0 _)).q rfl (by omega) ?_
        intro w' ht
        rw [HU.out]
        have hlt := HPV.out.pro.lt
        have h3 := HBP.out.lt
        exact ⟨A1, n5 - pn, c1, none, 0, 0, rfl, ((Bs.of_own HO.out).turned (set3 0 _) (own_off HO.out (by simp; omega))).turned ht (own_off HO.out (by simp; omega)), Sts.nil _ _, Above.own HO.out HPV.out.pro.below_.size, Above.none _, (HP.out.turn (set3 0 _)).fin ht⟩
    · rw [if_neg (by decide)] at hS
      have HS := hid hS
      clear hS
      refine ⟨_, rfl, ?_⟩
      rcases Int.lt_or_le (n5 : Int) pad with hlt | hle
      · have HU : Hid (bodyP 1 f s l = connP 1) := hid (by rw [HS.out]; unfold stage3; rw [if_pos (by rw [HB5.out.len]; exact hlt)])
        obtain ⟨d0, d1, d2, d3⟩ := HPV.out.cells
        go_wp2_with (go_at_call 19; go_must (refine (conn_any 1 _).mono ?_; unfold pv ft; rintro e w1 ⟨rfl, hb1⟩; have hP := HPV.out.pro.on hb1; have HP := hid hP; clear hb1; obtain ⟨k0, k1, k2, k3, k4, k5, k6, k7, k8, m0, m1, m2, f0, f1, f2, f3, f4, f5, f6, f7, f8, g0, g1, g2⟩ := hP.cells; clear hP))
        simp only [jumps]
        refine part_end Try.results17 rfl rfl HP.out.p rfl HP.out.q rfl (by omega) ?_
        intro w' ht
        rw [HU.out]
        exact PartPost.plain rfl rfl (HP.out.fin ht)
      · obtain ⟨pn, rfl⟩ : ∃ pn : Nat, pad = pn := ⟨pad.toNat, by omega⟩
        have hpn : pn ≤ n5 := by omega
        have HU : Hid (bodyP 1 f s l = { d := l5.take (n5 - pn), pad := padv, e := decide (0 < bits .and .i64 f 1), w := (decide (0 < bits .and .i64 f 4)) }) := hid (by rw [HS.out]; unfold stage3; rw [if_neg (by rw [HB5.out.len]; omega), HB5.out.len]; simp [fl])
        clear hle
        go_wp2_with (go_at_call 22; go_must (refine (clone_any A5 (n5 - pn) c5 (l5.take (n5 - pn)) _ (HB5.out.to (by omega)) (by omega)).mono ?_; rintro e w2 ⟨A1, c1, rfl, ho1, hb1⟩; have HO := hid ho1; have hP := HPV.out.pro.on hb1; have HP := hid hP; have hbp := HBP.out.below hb1 HBP.out.lt; obtain ⟨q0, q1, q2, q3, q4, q5, q6, q7, q8, qf0, qf1, qf5⟩ := blk9 hbp; obtain ⟨k0, k1, k2, k3, k4, k5, k6, k7, k8, m0, m1, m2, f0, f1, f2, f3, f4, f5, f6, f7, f8, g0, g1, g2⟩ := hP.cells; clear hb1 ho1 hP hbp))
        simp only [jumps]
        refine part_end Try.results17 rfl rfl (HP.out.turn (set3 0 _)).p rfl (HP.out.turn (set3 0 _)).q rfl (by omega) ?_
        intro w' ht
        rw [HU.out]
        have hlt := HPV.out.pro.lt
        have h3 := HBP.out.lt
        exact ⟨A1, n5 - pn, c1, none, 0, 0, rfl, ((Bs.of_own HO.out).turned (set3 0 _) (own_off HO.out (by simp; omega))).turned ht (own_off HO.out (by simp; omega)), Sts.nil _ _, Above.own HO.out HPV.out.pro.below_.size, Above.none _, (HP.out.turn (set3 0 _)).fin ht⟩
end Go.Proofs.Ytdiahjeplaegnaa
