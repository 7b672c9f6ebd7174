/- The package part's Read, its callees first, each call once, over whatever memory. Conditions: at most 2^45 bytes. -/
import Derived.Test.YtdiahjeplaegnaaPartEnd
import Derived.Test.YtdiahjeplaegnaaMixZ
import Derived.Deep.QuietTactic
import Derived.BigQuiet
import Derived.Deep.DeepCutAuto
import Derived.WalkMore
import Derived.ScopeJumps
namespace Go.Proofs.Ytdiahjeplaegnaa
open Go.RowKit
attribute [local go_sem] kd kdS
attribute [local go_sem ↓] sliced_word

set_option maxHeartbeats 400000 in
set_option maxRecDepth 100000 in
theorem conn_any (k : Int) (w : World) : Calls Try.prog 19 #[.int .i64 k] w fun e w' => e = .returned (.tuple #[pv none 0 0 0 0 0 0 none 0 0 false false false, ft true true k]) ∧ Below w.heap.size w w' := by
  go_enter Try.func19, Try.ntmps19
  go_wp2_with fail
  exact bodyPost_ret (v := .tuple #[pv none 0 0 0 0 0 0 none 0 0 false false false, ft true true k]) (by simp [pv, ft, results, Try.results19, go_sem]) rfl ⟨rfl, ((Below.refl _ _).alloc (Nat.le_refl _) _).alloc (by simp) _⟩
set_option maxHeartbeats 400000 in
set_option maxRecDepth 100000 in
theorem stream_any (k : Int) (w : World) : Calls Try.prog 23 #[.int .i64 k] w fun e w' => e = .returned (.tuple #[pv none 0 0 0 0 0 0 none 0 0 false false false, ft true false k]) ∧ Below w.heap.size w w' := by
  go_enter Try.func23, Try.ntmps23
  go_wp2_with fail
  exact bodyPost_ret (v := .tuple #[pv none 0 0 0 0 0 0 none 0 0 false false false, ft true false k]) (by simp [pv, ft, results, Try.results23, go_sem]) rfl ⟨rfl, ((Below.refl _ _).alloc (Nat.le_refl _) _).alloc (by simp) _⟩

set_option maxHeartbeats 400000 in
set_option maxRecDepth 100000 in
theorem number_any (A : Option Addr) (n c : Nat) (l : List UInt8) (w : World) (h : Bs w A n l) (hn : 4 ≤ n) :
    Calls Try.prog 24 #[.slice A n c] w fun e w' => e = .returned (.int .i64 (n4 l)) ∧ ∃ k, w' = w.drewN k := by
  obtain ⟨b, o, x0, rfl, hx0, hc0⟩ := h.at_ (i := 0) (by omega)
  clear hx0 hc0
  have c0 := nb_cell h (i := 0) (by omega)
  rw [Nat.add_zero] at c0
  have c1 := nb_cell h (i := 1) (by omega)
  have c2 := nb_cell h (i := 2) (by omega)
  have c3 := nb_cell h (i := 3) (by omega)
  have hi0 : (0 : Int) < n := by omega
  have hi1 : (1 : Int) < n := by omega
  have hi2 : (2 : Int) < n := by omega
  have hi3 : (3 : Int) < n := by omega
  have H4 := hid (n4c l)
  clear h
  go_enter Try.func24, Try.ntmps24
  go_wp2_with fail
  go_quiet (fail)
  go_wp2_with fail
  go_ret
  exact ⟨congrArg (fun z => Ending.returned (.int .i64 z)) H4.out, nq, rfl⟩
theorem number_below (A : Option Addr) (n c : Nat) (l : List UInt8) (w : World) (h : Bs w A n l) (hn : 4 ≤ n) :
    Calls Try.prog 24 #[.slice A n c] w fun e w' => e = .returned (.int .i64 (n4 l)) ∧ Below w.heap.size w w' :=
  (number_any A n c l w h hn).mono fun _ _ ⟨he, k, hk⟩ => ⟨he, hk ▸ below_drewN (Below.refl _ _) k⟩

def updateP (s : Int) (l : List UInt8) : PR :=
  if l.length ≠ 4 then connP 6 else if m31 (n4 l) = 0 then (if s = 0 then connP 1 else streamP 1) else { step := m31 (n4 l) }

set_option maxHeartbeats 400000 in
set_option maxRecDepth 100000 in
theorem update_any (k f s : Int) (A : Option Addr) (n c : Nat) (l : List UInt8) (w : World) (h : Bs w A n l) :
    Calls Try.prog 21 #[.agg #[.int .i64 k, .int .i64 f, .int .i64 s, .slice A n c]] w (PartPost (updateP s l) w) := by
  have hlen := h.len
  by_cases hn : n = 4
  · subst hn
    have H := hid h
    have h4 := n4_le l
    have hm := m31b h4.1 h4.2
    have h5 := m31_le (n4 l)
    have HL := hid hlen
    clear h hlen
    have hcase : (∃ P, updateP s l = P ∧ P = connP 1 ∧ m31 (n4 l) = 0 ∧ s = 0) ∨ (∃ P, updateP s l = P ∧ P = streamP 1 ∧ m31 (n4 l) = 0 ∧ s ≠ 0) ∨ (updateP s l = { step := m31 (n4 l) } ∧ m31 (n4 l) ≠ 0) := by
      unfold updateP
      rw [if_neg (by rw [HL.out]; omega)]
      by_cases h0 : m31 (n4 l) = 0
      · rw [if_pos h0]
        by_cases hs : s = 0
        · exact .inl ⟨_, rfl, if_pos hs, h0, hs⟩
        · exact .inr (.inl ⟨_, rfl, if_neg hs, h0, hs⟩)
      · exact .inr (.inr ⟨if_neg h0, h0⟩)
    generalize hN : m31 (n4 l) = N at hm h5 hcase
    clear hN h4
    have HPn := fun nq => hid ((Pro.new w (.cells #[.int .i64 k, .int .i64 f, .int .i64 s, .slice A 4 c] 34)).on (below_drewN (Below.refl _ _) nq))
    rcases hcase with ⟨P, hU, rfl, rfl, rfl⟩ | ⟨P, hU, rfl, rfl, hs⟩ | ⟨hU, h0⟩
    · have HU := hid hU
      clear hU
      go_enter Try.func21, Try.ntmps21
      go_wp2_with (first
        | (go_at_call 24; go_must (refine (number_any A 4 c l _ (H.out.below ((((Below.refl _ _).alloc (Nat.le_refl _) _).alloc (by simp) _).alloc (by simp; omega) _)) (by omega)).mono ?_; rintro e w1 ⟨rfl, nq, rfl⟩))
        | (go_at_call 19; go_must (refine (conn_any 1 _).mono ?_; unfold pv ft; rintro e w1 ⟨rfl, hb1⟩; have hP := (HPn nq).out.on hb1; have HP := hid hP; clear hb1; obtain ⟨k0, k1, k2, k3, k4, k5, k6, k7, k8, m0, m1, m2, f0, f1, f2, f3, f4, f5, f6, f7, f8, g0, g1, g2⟩ := hP.cells; clear hP)))
      refine part_end Try.results21 rfl rfl HP.out.p rfl HP.out.q rfl (by omega) ?_
      intro w' ht
      rw [HU.out]
      exact PartPost.plain rfl rfl (HP.out.fin ht)

    · have HU := hid hU
      have hs' : (s == 0) = false := beq_eq_false_iff_ne.2 hs
      clear hU hs
      go_enter Try.func21, Try.ntmps21
      go_wp2_with (first
        | (go_at_call 24; go_must (refine (number_any A 4 c l _ (H.out.below ((((Below.refl _ _).alloc (Nat.le_refl _) _).alloc (by simp) _).alloc (by simp; omega) _)) (by omega)).mono ?_; rintro e w1 ⟨rfl, nq, rfl⟩))
        | (go_at_call 23; go_must (refine (stream_any 1 _).mono ?_; unfold pv ft; rintro e w1 ⟨rfl, hb1⟩; have hP := (HPn nq).out.on hb1; have HP := hid hP; clear hb1; obtain ⟨k0, k1, k2, k3, k4, k5, k6, k7, k8, m0, m1, m2, f0, f1, f2, f3, f4, f5, f6, f7, f8, g0, g1, g2⟩ := hP.cells; clear hP)))
      refine part_end Try.results21 rfl rfl HP.out.p rfl HP.out.q rfl (by omega) ?_
      intro w' ht
      rw [HU.out]
      exact PartPost.plain rfl rfl (HP.out.fin ht)

    · have HU := hid hU
      have h0' : (N == 0) = false := beq_eq_false_iff_ne.2 h0
      clear h0 hU
      go_enter Try.func21, Try.ntmps21
      go_wp2_with (go_at_call 24; go_must (refine (number_any A 4 c l _ (H.out.below ((((Below.refl _ _).alloc (Nat.le_refl _) _).alloc (by simp) _).alloc (by simp; omega) _)) (by omega)).mono ?_; rintro e w1 ⟨rfl, nq, rfl⟩))
      have HP := HPn nq
      refine part_end Try.results21 rfl rfl HP.out.p rfl HP.out.q rfl (by omega) ?_
      intro w' ht
      rw [HU.out]
      exact PartPost.plain rfl rfl (HP.out.fin ht)

  · have HU : Hid (updateP s l = connP 6) := hid (by unfold updateP; rw [if_pos (by omega)])
    have hn' : ((n : Int) == 4) = false := beq_eq_false_iff_ne.2 (by omega)
    clear hn hlen h
    go_enter Try.func21, Try.ntmps21
    go_wp2_with (go_at_call 19; go_must (refine (conn_any 6 _).mono ?_; unfold pv ft; rintro e w1 ⟨rfl, hb1⟩; have hP := (Pro.new w _).on hb1; have HP := hid hP; clear hb1; obtain ⟨k0, k1, k2, k3, k4, k5, k6, k7, k8, m0, m1, m2, f0, f1, f2, f3, f4, f5, f6, f7, f8, g0, g1, g2⟩ := hP.cells; clear hP))
    refine part_end Try.results21 rfl rfl HP.out.p rfl HP.out.q rfl (by omega) ?_
    intro w' ht
    rw [HU.out]
    exact PartPost.plain rfl rfl (HP.out.fin ht)

def wholeP (k f s : Int) (l : List UInt8) : PR :=
  if s ≠ 0 then connP 1 else if l.length < 8 ∨ (k = 6 ∧ 8 < l.length) then connP 6 else if k = 6 then { d := l, a := fl f 1 } else { last := m31 (n4 l), code := n4 (l.drop 4) }

set_option maxHeartbeats 1000000 in
set_option maxRecDepth 100000 in
theorem whole_any (k f s : Int) (A : Option Addr) (n c : Nat) (l : List UInt8) (w : World) (h : Bs w A n l) (hnc : n ≤ c) (hn : n ≤ 70368744177664) :
    Calls Try.prog 20 #[.agg #[.int .i64 k, .int .i64 f, .int .i64 s, .slice A n c]] w (PartPost (wholeP k f s l) w) := by
  have hlen := h.len
  have H := hid h
  clear h
  by_cases hs : s = 0
  rotate_left
  · have HU : Hid (wholeP k f s l = connP 1) := hid (by unfold wholeP; rw [if_pos hs])
    have hs' : (s == 0) = false := beq_eq_false_iff_ne.2 hs
    clear hlen hs
    go_enter Try.func20, Try.ntmps20
    go_upto_region 1 with fail
    have hpw := ProF.new w k f s A n c
    generalize (((w.alloc (.cells #[.int .i64 k, .int .i64 f, .int .i64 s, .slice A n c] 34)).alloc (.cells #[.slice none 0 0, .int .i64 0, .int .i64 0, .int .i64 0, .int .i64 0, .slice none 0 0, .bool false, .bool false, .bool false] 28)).alloc (.cells #[.bool false, .bool false, .int .i64 0] 30)) = W at hpw ⊢
    have HPW := hid hpw
    obtain ⟨d0, d1, d2, d3⟩ := hpw.cells
    clear hpw
    go_wp2_with (go_at_call 19; go_must (refine (conn_any 1 _).mono ?_; unfold pv ft; rintro e w1 ⟨rfl, hb1⟩; have hP := HPW.out.pro.on hb1; have HP := hid hP; clear hb1; obtain ⟨k0, k1, k2, k3, k4, k5, k6, k7, k8, m0, m1, m2, f0, f1, f2, f3, f4, f5, f6, f7, f8, g0, g1, g2⟩ := hP.cells; clear hP))
    refine part_end Try.results20 rfl rfl HP.out.p rfl HP.out.q rfl (by omega) ?_
    intro w' ht
    rw [HU.out]
    exact PartPost.plain rfl rfl (HP.out.fin ht)
  subst hs
  by_cases hn8 : n < 8
  · have HU : Hid (wholeP k f 0 l = connP 6) := hid (by unfold wholeP; rw [if_neg (by simp), if_pos (by omega)])
    have hn' : (n : Int) < 8 := by omega
    clear hlen hn8
    go_enter Try.func20, Try.ntmps20
    go_upto_region 1 with fail
    have hpw := ProF.new w k f 0 A n c
    generalize (((w.alloc (.cells #[.int .i64 k, .int .i64 f, .int .i64 0, .slice A n c] 34)).alloc (.cells #[.slice none 0 0, .int .i64 0, .int .i64 0, .int .i64 0, .int .i64 0, .slice none 0 0, .bool false, .bool false, .bool false] 28)).alloc (.cells #[.bool false, .bool false, .int .i64 0] 30)) = W at hpw ⊢
    have HPW := hid hpw
    obtain ⟨d0, d1, d2, d3⟩ := hpw.cells
    clear hpw
    go_wp2_with (go_at_call 19; go_must (refine (conn_any 6 _).mono ?_; unfold pv ft; rintro e w1 ⟨rfl, hb1⟩; have hP := HPW.out.pro.on hb1; have HP := hid hP; clear hb1; obtain ⟨k0, k1, k2, k3, k4, k5, k6, k7, k8, m0, m1, m2, f0, f1, f2, f3, f4, f5, f6, f7, f8, g0, g1, g2⟩ := hP.cells; clear hP))
    refine part_end Try.results20 rfl rfl HP.out.p rfl HP.out.q rfl (by omega) ?_
    intro w' ht
    rw [HU.out]
    exact PartPost.plain rfl rfl (HP.out.fin ht)
  by_cases hk : k = 6
  rotate_left
  · have HU : Hid (wholeP k f 0 l = { last := m31 (n4 l), code := n4 (l.drop 4) }) := hid (by unfold wholeP; rw [if_neg (by simp), if_neg (by omega), if_neg hk])
    have hk' : (k == 6) = false := beq_eq_false_iff_ne.2 hk
    have hn' : (8 : Int) ≤ n := by omega
    have h4 := n4_le l
    have hm := m31b h4.1 h4.2
    clear hlen hn8 hk h4
    go_enter Try.func20, Try.ntmps20
    go_upto_region 1 with fail
    have hpw := ProF.new w k f 0 A n c
    generalize (((w.alloc (.cells #[.int .i64 k, .int .i64 f, .int .i64 0, .slice A n c] 34)).alloc (.cells #[.slice none 0 0, .int .i64 0, .int .i64 0, .int .i64 0, .int .i64 0, .slice none 0 0, .bool false, .bool false, .bool false] 28)).alloc (.cells #[.bool false, .bool false, .int .i64 0] 30)) = W at hpw ⊢
    have HPW := hid hpw
    obtain ⟨d0, d1, d2, d3⟩ := hpw.cells
    clear hpw
    go_wp2_with fail
    have HSB := hid (show Turned [w.heap.size + 1, w.heap.size + 2] W W.drew from (Turned.refl _ _).drew)
    have LB : Hid (∀ w', Turned [w.heap.size + 1, w.heap.size + 2] W w' → (Instr.loadAt 25 (.pointer (some ⟨w.heap.size, 3, none⟩))).run Try.prog w' = .ok (.slice A n c) w') := hid fun w' ht => by
      have z := ht.cell d3 (by simp)
      clear d0 d1 d2 d3
      go_simp
    have LF : Hid (∀ w', Turned [w.heap.size + 1, w.heap.size + 2] W w' → (Instr.loadAt 3 (.pointer (some ⟨w.heap.size, 1, none⟩))).run Try.prog w' = .ok (.int .i64 f) w') := hid fun w' ht => by
      have z := ht.cell d1 (by simp)
      clear d0 d1 d2 d3
      go_simp
    (refine wp_mixZ (Turned [w.heap.size + 1, w.heap.size + 2] W) rfl ?_ ?_ (HSB.out) ?_; (focus kernel_rfl); (focus kernel_rfl); intro KK hKK; simp only [List.dropLast_cons_cons, List.dropLast_singleton]; go_wp2_with (first
                                                                  | (first
      | ((with_reducible refine mixS_load LB.out ?_ ?_ ?_); (focus rfl); (focus rfl))
      | (go_at_call 24; ((with_reducible refine (number_below A n c l _ (H.out.below (HPW.out.pro.fin HSB.out)) (by omega)).mono ?_); rintro e w1 ⟨rfl, hb1⟩; have HSB := hid (HSB.out.then hb1); have HP1 := hid ((HPW.out.pro.on (Below.refl _ _).drew).on hb1); clear hb1))
      | (go_at_call 24; go_must (refine (number_below (offA A 4 c 1) (n - 4) (c - 4) (l.drop 4) _ ((H.out.off (k := 4) (by omega) hnc).below (HPW.out.pro.fin HSB.out)) (by omega)).mono ?_; rintro e w1 ⟨rfl, hb1⟩; have HSB := hid (HSB.out.then hb1); have hP := HP1.out.on hb1; have HP := hid hP; clear hb1; obtain ⟨k0, k1, k2, k3, k4, k5, k6, k7, k8, m0, m1, m2, f0, f1, f2, f3, f4, f5, f6, f7, f8, g0, g1, g2⟩ := hP.cells; clear hP))
      | ((with_reducible refine And.intro ?_ ?_); (focus (first | (with_reducible exact HSB.out) | exact turned9 HSB.out (by simp))))
      | ((with_reducible refine mix_nil ?_); refine hKK _ _ (turned9 HSB.out (by simp)) ?_; (with_reducible refine last_on ?_ ?_); (focus rfl); intro K hK; go_simp))
                                                                  | ((with_reducible refine mix_nil ?_); refine hKK _ _ (HSB.out) ?_; (with_reducible refine last_on ?_ ?_); (focus rfl); intro K hK; go_simp)
                                                                  | ((with_reducible refine mixS_on ?_ ?_); (focus rfl); intro K K' hK hK'; go_simp; (first | ((with_reducible refine hK _ _ ?_); clear hK hK' K K') | ((with_reducible refine hK' _ _ ?_); clear hK hK' K K') | skip))
                                                                  | ((with_reducible refine mixS_off ?_ ?_); (focus rfl); intro K hK; go_simp; (first | ((with_reducible refine hK _ _ ?_); clear hK K) | skip))
                                                                  | ((with_reducible refine mixS_step ?_); intro K K' hK hK'; go_simp; (first | ((with_reducible refine hK _ _ ?_); clear hK hK' K K') | ((with_reducible refine hK' _ _ ?_); clear hK hK' K K') | skip))))
    refine part_end Try.results20 rfl rfl HP.out.p rfl HP.out.q rfl (by omega) ?_
    intro w' ht
    rw [HU.out]
    exact PartPost.plain rfl rfl (HP.out.fin ht)
  subst hk
  by_cases hn9 : 8 < n
  · have HU : Hid (wholeP 6 f 0 l = connP 6) := hid (by unfold wholeP; rw [if_neg (by simp), if_pos (by omega)])
    have hn' : (8 : Int) < n := by omega
    clear hlen hn8 hn9
    go_enter Try.func20, Try.ntmps20
    go_upto_region 1 with fail
    have hpw := ProF.new w 6 f 0 A n c
    generalize (((w.alloc (.cells #[.int .i64 6, .int .i64 f, .int .i64 0, .slice A n c] 34)).alloc (.cells #[.slice none 0 0, .int .i64 0, .int .i64 0, .int .i64 0, .int .i64 0, .slice none 0 0, .bool false, .bool false, .bool false] 28)).alloc (.cells #[.bool false, .bool false, .int .i64 0] 30)) = W at hpw ⊢
    have HPW := hid hpw
    obtain ⟨d0, d1, d2, d3⟩ := hpw.cells
    clear hpw
    go_wp2_with (go_at_call 19; go_must (refine (conn_any 6 _).mono ?_; unfold pv ft; rintro e w1 ⟨rfl, hb1⟩; have hP := HPW.out.pro.on hb1; have HP := hid hP; clear hb1; obtain ⟨k0, k1, k2, k3, k4, k5, k6, k7, k8, m0, m1, m2, f0, f1, f2, f3, f4, f5, f6, f7, f8, g0, g1, g2⟩ := hP.cells; clear hP))
    refine part_end Try.results20 rfl rfl HP.out.p rfl HP.out.q rfl (by omega) ?_
    intro w' ht
    rw [HU.out]
    exact PartPost.plain rfl rfl (HP.out.fin ht)
  have HU : Hid (wholeP 6 f 0 l = { d := l, a := fl f 1 }) := hid (by unfold wholeP; rw [if_neg (by simp), if_neg (by omega), if_pos rfl])
  obtain rfl : n = 8 := by omega
  clear hlen hn8 hn9
  go_enter Try.func20, Try.ntmps20
  go_upto_region 1 with fail
  have hpw := ProF.new w 6 f 0 A 8 c
  generalize (((w.alloc (.cells #[.int .i64 6, .int .i64 f, .int .i64 0, .slice A 8 c] 34)).alloc (.cells #[.slice none 0 0, .int .i64 0, .int .i64 0, .int .i64 0, .int .i64 0, .slice none 0 0, .bool false, .bool false, .bool false] 28)).alloc (.cells #[.bool false, .bool false, .int .i64 0] 30)) = W at hpw ⊢
  have HPW := hid hpw
  obtain ⟨d0, d1, d2, d3⟩ := hpw.cells
  clear hpw
  go_wp2_with fail
  have HSB := hid (show Turned [w.heap.size + 1, w.heap.size + 2] W W.drew from (Turned.refl _ _).drew)
  have LB : Hid (∀ w', Turned [w.heap.size + 1, w.heap.size + 2] W w' → (Instr.loadAt 25 (.pointer (some ⟨w.heap.size, 3, none⟩))).run Try.prog w' = .ok (.slice A 8 c) w') := hid fun w' ht => by
    have z := ht.cell d3 (by simp)
    clear d0 d1 d2 d3
    go_simp
  have LF : Hid (∀ w', Turned [w.heap.size + 1, w.heap.size + 2] W w' → (Instr.loadAt 3 (.pointer (some ⟨w.heap.size, 1, none⟩))).run Try.prog w' = .ok (.int .i64 f) w') := hid fun w' ht => by
    have z := ht.cell d1 (by simp)
    clear d0 d1 d2 d3
    go_simp
  (refine wp_mixZ (Turned [w.heap.size + 1, w.heap.size + 2] W) rfl ?_ ?_ (HSB.out) ?_; (focus kernel_rfl); (focus kernel_rfl); intro KK hKK; simp only [List.dropLast_cons_cons, List.dropLast_singleton]; go_wp2_with (first
                                                                | (first
      | ((with_reducible refine mixS_load LB.out ?_ ?_ ?_); (focus rfl); (focus rfl))
      | ((with_reducible refine mixS_load LF.out ?_ ?_ ?_); (focus rfl); (focus rfl))
      | (go_at_call 22; go_must (refine (clone_any A 8 c l _ (H.out.below (HPW.out.pro.fin HSB.out)) hn).mono ?_; rintro e w1 ⟨A1, c1, rfl, ho1, hb1⟩; have HO := hid ho1; have HSB0 := hid (HPW.out.pro.fin HSB.out).size; have HSB := hid (HSB.out.then hb1); have hP := (HPW.out.pro.on (Below.refl _ _).drew).on hb1; have HP := hid hP; clear hb1 ho1; obtain ⟨k0, k1, k2, k3, k4, k5, k6, k7, k8, m0, m1, m2, f0, f1, f2, f3, f4, f5, f6, f7, f8, g0, g1, g2⟩ := hP.cells; clear hP))
      | ((with_reducible refine And.intro ?_ ?_); (focus (first | (with_reducible exact HSB.out) | exact turned9 HSB.out (by simp))))
      | ((with_reducible refine mix_nil ?_); refine hKK _ _ (turned9 HSB.out (by simp)) ?_; (with_reducible refine last_on ?_ ?_); (focus rfl); intro K hK; go_simp))
                                                                | ((with_reducible refine mix_nil ?_); refine hKK _ _ (HSB.out) ?_; (with_reducible refine last_on ?_ ?_); (focus rfl); intro K hK; go_simp)
                                                                | ((with_reducible refine mixS_on ?_ ?_); (focus rfl); intro K K' hK hK'; go_simp; (first | ((with_reducible refine hK _ _ ?_); clear hK hK' K K') | ((with_reducible refine hK' _ _ ?_); clear hK hK' K K') | skip))
                                                                | ((with_reducible refine mixS_off ?_ ?_); (focus rfl); intro K hK; go_simp; (first | ((with_reducible refine hK _ _ ?_); clear hK K) | skip))
                                                                | ((with_reducible refine mixS_step ?_); intro K K' hK hK'; go_simp; (first | ((with_reducible refine hK _ _ ?_); clear hK hK' K K') | ((with_reducible refine hK' _ _ ?_); clear hK hK' K K') | skip))))
  refine part_end Try.results20 rfl rfl HP.out.p rfl HP.out.q rfl (by omega) ?_
  intro w' ht
  rw [HU.out]
  exact ⟨A1, 8, c1, none, 0, 0, rfl, (Bs.of_own HO.out).turned ht (own_off HO.out (by have := HPW.out.pro.lt; simp; omega)), Sts.nil _ _, Above.own HO.out (HSB0.out), Above.none _, HP.out.fin ht⟩
end Go.Proofs.Ytdiahjeplaegnaa
