/- The quota's book: Count, and New of one user. Each lemma names its own conditions. -/
import Derived.Test.YtpikhnadihfhpaaQBook
namespace Go.Proofs.Ytpikhnadihfhpaa
open Go.RowKit
attribute [local go_sem] kd kdS
attribute [local go_sem ↓] sliced_word
attribute [local go_sem] offA_zero
theorem run_store_complex {P : Program} {w : World} {a : Addr} {m : Mode} (k : FloatKind) (x y : Nat) : (store a (.complex k x y) m).run P w = stored P w a (.complex k x y) m := run_store P w a _ m rfl
attribute [local go_sem] run_store_complex

section
variable {w w' : World} {B g m p : Nat} {T o : Int} {mu md a b mx my ux uy : Nat}
set_option maxHeartbeats 1000000 in
set_option maxRecDepth 100000 in
theorem count_book (s : ByteArray) (hs : s = u0) (x y n q : Nat) (h : QB w B g T o mu md a b) (hmu : mu ≤ 1125899906842624) (hmd : md ≤ 1125899906842624) (ha : a ≤ mu) (hb : b ≤ md) (vx : V x n) (vy : V y q) (hn : n ≤ mu - a) (hq : q ≤ md - b) (hB : B ≤ w.heap.size) :
    Calls Try.prog 11 #[.pointer (some ⟨g, 0, none⟩), .string s, .complex .f64 x y] w fun e w' => e = .returned (.int .i64 0) ∧ QB w' B g T o mu md (a + n) (b + q) ∧ Below B w w' := by
  obtain ⟨m, p, mx, my, ux, uy, h⟩ := h
  have H := hid h
  have k0 : w.cell? ⟨g, 0, none⟩ = some (.map (some m)) := h.bk.cell 0
  have k3 : w.cell? ⟨p, 3, none⟩ = some (.complex .f64 ux uy) := h.pg.cell 3
  have hl := run_look1 (s := s) h.mp
  rw [if_pos hs] at hl
  have b2 : (2 : Nat) ^ 53 = 9007199254740992 := by decide
  obtain ⟨r1, r2, hr0, v1, v2⟩ := csum_V h.vux h.vuy vx vy (by omega) (by omega)
  have hr := fun w => hr0 Try.prog 23 w
  have HV := hid (And.intro v1 v2)
  have VX := hid (And.intro vx vy)
  clear h hs hr0 v1 v2 b2 vx vy
  go_enter Try.func11, Try.ntmps11
  go_wp2_with fail
  refine (is_V _ VX.out.1 VX.out.2 (by omega) (by omega)).mono ?_
  rintro e w2 ⟨rfl, rfl⟩
  go_wp2_with fail
  go_must (refine (left_page H.out hmu hmd ha hb).mono ?_)
  rintro e w2 ⟨z1, z2, rfl, d1, d2, hb2⟩
  have HD := hid (And.intro d1 d2)
  have HP := hid (H.out.below hb2)
  have HB2 := hid hb2
  have k3 := below_keep hb2 _ _ k3
  have f3 := HP.out.pg.frozen 3
  clear d1 d2 hb2
  go_wp2_with fail
  refine (covers_V z1 z2 x y _ _ _ _ _ HD.out.1 HD.out.2 VX.out.1 VX.out.2 (by omega) (by omega) (by omega) (by omega)).mono ?_
  rw [decide_eq_true (And.intro hn hq)]
  rintro e w3 ⟨rfl, rfl⟩
  go_wp2_with fail
  go_ret
  have ht : Turned [p] w2 (w2.setCell ⟨p, 3, none⟩ (.complex .f64 r1 r2)) := (Turned.refl _ _).setCell (by simp) _
  exact ⟨rfl, HP.out.set ht (HP.out.pg.set_ 3 _) HV.out.1 HV.out.2, (HB2.out.mono hB).trans (ht.below (by have := H.out.bp; simpa using this) (Nat.le_trans hB HB2.out.size))⟩
set_option maxHeartbeats 1000000 in
set_option maxRecDepth 100000 in
theorem count_full (s : ByteArray) (hs : s = u0) (x y n q : Nat) (h : QB w B g T o mu md a b) (hmu : mu ≤ 1125899906842624) (hmd : md ≤ 1125899906842624) (ha : a ≤ mu) (hb : b ≤ md) (vx : V x n) (vy : V y q) (hn : n ≤ 1125899906842624) (hq : q ≤ 1125899906842624) (hno : ¬ (n ≤ mu - a ∧ q ≤ md - b)) :
    Calls Try.prog 11 #[.pointer (some ⟨g, 0, none⟩), .string s, .complex .f64 x y] w fun e w' => e = .returned (.int .i64 7) ∧ Below w.heap.size w w' := by
  obtain ⟨m, p, mx, my, ux, uy, h⟩ := h
  have H := hid h
  have k0 : w.cell? ⟨g, 0, none⟩ = some (.map (some m)) := h.bk.cell 0
  have hl := run_look1 (s := s) h.mp
  rw [if_pos hs] at hl
  have VX := hid (And.intro vx vy)
  have HNO := hid hno
  clear h hs vx vy hno
  go_enter Try.func11, Try.ntmps11
  go_wp2_with fail
  refine (is_V _ VX.out.1 VX.out.2 (by omega) (by omega)).mono ?_
  rintro e w2 ⟨rfl, rfl⟩
  go_wp2_with fail
  go_must (refine (left_page H.out hmu hmd ha hb).mono ?_)
  rintro e w2 ⟨z1, z2, rfl, d1, d2, hb2⟩
  have HD := hid (And.intro d1 d2)
  have HB2 := hid hb2
  clear d1 d2 hb2
  go_wp2_with fail
  refine (covers_V z1 z2 x y _ _ _ _ _ HD.out.1 HD.out.2 VX.out.1 VX.out.2 (by omega) (by omega) (by omega) (by omega)).mono ?_
  rw [decide_eq_false HNO.out]
  rintro e w3 ⟨rfl, rfl⟩
  go_wp2_with fail
  go_ret
  exact ⟨rfl, HB2.out⟩
end

/-- A user's cells. -/
def UserAt (w : World) (u : Nat) (T : Int) (x y : Nat) : Prop :=
  w.cell? ⟨u, 0, none⟩ = some (.string u0) ∧ w.cell? ⟨u, 1, none⟩ = some (.slice none 0 0) ∧ w.cell? ⟨u, 2, none⟩ = some (.slice none 0 0) ∧ w.cell? ⟨u, 3, none⟩ = some (.int .i64 T) ∧ w.cell? ⟨u, 4, none⟩ = some (.complex .f64 x y) ∧ w.cell? ⟨u, 5, none⟩ = some (.slice none 0 0)
theorem UserAt.below {w w' : World} {u : Nat} {T : Int} {x y : Nat} (h : UserAt w u T x y) (hb : Below w.heap.size w w') : UserAt w' u T x y :=
  ⟨below_keep hb _ _ h.1, below_keep hb _ _ h.2.1, below_keep hb _ _ h.2.2.1, below_keep hb _ _ h.2.2.2.1, below_keep hb _ _ h.2.2.2.2.1, below_keep hb _ _ h.2.2.2.2.2⟩

set_option maxHeartbeats 1000000 in
set_option maxRecDepth 100000 in
theorem new_book (u c : Nat) (T : Int) (x y mu md : Nat) (w : World) (hu : UserAt w u T x y) (vx : V x mu) (vy : V y md) :
    Calls Try.prog 6 #[.agg (confZ (.slice (some ⟨u, 0, none⟩) 1 c))] w fun e w' => ∃ g, e = .returned (.pointer (some ⟨g, 0, none⟩)) ∧ QB w' w.heap.size g T 0 mu md 0 0 ∧ Below w.heap.size w w' := by
  have HU := hid hu
  have VX := hid (And.intro vx vy)
  clear hu vx vy
  have hmm := @run_makeMap Try.prog
  unfold confZ
  go_enter Try.func6, Try.ntmps6
  go_upto_region 2 with fail
  obtain ⟨wa, hwa⟩ : ∃ wa, ((w.alloc (.cells (confZ (.slice (some ⟨u, 0, none⟩) 1 c)) 31)).alloc (.map #[] 0)).alloc (.cells #[.map (some (w.heap.size + 1))] 46) = wa := ⟨_, rfl⟩
  have hb : Below w.heap.size w wa := by rw [← hwa]; exact (((Below.refl _ _).alloc (Nat.le_refl _) _).alloc (by simp) _).alloc (by simp; omega) _
  have hC : Blk wa w.heap.size 31 (confZ (.slice (some ⟨u, 0, none⟩) 1 c)) := by rw [← hwa]; exact ((Blk.new w _ _).alloc _).alloc _
  have hG : Blk wa (w.heap.size + 2) 46 #[.map (some (w.heap.size + 1))] := by
    rw [← hwa]
    have := Blk.new ((w.alloc (.cells (confZ (.slice (some ⟨u, 0, none⟩) 1 c)) 31)).alloc (.map #[] 0)) 46 #[.map (some (w.heap.size + 1))]
    simpa using this
  have hM : wa.heap[w.heap.size + 1]? = some (.map #[] 0) := by
    rw [← hwa]
    have h1 := heap_alloc_new (w.alloc (.cells (confZ (.slice (some ⟨u, 0, none⟩) 1 c)) 31)) (.map #[] 0)
    have e1 : (w.alloc (.cells (confZ (.slice (some ⟨u, 0, none⟩) 1 c)) 31)).heap.size = w.heap.size + 1 := by simp
    rw [e1] at h1
    rw [← h1]
    exact Below.heap_alloc _ _ _ (by simp)
  unfold confZ at hwa
  rw [hwa]
  have HB := hid hb
  have HG := hid hG
  have HM := hid hM
  have k7 : wa.cell? ⟨w.heap.size, 7, none⟩ = some (.slice (some ⟨u, 0, none⟩) 1 c) := hC.cell 7
  clear hb hC hG hM hwa hmm
  go_wp2_with fail
  clear k7
  go_loopw [12] (fun i wr => ∃ k : Nat, k ≤ 1 ∧ i = .int .i64 k ∧ Below w.heap.size w wr ∧ ((k = 0 ∧ Blk wr (w.heap.size + 2) 46 #[.map (some (w.heap.size + 1))] ∧ wr.heap[w.heap.size + 1]? = some (.map #[] 0)) ∨ (k = 1 ∧ QB wr w.heap.size (w.heap.size + 2) T 0 mu md 0 0))) (fun i _ => 1 - (intOf i).toNat)
  case atStart => exact ⟨0, by omega, rfl, HB.out, .inl ⟨rfl, HG.out, HM.out⟩⟩
  case round =>
    obtain ⟨k, hk, rfl, hb, hcase⟩ := hrel
    have HBW := hid hb
    clear hb HB HG HM
    rcases hcase with ⟨rfl, hg, hm⟩ | ⟨rfl, hq⟩
    · obtain ⟨e0, e1, e2, e3, e4, e5⟩ := HU.out.below (HBW.out.mono (Nat.le_refl _))
      go_upto_region 5 with fail
      obtain ⟨wc, hwc⟩ : ∃ wc, wr.alloc (.cells #[.string u0, .slice none 0 0, .slice none 0 0, .int .i64 T, .complex .f64 x y, .slice none 0 0] 52) = wc := ⟨_, rfl⟩
      have hbc : Below wr.heap.size wr wc := by rw [← hwc]; exact (Below.refl _ _).alloc (Nat.le_refl _) _
      have hU : Blk wc wr.heap.size 52 #[.string u0, .slice none 0 0, .slice none 0 0, .int .i64 T, .complex .f64 x y, .slice none 0 0] := by rw [← hwc]; exact Blk.new wr _ _
      have hml : w.heap.size + 1 < wr.heap.size := by
        rcases Nat.lt_or_ge (w.heap.size + 1) wr.heap.size with h3 | h3
        · exact h3
        · rw [Array.getElem?_eq_none h3] at hm
          cases hm
      have hG := hg.below hbc hg.lt
      have hM : wc.heap[w.heap.size + 1]? = some (.map #[] 0) := (hbc.block _ hml).trans hm
      rw [hwc]
      have HBC := hid (HBW.out.trans (hbc.mono HBW.out.size))
      have HU := hid hU
      have HG := hid hG
      have HM := hid hM
      generalize wr.heap.size = ub at HU
      have k0 : wc.cell? ⟨w.heap.size + 2, 0, none⟩ = some (.map (some (w.heap.size + 1))) := hG.cell 0
      have q0 : wc.cell? ⟨ub, 0, none⟩ = some (.string u0) := HU.out.cell 0
      have hl := run_look0 (w := wc.drew) (s := u0) (show wc.drew.heap[w.heap.size + 1]? = some (.map #[] 0) from hM)
      clear hbc hU hml hG hM hg hm hwc e0 e1 e2 e3 e4 e5
      (refine wp_mix ?_ ?_ ?_; (focus kernel_rfl); (focus kernel_rfl); intro KK hKK; go_wp2_with (first
            | (fail)
            | (with_reducible refine mix_nil ?_)
            | ((with_reducible refine mix_on ?_ ?_); (focus rfl); intro K hK; go_simp; (first | ((with_reducible refine hK _ _ ?_); clear hK K) | skip))
            | ((with_reducible refine mix_off ?_ ?_); (focus rfl); intro K hK; go_simp; (first | ((with_reducible refine hK _ _ ?_); clear hK K) | skip))
            | ((with_reducible refine mix_step ?_); intro K hK; go_simp; (first | ((with_reducible refine hK _ _ ?_); clear hK K) | skip))))
      have L0 : Hid (∀ w', Below wc.heap.size wc w' → (Instr.loadAt 44 (.pointer (some ⟨w.heap.size + 2, 0, none⟩))).run Try.prog w' = .ok (.map (some (w.heap.size + 1))) w') := hid fun w' hw => by
        have z := below_keep hw _ _ k0
        clear q0 k0 hl
        go_simp
      have L1 : Hid (∀ w', Below wc.heap.size wc w' → (Instr.loadAt 9 (.pointer (some ⟨ub, 0, none⟩))).run Try.prog w' = .ok (.string u0) w') := hid fun w' hw => by
        have z := below_keep hw _ _ q0
        clear q0 k0 hl
        go_simp
      have L2 : Hid (∀ w', Below wc.heap.size wc w' → (Instr.loadAt 3 (.pointer (some ⟨ub, 3, none⟩))).run Try.prog w' = .ok (.int .i64 T) w') := hid fun w' hw => by
        have z := below_keep hw _ _ (show wc.cell? ⟨ub, 3, none⟩ = some (.int .i64 T) from HU.out.cell 3)
        clear q0 k0 hl
        go_simp
      have L3 : Hid (∀ w', Below wc.heap.size wc w' → (Instr.loadAt 23 (.pointer (some ⟨ub, 4, none⟩))).run Try.prog w' = .ok (.complex .f64 x y) w') := hid fun w' hw => by
        have z := below_keep hw _ _ (show wc.cell? ⟨ub, 4, none⟩ = some (.complex .f64 x y) from HU.out.cell 4)
        clear q0 k0 hl
        go_simp
      clear q0 k0 hl
      have hpg := Blk.new wc 55 #[.int .i64 T, .int .i64 0, .complex .f64 x y, .complex .f64 0 0]
      have hbp : Below wc.heap.size wc (wc.alloc (.cells #[.int .i64 T, .int .i64 0, .complex .f64 x y, .complex .f64 0 0] 55)).drew.drew := (((Below.refl _ _).alloc (Nat.le_refl _) _).drew).drew
      have hmW : (wc.alloc (.cells #[.int .i64 T, .int .i64 0, .complex .f64 x y, .complex .f64 0 0] 55)).drew.drew.heap[w.heap.size + 1]? = some (.map #[] 0) := by
        have hlt : w.heap.size + 1 < wc.heap.size := by
          rcases Nat.lt_or_ge (w.heap.size + 1) wc.heap.size with h3 | h3
          · exact h3
          · have := HM.out
            rw [Array.getElem?_eq_none h3] at this
            cases this
        exact (hbp.block _ hlt).trans HM.out
      have hmu := run_mapUpdate_first (P := Try.prog) (wc.alloc (.cells #[.int .i64 T, .int .i64 0, .complex .f64 x y, .complex .f64 0 0] 55)).drew.drew 44 9 53 (w.heap.size + 1) 0 u0 (.pointer (some ⟨wc.heap.size, 0, none⟩)) Try.underlying44 Try.underlying9 hmW
      obtain ⟨w9, hw9⟩ : ∃ w9 : World, ({ (wc.alloc (.cells #[.int .i64 T, .int .i64 0, .complex .f64 x y, .complex .f64 0 0] 55)).drew.drew with heap := (wc.alloc (.cells #[.int .i64 T, .int .i64 0, .complex .f64 x y, .complex .f64 0 0] 55)).drew.drew.heap.setIfInBounds (w.heap.size + 1) (.map #[{ key := .string u0, val := .pointer (some ⟨wc.heap.size, 0, none⟩), born := 0 }] (0 + 1)) } : World) = w9 := ⟨_, rfl⟩
      rw [hw9] at hmu
      have ht9 : Turned [w.heap.size + 1] (wc.alloc (.cells #[.int .i64 T, .int .i64 0, .complex .f64 x y, .complex .f64 0 0] 55)).drew.drew w9 := by
        rw [← hw9]
        exact ⟨rfl, rfl, rfl, by simp, fun k hk hne => (MapKept.heap_set (o' := .map #[{ key := .string u0, val := .pointer (some ⟨wc.heap.size, 0, none⟩), born := 0 }] (0 + 1)) hmW).2 k (by simpa using hne)⟩
      have hm9 : w9.heap[w.heap.size + 1]? = some (.map #[{ key := .string u0, val := .pointer (some ⟨wc.heap.size, 0, none⟩), born := 0 }] 1) := by
        rw [← hw9]
        exact (MapKept.heap_set (o' := .map #[{ key := .string u0, val := .pointer (some ⟨wc.heap.size, 0, none⟩), born := 0 }] (0 + 1)) hmW).1
      have hmlt : w.heap.size + 1 < wc.heap.size := by
        rcases Nat.lt_or_ge (w.heap.size + 1) wc.heap.size with h3 | h3
        · exact h3
        · have := HM.out
          rw [Array.getElem?_eq_none h3] at this
          cases this
      have HG9 := hid ((HG.out.below hbp HG.out.lt).turned ht9 (by simp))
      have HP9 := hid ((show Blk (wc.alloc (.cells #[.int .i64 T, .int .i64 0, .complex .f64 x y, .complex .f64 0 0] 55)).drew.drew wc.heap.size 55 #[.int .i64 T, .int .i64 0, .complex .f64 x y, .complex .f64 0 0] from hpg).turned ht9 (by simp; omega))
      have HM9 := hid hm9
      have HB9 := hid ((HBC.out.trans (hbp.mono HBC.out.size)).trans (ht9.below (B := w.heap.size) (by simp) (Nat.le_trans HBC.out.size hbp.size)))
      have HBP := hid hbp
      have hsz9 : w.heap.size ≤ wc.heap.size := by omega
      clear hpg hbp hmW hw9 ht9 hm9 hmlt
      have HSB := hid ((Below.refl wc.heap.size wc).drew.drew)
      (refine wp_mixZ (Below wc.heap.size wc) rfl ?_ ?_ (HSB.out) ?_; (focus kernel_rfl); (focus kernel_rfl); intro KK hKK; simp only [List.dropLast_cons_cons, List.dropLast_singleton]; go_wp2_with (first
                                              | (first
        | ((with_reducible refine mixS_load L0.out ?_ ?_ ?_); (focus rfl); (focus rfl))
        | ((with_reducible refine mixS_load L1.out ?_ ?_ ?_); (focus rfl); (focus rfl))
        | ((with_reducible refine mixS_load L2.out ?_ ?_ ?_); (focus rfl); (focus rfl))
        | ((with_reducible refine mixS_load L3.out ?_ ?_ ?_); (focus rfl); (focus rfl))
        | ((with_reducible refine And.intro ?_ ?_); (focus (with_reducible exact HBP.out)); have HSB := HBP))
                                              | ((with_reducible refine mix_nil ?_); refine hKK _ _ (HSB.out) ?_; (with_reducible refine last_on ?_ ?_); (focus rfl); intro K hK; go_simp)
                                              | ((with_reducible refine mixS_on ?_ ?_); (focus rfl); intro K K' hK hK'; go_simp; (first | ((with_reducible refine hK _ _ ?_); clear hK hK' K K') | ((with_reducible refine hK' _ _ ?_); clear hK hK' K K') | skip))
                                              | ((with_reducible refine mixS_off ?_ ?_); (focus rfl); intro K hK; go_simp; (first | ((with_reducible refine hK _ _ ?_); clear hK K) | skip))
                                              | ((with_reducible refine mixS_step ?_); intro K K' hK hK'; go_simp; (first | ((with_reducible refine hK _ _ ?_); clear hK hK' K K') | ((with_reducible refine hK' _ _ ?_); clear hK hK' K K') | skip))))
      go_wp2_with fail
      go_roundw
      case rel => exact ⟨1, Nat.le_refl _, rfl, HB9.out, .inr ⟨rfl, _, _, _, _, _, _, HG9.out, HM9.out, HP9.out, VX.out.1, VX.out.2, V_zero, V_zero, by omega, by omega, hsz9⟩⟩
      case measure => simp [intOf]
    · have HQ := hid hq
      clear hq hk
      go_wp2_with fail
      go_ret
      exact ⟨_, rfl, HQ.out, HBW.out⟩
end Go.Proofs.Ytpikhnadihfhpaa
