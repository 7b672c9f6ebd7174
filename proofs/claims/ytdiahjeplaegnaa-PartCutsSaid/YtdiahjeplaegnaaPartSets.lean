/- Settings. Conditions: at most 2^40 bytes. -/
import Derived.Test.YtdiahjeplaegnaaPart
import Derived.Test.YtdiahjeplaegnaaAnd
namespace Go.Proofs.Ytdiahjeplaegnaa
open Go.RowKit
attribute [local go_sem] kd kdS
attribute [local go_sem ↓] sliced_word
attribute [local go_sem] offA_zero

def setAt (l : List UInt8) (i : Nat) : Int × Int := (nb l (6 * i) * 256 + nb l (6 * i + 1), n4 (l.drop (6 * i + 2)))
def setsOf (l : List UInt8) (k : Nat) : List (Int × Int) := (List.range k).map (setAt l)
theorem setsOf_succ (l : List UInt8) (k : Nat) : setCells (setsOf l (k + 1)) = setCells (setsOf l k) ++ [.int .i64 (setAt l k).1, .int .i64 (setAt l k).2] := by
  unfold setsOf setCells
  rw [List.range_succ]
  simp
theorem setsOf_len (l : List UInt8) (k : Nat) : (setsOf l k).length = k := by simp [setsOf]
theorem set_info : (Try.prog.info? 40).map (fun i => (i.zero, i.size, i.bytes)) = some (some (.agg #[.int .i64 0, .int .i64 0]), 2, 16) := by kernel_rfl
def settingsP (f s : Int) (l : List UInt8) : PR :=
  if s ≠ 0 then connP 1 else if (0 < bits .and .i64 f 1 ∧ 0 < l.length) ∨ l.length % 6 ≠ 0 then connP 6 else { a := fl f 1, sets := setsOf l (l.length / 6) }
theorem or_two {a b : Int} (ha : 0 ≤ a ∧ a < 256) (hb : 0 ≤ b ∧ b < 256) : bits .or .i64 (a * 256) b = a * 256 + b := by
  have e := or_add a b 8 (by omega) (by omega) (by omega) (by omega) (by omega)
  rw [show a * 256 = 2 ^ 8 * a by omega, e]

theorem wraps {x : Int} (h : 0 ≤ x ∧ x < 256) : IntKind.i64.wrap x = x ∧ IntKind.i64.wrap (x * 256) = x * 256 ∧ wrap64 x = x ∧ wrap64 (x * 256) = x * 256 :=
  ⟨IntWalk.i64_in _ (by omega), IntWalk.i64_in _ (by omega), IntWalk.wrap64_in _ (by omega), IntWalk.wrap64_in _ (by omega)⟩

set_option maxHeartbeats 4000000 in
set_option maxRecDepth 100000 in
theorem settings_any (f s : Int) (A : Option Addr) (n c : Nat) (l : List UInt8) (w : World) (h : Bs w A n l) (hnc : n ≤ c) (hn : n ≤ 1099511627776) :
    Calls Try.prog 18 #[.agg #[.int .i64 4, .int .i64 f, .int .i64 s, .slice A n c]] w (PartPost (settingsP f s l) w) := by
  have hlen := h.len
  have H := hid h
  clear h
  obtain ⟨i0, hi0, hz0, hz1, hz2⟩ := info_parts set_info
  have hi := hid hi0
  have hz := hid hz0
  have hsz := hid hz1
  have hby := hid hz2
  clear hi0 hz0 hz1 hz2
  go_enter Try.func18, Try.ntmps18
  go_upto_region 1 with fail
  have hpw := ProF.new w 4 f s A n c
  have hWs : (((w.alloc (.cells #[.int .i64 4, .int .i64 f, .int .i64 s, .slice A n c] 34)).alloc (.cells #[.slice none 0 0, .int .i64 0, .int .i64 0, .int .i64 0, .int .i64 0, .slice none 0 0, .bool false, .bool false, .bool false] 28)).alloc (.cells #[.bool false, .bool false, .int .i64 0] 30)).heap.size = w.heap.size + 1 + 1 + 1 := by simp
  generalize (((w.alloc (.cells #[.int .i64 4, .int .i64 f, .int .i64 s, .slice A n c] 34)).alloc (.cells #[.slice none 0 0, .int .i64 0, .int .i64 0, .int .i64 0, .int .i64 0, .slice none 0 0, .bool false, .bool false, .bool false] 28)).alloc (.cells #[.bool false, .bool false, .int .i64 0] 30)) = W at hpw hWs ⊢
  have HPW := hid hpw
  obtain ⟨d0, d1, d2, d3⟩ := hpw.cells
  clear hpw
  go_upto_region 2 with fail
  obtain ⟨V, hV⟩ : ∃ V, W.alloc (.cells #[.slice none 0 0, .int .i64 0, .int .i64 0, .int .i64 0, .int .i64 0, .slice none 0 0, .bool false, .bool (decide (0 < bits .and .i64 f 1)), .bool false] 28) = V := ⟨_, rfl⟩
  have hbV : Below W.heap.size W V := by rw [← hV]; exact (Below.refl _ _).alloc (Nat.le_refl _) _
  have HBP : Hid (Blk V (w.heap.size + 3) 28 #[.slice none 0 0, .int .i64 0, .int .i64 0, .int .i64 0, .int .i64 0, .slice none 0 0, .bool false, .bool (decide (0 < bits .and .i64 f 1)), .bool false]) := hid (by rw [← hV, show w.heap.size + 3 = W.heap.size by omega]; exact Blk.new W _ _)
  have HPV := hid (HPW.out.on hbV)
  have HB := hid (H.out.below HPV.out.pro.below_)
  rw [hV]
  clear d0 d1 d2 d3 hV hbV hWs HPW
  obtain ⟨d0, d1, d2, d3⟩ := HPV.out.cells
  by_cases hs : s = 0
  rotate_left
  · have HU : Hid (settingsP f s l = connP 1) := hid (by unfold settingsP; rw [if_pos hs])
    have hs' : (s == 0) = false := beq_eq_false_iff_ne.2 hs
    clear hs
    go_wp2_with (go_at_call 19; go_must (refine (conn_any 1 _).mono ?_; unfold pv ft; rintro e w1 ⟨rfl, hb1⟩; have hP := HPV.out.pro.on hb1; have HP := hid hP; clear hb1; obtain ⟨k0, k1, k2, k3, k4, k5, k6, k7, k8, m0, m1, m2, f0, f1, f2, f3, f4, f5, f6, f7, f8, g0, g1, g2⟩ := hP.cells; clear hP))
    refine part_end Try.results18 rfl rfl HP.out.p rfl HP.out.q rfl (by omega) ?_
    intro w' ht
    rw [HU.out]
    exact PartPost.plain rfl rfl (HP.out.fin ht)
  subst hs
  obtain ⟨q0, q1, q2, q3, q4, q5, q6, q7, q8, qf0, qf1, qf5⟩ := blk9 HBP.out
  by_cases hc1 : 0 < bits .and .i64 f 1 ∧ 0 < n
  · have HU : Hid (settingsP f 0 l = connP 6) := hid (by unfold settingsP; rw [if_neg (by simp), if_pos (.inl ⟨hc1.1, by omega⟩)])
    have hc2 : decide (0 < bits .and .i64 f 1) = true := by simpa using hc1.1
    have hc3 : (0 : Int) < n := by omega
    clear hc1
    rw [hc2] at q7
    go_wp2_with (go_at_call 19; go_must (refine (conn_any 6 _).mono ?_; unfold pv ft; rintro e w1 ⟨rfl, hb1⟩; have hP := HPV.out.pro.on hb1; have HP := hid hP; clear hb1; obtain ⟨k0, k1, k2, k3, k4, k5, k6, k7, k8, m0, m1, m2, f0, f1, f2, f3, f4, f5, f6, f7, f8, g0, g1, g2⟩ := hP.cells; clear hP))
    refine part_end Try.results18 rfl rfl HP.out.p rfl HP.out.q rfl (by omega) ?_
    intro w' ht
    rw [HU.out]
    exact PartPost.plain rfl rfl (HP.out.fin ht)
  by_cases hr : n % 6 = 0
  rotate_left
  · have HU : Hid (settingsP f 0 l = connP 6) := hid (by unfold settingsP; rw [if_neg (by simp), if_pos (.inr (by rw [hlen]; exact hr))])
    have hr2 : (0 : Int) < (n : Int) % 6 := by omega
    have hc2 : decide (0 < bits .and .i64 f 1) = false := by
      rcases hd : decide (0 < bits .and .i64 f 1) with _ | _
      · rfl
      · exact absurd ⟨by simpa using hd, by omega⟩ hc1
    clear hc1 hr
    rw [hc2] at q7
    go_wp2_with (go_at_call 19; go_must (refine (conn_any 6 _).mono ?_; unfold pv ft; rintro e w1 ⟨rfl, hb1⟩; have hP := HPV.out.pro.on hb1; have HP := hid hP; clear hb1; obtain ⟨k0, k1, k2, k3, k4, k5, k6, k7, k8, m0, m1, m2, f0, f1, f2, f3, f4, f5, f6, f7, f8, g0, g1, g2⟩ := hP.cells; clear hP))
    refine part_end Try.results18 rfl rfl HP.out.p rfl HP.out.q rfl (by omega) ?_
    intro w' ht
    rw [HU.out]
    exact PartPost.plain rfl rfl (HP.out.fin ht)
  have HU : Hid (settingsP f 0 l = { a := decide (0 < bits .and .i64 f 1), sets := setsOf l (n / 6) }) := hid (by unfold settingsP; rw [if_neg (by simp), if_neg (by rw [hlen]; omega), hlen]; rfl)
  have hr2 : ¬ (0 : Int) < (n : Int) % 6 := by omega
  have hloop : (bits .and .i64 f 1 = 1 ∧ n = 0) ∨ bits .and .i64 f 1 = 0 := by
    rcases and_1 f with h1 | h1
    · exact .inr h1
    · exact .inl ⟨h1, by omega⟩
  have hc2 : decide (0 < bits .and .i64 f 1) = false ∨ (decide (0 < bits .and .i64 f 1) = true ∧ n = 0) := by
    rcases hloop with ⟨h1, h2⟩ | h1
    · exact .inr ⟨by rw [h1]; rfl, h2⟩
    · exact .inl (by rw [h1]; rfl)
  clear hc1 hloop
  have hr3 : ((n : Int) % 6 : Int) = 0 := by omega
  obtain ⟨ab, hab⟩ : ∃ ab, decide (0 < bits .and .i64 f 1) = ab := ⟨_, rfl⟩
  rw [hab] at HU HBP q7 hc2
  clear hr2
  have hwalk : (ab = false ∨ (ab = true ∧ n = 0)) := hc2
  clear hc2 hab
  rcases hwalk with hab | ⟨hab, hn0⟩
  rotate_left
  · subst hn0
    subst hab
    go_wp2_with fail
    go_loopw [5] (fun v wr => v = .slice A 0 c ∧ wr = V) (fun _ _ => 0)
    case atStart => exact ⟨rfl, rfl⟩
    case round =>
      obtain ⟨rfl, rfl⟩ := hrel
      have hP := HPV.out.pro
      have HP := hid hP
      obtain ⟨k0, k1, k2, k3, k4, k5, k6, k7, k8, m0, m1, m2, f0, f1, f2, f3, f4, f5, f6, f7, f8, g0, g1, g2⟩ := hP.cells
      clear hP
      go_wp2_with fail
      refine part_end Try.results18 rfl rfl HP.out.p rfl HP.out.q rfl (by omega) ?_
      intro w' ht
      rw [HU.out]
      exact PartPost.plain rfl rfl (HP.out.fin ht)
  · go_upto_region 6 with fail
    clear d0 d1 d2 hr3 hab
    go_wp2_with fail
    go_loopw [5] (fun v wr => ∃ (k m cb : Nat) (Ab As : Option Addr) (cs : Nat), 6 * k + m = n ∧ m ≤ cb ∧ m % 6 = 0 ∧ v = .slice Ab m cb ∧ Bs w Ab m (l.drop (6 * k)) ∧ ProF w wr 4 f 0 A n c ∧ Blk wr (w.heap.size + 3) 28 #[.slice none 0 0, .int .i64 0, .int .i64 0, .int .i64 0, .int .i64 0, .slice As k cs, .bool false, .bool ab, .bool false] ∧ wr.ownsRow (w.heap.size + 4) 40 2 (.slice As k cs) k (setCells (setsOf l k)) ∧ w.heap.size + 4 ≤ wr.heap.size) (fun v _ => match v with | .slice _ n _ => n | _ => 0)
    case atStart => exact ⟨0, n, c, A, none, 0, by omega, hnc, by omega, rfl, by rw [Nat.mul_zero, List.drop_zero]; exact H.out, HPV.out, HBP.out, World.ownsRow_nil _ _ _ _, by have := HBP.out.lt; omega⟩
    case round =>
      obtain ⟨k, m, cb, Ab, As, cs, hkm, hmc, hmod, rfl, hbs, hpv, hbp, hown, hsz4⟩ := hrel
      have HBS := hid hbs
      have HPR := hid hpv
      have HBR := hid hbp
      have HOW := hid hown
      have hrl := hbp.lt
      clear hbs hpv hown d3 q0 q1 q2 q3 q4 q5 q6 q7 q8 qf0 qf1 qf5
      obtain ⟨q0, q1, q2, q3, q4, q5, q6, q7, q8, qf0, qf1, qf5⟩ := blk9 hbp
      clear hbp
      by_cases hm0 : m = 0
      · subst hm0
        have hk6 : n / 6 = k := by omega
        rw [hk6] at HU
        have hP := HPR.out.pro
        have HP := hid hP
        obtain ⟨k0, k1, k2, k3, k4, k5, k6, k7, k8, m0, m1, m2, f0, f1, f2, f3, f4, f5, f6, f7, f8, g0, g1, g2⟩ := hP.cells
        clear hP
        go_wp2_with fail
        refine part_end Try.results18 rfl rfl HP.out.p rfl HP.out.q rfl (by omega) ?_
        intro w' ht
        rw [HU.out]
        have ho := own_turned HOW.out ht (fun b hb hm => by
          have := (HOW.out.lt b hb).1
          simp at hm
          omega)
        exact ⟨none, 0, 0, As, k, cs, rfl, Bs.nil _ _, Rd.of_own ho, Above.none _, Above.own ho (by omega), HP.out.fin ht⟩
      · skip
        all_goals
          have hm6 : 6 ≤ m := by omega
          have hm60 : (0 : Int) < m := by omega
          have hm61 : (6 : Int) ≤ m := by omega
          have hm62 : (1 : Int) < m := by omega
          have hm63 : (2 : Int) ≤ m := by omega
          have hkn : k ≤ n := by omega
          clear hm0
          obtain ⟨b, o, x0, rfl, hx0, hc0⟩ := HBS.out.at_ (i := 0) (by omega)
          have hbw : b < w.heap.size := cell_lt hc0
          clear hx0 hc0
          have HBW := HBS
          have HBV := hid (HBS.out.below HPR.out.pro.below_)
          clear HBS
          have HST : Hid (setCells (setsOf l (k + 1)) = setCells (setsOf l k) ++ [.int .i64 (nb (l.drop (6 * k)) 0 * 256 + nb (l.drop (6 * k)) 1), .int .i64 (n4 ((l.drop (6 * k)).drop 2))]) := hid (by
            rw [setsOf_succ, nb_drop, nb_drop, List.drop_drop]
            rfl)
          have HDR : Hid (l.drop (6 * (k + 1)) = (l.drop (6 * k)).drop 6) := hid (by rw [List.drop_drop]; congr 1)
          have c0 := nb_cell HBV.out (i := 0) (by omega)
          have c1 := nb_cell HBV.out (i := 1) (by omega)
          rw [Nat.add_zero] at c0
          generalize l.drop (6 * k) = lb at HBW HBV c0 c1 HST HDR
          have b0 := nb_le lb 0
          have b1 := nb_le lb 1
          have hge := rowF_ge HOW.out
          have HGE := hid hge
          have h3F : w.heap.size + 3 ∉ rowF As := fun hm => by have := hge _ hm; omega
          have hbF : b ∉ rowF As := fun hm => by have := hge _ hm; omega
          have H3F := hid h3F
          have HSB := hid (show Turned (rowF As) wr wr.drew from (Turned.refl _ _).drew)
          have HBL : Hid (∀ x, Turned (rowF As) wr x → Below w.heap.size w x) := hid fun x hx => HPR.out.pro.below_.trans (hx.below (fun b hb => by have := hge b hb; omega) HPR.out.pro.below_.size)
          have LS : Hid (∀ w', Turned (rowF As) wr w' → (Instr.loadAt 26 (.pointer (some ⟨w.heap.size + 3, 5, none⟩))).run Try.prog w' = .ok (.slice As k cs) w') := hid fun w' ht => by
            have z := ht.cell q5 h3F
            clear q0 q1 q2 q3 q4 q5 q6 q7 q8 c0 c1
            go_simp
          have L0 : Hid (∀ w', Turned (rowF As) wr w' → (Instr.loadAt 5 (.pointer (some ⟨b, o, none⟩))).run Try.prog w' = .ok (.int .u8 (nb lb 0)) w') := hid fun w' ht => by
            have z := ht.cell c0 hbF
            clear q0 q1 q2 q3 q4 q5 q6 q7 q8 c0 c1
            go_simp
          have L1 : Hid (∀ w', Turned (rowF As) wr w' → (Instr.loadAt 5 (.pointer (some ⟨b, o + 1, none⟩))).run Try.prog w' = .ok (.int .u8 (nb lb 1)) w') := hid fun w' ht => by
            have z := ht.cell c1 hbF
            clear q0 q1 q2 q3 q4 q5 q6 q7 q8 c0 c1
            go_simp
          have hor := or_two b0 b1
          obtain ⟨hw0, hw2, hw3, hw5⟩ := wraps b0
          obtain ⟨hw1, _, hw4, _⟩ := wraps b1
          clear h3F hbF hge q0 q1 q2 q3 q4 q5 q6 q7 q8 qf0 qf1 qf5 c0 c1
          go_wp2_with fail
          (refine wp_mixZ (Turned (rowF As) wr) rfl ?_ ?_ (HSB.out) ?_; (focus kernel_rfl); (focus kernel_rfl); intro KK hKK; simp only [List.dropLast_cons_cons, List.dropLast_singleton]; go_wp2_with (first
                                                | (first
            | ((with_reducible refine mixS_load LS.out ?_ ?_ ?_); (focus rfl); (focus rfl))
            | ((with_reducible refine mixS_load L0.out ?_ ?_ ?_); (focus rfl); (focus rfl))
            | ((with_reducible refine mixS_load L1.out ?_ ?_ ?_); (focus rfl); (focus rfl))
            | (go_at_call 24; go_must (refine (number_below (offA (some ⟨b, o, none⟩) 2 cb 1) (m - 2) (cb - 2) (lb.drop 2) _ ((HBW.out.off (k := 2) (by omega) hmc).below (HBL.out _ HSB.out)) (by omega)).mono ?_; rintro e w1 ⟨rfl, hb1⟩; have HSB := hid (HSB.out.then hb1); have HB1 := hid (((Below.refl wr.heap.size wr).drew).trans hb1); clear hb1))
            | ((with_reducible refine at_mapp ?_); go_loud (refine mixS_app (w.heap.size + 4) 40 i0 _ 2 16 Try.underlying26 hi.out hz.out hsz.out hby.out rfl (by decide) _ k _ (own_below HOW.out (HB1.out.alloc HB1.out.size _)) (some ⟨w1.heap.size, 0, none⟩) 1 1 [.int .i64 (nb lb 0 * 256 + nb lb 1), .int .i64 (n4 (lb.drop 2))] (rd_new (size := 2) rfl rfl) ?_ ?_ ?_ ?_ ?_ ?_ ?_ ?_; (focus rfl); (focus rfl); (focus (intro u hu; simp at hu; rcases hu with rfl | rfl <;> rfl)); (focus omega); (focus omega); (focus (have := HB1.out.size; simp; omega)); (focus rfl); intro A5 cs5 w5 ho5 hg5 hc5; have HS5 := hid ((HSB.out.then ((Below.refl _ _).alloc (Nat.le_refl _) _)).app hg5); have HO5 := hid ho5; have HBR5 := hid (HBR.out.turned HS5.out H3F.out); have r5 := HBR5.out.cell 5; have rf5 := HBR5.out.frozen 5; clear ho5 hg5 hc5; refine ⟨HS5.out, ?_⟩))
            | ((with_reducible refine And.intro ?_ ?_); (focus (first | (with_reducible exact HSB.out) | (with_reducible exact (HSB.out.then ((Below.refl _ _).alloc (Nat.le_refl _) _))))))
            | ((with_reducible refine mix_nil ?_); refine hKK _ _ HS5.out ?_; (with_reducible refine last_on ?_ ?_); (focus rfl); intro K hK; go_simp))
                                                | ((with_reducible refine mix_nil ?_); refine hKK _ _ (HSB.out) ?_; (with_reducible refine last_on ?_ ?_); (focus rfl); intro K hK; go_simp)
                                                | ((with_reducible refine mixS_on ?_ ?_); (focus rfl); intro K K' hK hK'; go_simp; (first | ((with_reducible refine hK _ _ ?_); clear hK hK' K K') | ((with_reducible refine hK' _ _ ?_); clear hK hK' K K') | skip))
                                                | ((with_reducible refine mixS_off ?_ ?_); (focus rfl); intro K hK; go_simp; (first | ((with_reducible refine hK _ _ ?_); clear hK K) | skip))
                                                | ((with_reducible refine mixS_step ?_); intro K K' hK hK'; go_simp; (first | ((with_reducible refine hK _ _ ?_); clear hK hK' K K') | ((with_reducible refine hK' _ _ ?_); clear hK hK' K K') | skip))))
          rw [show w.heap.size + 1 + 1 + 1 = w.heap.size + 3 from rfl]
          have HST3 := hid (set3 (w := w) (w1 := w5) 5 (.slice A5 (k + 1) cs5))
          go_roundw
          case rel => exact ⟨k + 1, m - 6, cb - 6, offA (some ⟨b, o, none⟩) 6 cb 1, A5, cs5, by omega, by omega, by omega, rfl, by rw [HDR.out]; exact HBW.out.off (k := 6) (by omega) hmc, (HPR.out.row HS5.out (fun x hx => by have := HGE.out x hx; omega)).turn HST3.out, HBR5.out.set_ 5 _, by rw [HST.out]; exact own_turned HO5.out HST3.out (fun x hx hm => by have := (HO5.out.lt x hx).1; simp at hm; omega), by have := HS5.out.size; simp [World.setCell]; omega⟩
          case measure => simp; omega
end Go.Proofs.Ytdiahjeplaegnaa
