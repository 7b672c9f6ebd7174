/- The tunnel: Ready, Sent, Held, Late, Close. Conditions: bytes and counters stay below 2^45. -/
import Derived.Test.YtefhadfcipifmaaTun
namespace Go.Proofs.Ytefhadfcipifmaa
open Go.RowKit
attribute [local go_sem] kd kdS
attribute [local go_sem] run_store_complex

section
variable {w w' : World} {B tb : Nat} {σ : TV} {us ha hi ip po : Value} {x y gu gd : Nat} {Ru Rd : Option Nat} {G : List Nat}
/-- Is it late? -/
def lateB (σ : TV) (now dial idle : Int) : Bool := if σ.st = 1 ∨ σ.st = 2 then decide (dial ≤ now - σ.mv) else if σ.st = 3 then decide (idle ≤ now - σ.mv) else false
set_option maxHeartbeats 1000000 in
set_option maxRecDepth 100000 in
theorem late_any (now dial idle : Int) (h : Tun w B tb σ G) (h1 : -4611686018427387904 ≤ now - σ.mv) (h2 : now - σ.mv ≤ 4611686018427387904) : Calls Try.prog 15 #[.pointer (some ⟨tb, 0, none⟩), .int .i64 now, .int .i64 dial, .int .i64 idle] w fun e w' => e = .returned (.bool (lateB σ now dial idle)) ∧ w = w' := by
  obtain ⟨us, ha, hi, ip, po, x, y, gu, gd, Ru, Rd, rfl, h⟩ := h
  have H := hid h
  obtain ⟨c8, c9, c10, c11, c12, c13, c14, c15, c16, c17, c0, c1, c2, kf⟩ := h.c
  have hq := IntWalk.i64_in (now - σ.mv) (by omega)
  unfold lateB
  clear h
  by_cases e1 : σ.st = 1
  · rw [if_pos (.inl e1)]
    rw [e1] at c8
    go_enter Try.func15, Try.ntmps15
    go_wp2_with fail
    go_ret
    exact ⟨rfl, rfl⟩
  · by_cases e2 : σ.st = 2
    · rw [if_pos (.inr e2)]
      rw [e2] at c8
      clear e1
      go_enter Try.func15, Try.ntmps15
      go_wp2_with fail
      go_ret
      exact ⟨rfl, rfl⟩
    · rw [if_neg (by simp [e1, e2])]
      by_cases e3 : σ.st = 3
      · rw [if_pos e3]
        rw [e3] at c8
        clear e1 e2
        go_enter Try.func15, Try.ntmps15
        go_wp2_with fail
        go_ret
        exact ⟨rfl, rfl⟩
      · rw [if_neg e3]
        go_enter Try.func15, Try.ntmps15
        go_wp2_with fail
        go_ret
        exact ⟨rfl, rfl⟩
set_option maxHeartbeats 1000000 in
set_option maxRecDepth 100000 in
theorem held_any (h : Tun w B tb σ G) (hf : σ.Few) : Calls Try.prog 27 #[.pointer (some ⟨tb, 0, none⟩)] w fun e w' => e = .returned (.int .i64 (σ.up.length + σ.dn.length)) ∧ Below w.heap.size w w' := by
  obtain ⟨us, ha, hi, ip, po, x, y, gu, gd, Ru, Rd, rfl, h⟩ := h
  have H := hid h
  obtain ⟨c8, c9, c10, c11, c12, c13, c14, c15, c16, c17, c0, c1, c2, kf⟩ := h.c
  obtain ⟨i, o, p1, p2, p3, p4, hp⟩ := h.pu
  obtain ⟨i', o', q1, q2, q3, q4, hq⟩ := h.pd
  have f1 := hp.fits
  have f2 := hq.fits
  have f3 := hf.2.2.2.2.2
  have hqq := IntWalk.i64_in ((σ.up.length : Int) + σ.dn.length) (by omega)
  have HP := hid hp
  have HQ := hid hq
  have L1 : Hid (∀ w', Below w.heap.size w w' → (Instr.loadAt 54 (.pointer (some ⟨tb, 11, none⟩))).run Try.prog w' = .ok (.pointer (some ⟨gu, 0, none⟩)) w') := hid fun w' hw => by
    have q0 := below_keep hw _ _ c11
    clear c8 c9 c10 c11 c12 c13 c14 c15 c16 c17 c0 c1 c2
    go_simp
  have L2 : Hid (∀ w', Below w.heap.size w w' → (Instr.loadAt 54 (.pointer (some ⟨tb, 12, none⟩))).run Try.prog w' = .ok (.pointer (some ⟨gd, 0, none⟩)) w') := hid fun w' hw => by
    have q0 := below_keep hw _ _ c12
    clear c8 c9 c10 c11 c12 c13 c14 c15 c16 c17 c0 c1 c2
    go_simp
  clear h hp hq c8 c9 c10 c11 c12 c13 c14 c15 c16 c17 c0 c1 c2 kf p1 p2 p3 p4 q1 q2 q3 q4
  go_enter Try.func27, Try.ntmps27
  go_wp2_with fail
  (refine wp_mixC (Below w.heap.size w) ?_ ?_ ((Below.refl _ _).drew) ?_; (focus kernel_rfl); (focus kernel_rfl); intro KK hKK; go_wp2_with (first
                                                      | (first
    | ((with_reducible refine mixS_load L1.out ?_ ?_ ?_); (focus rfl); (focus rfl))
    | ((with_reducible refine mixS_load L2.out ?_ ?_ ?_); (focus rfl); (focus rfl))
    | (go_at_call 36; ((with_reducible refine (plen (HP.out.below (Below.refl _ _).drew)).mono ?_); (rintro e w2 ⟨rfl, rfl⟩)))
    | (go_at_call 36; go_must (refine (plen (HQ.out.below (Below.refl _ _).drew)).mono ?_; rintro e w2 ⟨rfl, rfl⟩))
    | ((with_reducible refine And.intro ?_ ?_); (focus (exact (Below.refl _ _).drew))))
                                                      | (with_reducible refine mix_nil ?_)
                                                      | ((with_reducible refine mixS_on ?_ ?_); (focus rfl); intro K K' hK hK'; go_simp; (first | ((with_reducible refine hK _ _ ?_); clear hK hK' K K') | ((with_reducible refine hK' _ _ ?_); clear hK hK' K K') | skip))
                                                      | ((with_reducible refine mixS_off ?_ ?_); (focus rfl); intro K hK; go_simp; (first | ((with_reducible refine hK _ _ ?_); clear hK K) | skip))
                                                      | ((with_reducible refine mixS_step ?_); intro K K' hK hK'; go_simp; (first | ((with_reducible refine hK _ _ ?_); clear hK hK' K K') | ((with_reducible refine hK' _ _ ?_); clear hK hK' K K') | skip))))
  go_ret
  exact ⟨rfl, (Below.refl _ _).drew⟩
set_option maxHeartbeats 1000000 in
set_option maxRecDepth 100000 in
theorem ready_no (m : Int) (h : Tun w B tb σ G) (h3 : σ.st ≠ 3) : Calls Try.prog 23 #[.pointer (some ⟨tb, 0, none⟩), .int .i64 m] w fun e w' => e = .returned (.tuple #[.slice none 0 0, .bool false, .bool false]) ∧ w = w' := by
  obtain ⟨us, ha, hi, ip, po, x, y, gu, gd, Ru, Rd, rfl, h⟩ := h
  have H := hid h
  obtain ⟨c8, c9, c10, c11, c12, c13, c14, c15, c16, c17, c0, c1, c2, kf⟩ := h.c
  clear h
  go_enter Try.func23, Try.ntmps23
  go_wp2_with fail
  refine bodyPost_ret (v := .tuple #[.slice none 0 0, .bool false, .bool false]) (by simp [results, Try.results23, go_sem]) rfl ?_
  exact ⟨rfl, rfl⟩
/-- What Ready answers. -/
def rdE (σ : TV) (k : Nat) : Bool := σ.came && decide (σ.dn.length = k)
def rdS (σ : TV) : Bool := decide (0 < σ.dn.length) || (σ.came && !σ.sent)
def RdPost (σ : TV) (k : Nat) (w : World) (e : Ending) (w' : World) : Prop :=
  ∃ A' c', e = .returned (.tuple #[.slice A' k c', .bool (rdE σ k), .bool (rdS σ)]) ∧ w'.ownsRow w.heap.size 5 1 (.slice A' k c') k ((σ.dn.take k).map bv) ∧ Below w.heap.size w w'
set_option maxHeartbeats 1000000 in
set_option maxRecDepth 100000 in
theorem ready_yes (m : Int) (h : Tun w B tb σ G) (h3 : σ.st = 3) (hf : σ.Few) :
    Calls Try.prog 23 #[.pointer (some ⟨tb, 0, none⟩), .int .i64 m] w (RdPost σ (lookN m σ.dn.length) w) := by
  obtain ⟨us, ha, hi, ip, po, x, y, gu, gd, Ru, Rd, rfl, h⟩ := h
  have H := hid h
  obtain ⟨c8, c9, c10, c11, c12, c13, c14, c15, c16, c17, c0, c1, c2, kf⟩ := h.c
  rw [h3] at c8
  obtain ⟨i', o', q1, q2, q3, q4, hq⟩ := h.pd
  have f2 := hq.fits
  have f3 := hf.2.2.2.2.2
  have HQ := hid hq
  have hk := lookN_le m σ.dn.length
  generalize hkk : lookN m σ.dn.length = k at hk ⊢
  clear h hq
  go_enter Try.func23, Try.ntmps23
  go_upto_region 4 with (go_at_call 37; go_must (refine (plook m HQ.out (by omega)).mono ?_; rw [hkk]; clear hkk; rintro e w1 ⟨A1, n1, rfl, hown, hb⟩))
  have HO := hid hown
  have HB := hid hb
  have HQ1 := hid (HQ.out.below hb)
  have d12 := below_keep hb _ _ c12
  have d15 := below_keep hb _ _ c15
  have d16 := below_keep hb _ _ c16
  clear hown hb c8 c9 c10 c11 c12 c13 c14 c15 c16 c17 c0 c1 c2 kf q1 q2 q3 q4
  have L1 : Hid (∀ w', Below w1.heap.size w1 w' → (Instr.loadAt 54 (.pointer (some ⟨tb, 12, none⟩))).run Try.prog w' = .ok (.pointer (some ⟨gd, 0, none⟩)) w') := hid fun w' hw => by
    have q0 := below_keep hw _ _ d12
    clear d12 d15 d16
    go_simp
  have L2 : Hid (∀ b, σ.came = b → ∀ w', Below w1.heap.size w1 w' → (Instr.loadAt 4 (.pointer (some ⟨tb, 15, none⟩))).run Try.prog w' = .ok (.bool b) w') := hid fun b hb w' hw => by
    have q0 := below_keep hw _ _ d15
    rw [hb] at q0
    clear d12 d15 d16
    go_simp
  have L3 : Hid (∀ b, σ.sent = b → ∀ w', Below w1.heap.size w1 w' → (Instr.loadAt 4 (.pointer (some ⟨tb, 16, none⟩))).run Try.prog w' = .ok (.bool b) w') := hid fun b hb w' hw => by
    have q0 := below_keep hw _ _ d16
    rw [hb] at q0
    clear d12 d15 d16
    go_simp
  clear d12 d15 d16 h3 f2 f3 hf
  have hpost : ∀ (b s : Bool), σ.came = b → σ.sent = s → rdE σ k = (b && decide (σ.dn.length = k)) ∧ rdS σ = (decide (0 < σ.dn.length) || (b && !s)) := by
    rintro b s rfl rfl
    exact ⟨rfl, rfl⟩
  have HK := hid hpost
  clear hpost
  rcases hc : σ.came with _ | _ <;> rcases hs : σ.sent with _ | _ <;> by_cases hl : σ.dn.length = k <;> by_cases hz : 0 < σ.dn.length
  all_goals
    have M2 := hid (L2.out _ hc)
    have M3 := hid (L3.out _ hs)
    obtain ⟨k1, k2⟩ := HK.out _ _ hc hs
    first | rw [decide_eq_true hl] at k1 | rw [decide_eq_false hl] at k1
    first | rw [decide_eq_true hz] at k2 | rw [decide_eq_false hz] at k2
    simp only [Bool.false_and, Bool.true_and, Bool.and_false, Bool.and_true, Bool.not_true, Bool.not_false, Bool.false_or, Bool.true_or] at k1 k2
    have K1 := hid k1
    have K2 := hid k2
    (refine wp_mixC (Below w1.heap.size w1) ?_ ?_ ((Below.refl _ _).drew) ?_; (focus kernel_rfl); (focus kernel_rfl); intro KK hKK; go_wp2_with (first
                                                          | (first
      | ((with_reducible refine mixS_load L1.out ?_ ?_ ?_); (focus rfl); (focus rfl))
      | ((with_reducible refine mixS_load M2.out ?_ ?_ ?_); (focus rfl); (focus rfl))
      | ((with_reducible refine mixS_load M3.out ?_ ?_ ?_); (focus rfl); (focus rfl))
      | (go_at_call 36; go_must (refine (plen (HQ1.out.below (Below.refl _ _).drew)).mono ?_; rintro e w2 ⟨rfl, rfl⟩))
      | ((with_reducible refine And.intro ?_ ?_); (focus (exact (Below.refl _ _).drew))))
                                                          | (with_reducible refine mix_nil ?_)
                                                          | ((with_reducible refine mixS_on ?_ ?_); (focus rfl); intro K K' hK hK'; go_simp; (first | ((with_reducible refine hK _ _ ?_); clear hK hK' K K') | ((with_reducible refine hK' _ _ ?_); clear hK hK' K K') | skip))
                                                          | ((with_reducible refine mixS_off ?_ ?_); (focus rfl); intro K hK; go_simp; (first | ((with_reducible refine hK _ _ ?_); clear hK K) | skip))
                                                          | ((with_reducible refine mixS_step ?_); intro K K' hK hK'; go_simp; (first | ((with_reducible refine hK _ _ ?_); clear hK hK' K K') | ((with_reducible refine hK' _ _ ?_); clear hK hK' K K') | skip))))
    refine bodyPost_ret (v := .tuple #[.slice A1 k n1, .bool (rdE σ k), .bool (rdS σ)]) (by rw [K1.out, K2.out]; first | (simp [results, Try.results23, go_sem]; done) | (simp [results, Try.results23, go_sem]; omega)) rfl ?_
    exact ⟨A1, n1, rfl, own_below HO.out (Below.refl _ _).drew, HB.out.drew⟩
/-- What Sent leaves. -/
def SnPost (B tb : Nat) (σ : TV) (G : List Nat) (k : Nat) (en : Bool) (t : Int) (w : World) (e : Ending) (w' : World) : Prop :=
  ∃ G', e = .returned (.tuple #[]) ∧ Tun w' B tb (sentV σ k en t) G' ∧ TK G G' w w'
set_option maxHeartbeats 1000000 in
set_option maxRecDepth 100000 in
theorem sent_any (m t : Int) (en : Bool) (h : Tun w B tb σ G) (hf : σ.Few) (hB : B ≤ w.heap.size) :
    Calls Try.prog 17 #[.pointer (some ⟨tb, 0, none⟩), .int .i64 m, .bool en, .int .i64 t] w (SnPost B tb σ G (lookN m σ.dn.length) en t w) := by
  obtain ⟨us, ha, hi, ip, po, x, y, gu, gd, Ru, Rd, rfl, h⟩ := h
  have H := hid h
  obtain ⟨c8, c9, c10, c11, c12, c13, c14, c15, c16, c17, c0, c1, c2, kf⟩ := h.c
  obtain ⟨f1, f2, f3, f4, f5, f6⟩ := hf
  obtain ⟨i, o, p1, p2, p3, p4, hp⟩ := h.pd
  have hfit := hp.fits
  have HP := hid hp
  have hk := lookN_le m σ.dn.length
  generalize hkk : lookN m σ.dn.length = k at hk ⊢
  clear h hp
  go_enter Try.func17, Try.ntmps17
  go_upto_region 1 with (go_at_call 34; go_must (refine (ptake m HP.out (by omega) p3 (by omega) hB).mono ?_; rw [hkk]; clear hkk; rintro e w1 ⟨A1, n1, R', rfl, hown, hp2, ht2, hR, hRA⟩))
  have hpb : PB w1 B gd σ.bf (σ.dn.drop k) (σ.pd + k) R' := by
    refine ⟨_, _, p1, ?_, ?_, ?_, hp2⟩
    · rw [List.length_drop]
      omega
    · omega
    · omega
  have hsub : ∀ b ∈ [gd], b = gd ∨ Rd = some b := fun b hb => .inl (by simpa using hb)
  have h2 := H.out.dnP ht2 hsub hpb (fun b hb => .inr (hR b hb))
  have htk : TK (GG tb gu gd Ru Rd) (GG tb gu gd Ru R') w w1 := TKdn ht2 (fun b hb => .inr (hsub b hb)) (fun b hb => .inr (hR b hb))
  have H2 := hid h2.tun
  have HTK := hid htk
  clear h2 htk hown hpb hsub hR hRA ht2 hp2 HP p1 p2 p3 p4
  go_upto_region 2 with (go_at_call 35; go_must (refine (mov_any 0 k t H2.out f3 f4 (by omega) (by omega)).mono ?_; rintro e w2 ⟨rfl, h3, ht3⟩))
  have HT3 := hid ht3
  obtain ⟨us, ha, hi, ip, po, x, y, gu2, gd2, Ru2, Rd2, hG, h3⟩ := h3
  obtain ⟨c8, c9, c10, c11, c12, c13, c14, c15, c16, c17, c0, c1, c2, kf⟩ := h3.c
  have kf16 := kf 16
  rw [movV_sent] at c16
  have e16 : ({ σ with dn := σ.dn.drop k, pd := σ.pd + k } : TV).sent = σ.sent := rfl
  rw [e16] at c16
  have H3 := hid h3
  have HG := hid hG
  clear h3 ht3 hG e16 kf
  have fin : ∀ (v : Bool) (A : World), Turned [tb] w2 A → Blk A tb 57 (tunC { movV { σ with dn := σ.dn.drop k, pd := σ.pd + k } 0 k t with sent := v } us ha hi ip po x y gu2 gd2) → v = (σ.sent || en) →
      SnPost B tb σ (GG tb gu gd Ru Rd) k en t w (.returned (.tuple #[])) A := by
    intro v A ht hblk hv
    have htt : Turned [tb] w1 A := HT3.out.trans ht (by simp)
    refine ⟨GG tb gu2 gd2 Ru2 Rd2, rfl, ?_, ?_⟩
    · have e : sentV σ k en t = { movV { σ with dn := σ.dn.drop k, pd := σ.pd + k } 0 k t with sent := v } := by rw [hv]; rfl
      rw [e]
      exact (H3.out.store (σ' := { movV { σ with dn := σ.dn.drop k, pd := σ.pd + k } 0 k t with sent := v }) ht hblk rfl rfl rfl rfl rfl H3.out.vx H3.out.vy).tun
    · rw [← HG.out]
      exact HTK.out.trans (TK.mono htt (fun b hb => mem_GG.2 (.inl (by simpa using hb))))
  have HFIN := hid fin
  clear fin HTK HG H2
  rcases hs : σ.sent with _ | _
  all_goals
    rw [hs] at c16
    have HS := hid hs
    clear hs
    go_wp2_with fail
    go_end0
    first
      | exact HFIN.out true _ ((Turned.refl _ _).setCell (by simp) _) (H3.out.blk.set_ 16 (.bool true)) (by rw [HS.out]; rfl)
      | exact HFIN.out en _ ((Turned.refl _ _).setCell (by simp) _) (H3.out.blk.set_ 16 (.bool en)) (by rw [HS.out]; rfl)
/-- What Close leaves. -/
def ClPost (B tb : Nat) (σ : TV) (G : List Nat) (w : World) (e : Ending) (w' : World) : Prop :=
  ∃ G', e = .returned (.tuple #[]) ∧ Tun w' B tb (shutV σ) G' ∧ TK G G' w w'
set_option maxHeartbeats 1000000 in
set_option maxRecDepth 100000 in
theorem close_any (h : Tun w B tb σ G) (hf : σ.Few) (hB : B ≤ w.heap.size) :
    Calls Try.prog 18 #[.pointer (some ⟨tb, 0, none⟩)] w (ClPost B tb σ G w) := by
  obtain ⟨us, ha, hi, ip, po, x, y, gu, gd, Ru, Rd, rfl, h⟩ := h
  have H := hid h
  obtain ⟨c8, c9, c10, c11, c12, c13, c14, c15, c16, c17, c0, c1, c2, kf⟩ := h.c
  obtain ⟨f1, f2, f3, f4, f5, f6⟩ := hf
  have kf8 := kf 8
  go_enter Try.func18, Try.ntmps18
  go_upto_region 1 with fail
  obtain ⟨wa, hwa⟩ : ∃ wa, w.setCell ⟨tb, 8, none⟩ (.int .i64 4) = wa := ⟨_, rfl⟩
  have hta : Turned [tb] w wa := by rw [← hwa]; exact (Turned.refl _ _).setCell (by simp) _
  have ha1 := h.store (σ' := { σ with st := 4 }) hta (by rw [← hwa]; exact h.blk.set_ 8 (.int .i64 4)) rfl rfl rfl rfl rfl h.vx h.vy
  rw [hwa]
  have HTA := hid hta
  have HA := hid ha1
  have hlt := ha1.blk.lt
  clear h c8 c9 c10 c11 c12 c13 c14 c15 c16 c17 c0 c1 c2 kf kf8 hwa hta
  obtain ⟨c8, c9, c10, c11, c12, c13, c14, c15, c16, c17, c0, c1, c2, kf⟩ := ha1.c
  have L1 : Hid (∀ w', w'.cell? ⟨tb, 10, none⟩ = some (.int .i64 σ.bf) → (Instr.loadAt 3 (.pointer (some ⟨tb, 10, none⟩))).run Try.prog w' = .ok (.int .i64 σ.bf) w') := hid fun w' q0 => by
    clear c8 c9 c10 c11 c12 c13 c14 c15 c16 c17 c0 c1 c2
    go_simp
  have C10 := hid c10
  clear c8 c9 c10 c11 c12 c13 c14 c15 c16 c17 c0 c1 c2 kf ha1
  (refine wp_mixC (fun w' => w'.cell? ⟨tb, 10, none⟩ = some (.int .i64 σ.bf)) ?_ ?_ (C10.out) ?_; (focus kernel_rfl); (focus kernel_rfl); intro KK hKK; go_wp2_with (first
                                                                              | (first
    | ((with_reducible refine mixS_load L1.out ?_ ?_ ?_); (focus rfl); (focus rfl))
    | (go_at_call 32; (with_reducible refine (pnew 65535 _ (by decide)).mono ?_); (rintro e w1 ⟨rfl, hp, hb, hl⟩; have HP := hid hp; have HL1 := hid hl; have HA1 := hid (HA.out.below ((Below.refl _ _).drew.trans hb)); have HTA1 := hid (show Below wa.heap.size wa w1 from (Below.refl _ _).drew.trans hb); clear hp hb hl))
    | (go_at_call 32; go_must (refine (pnew σ.bf _ f5).mono ?_; rintro e w2 ⟨rfl, hq, hd, hl⟩; have HQ := hid hq; have HD := hid hd; have HP2 := hid (HP.out.below hd); have HA2 := hid (HA1.out.below hd); have HL2 := hid hl; clear hq hd hl; have k11 := HA2.out.blk.cell 11; have k12 := HA2.out.blk.cell 12; have kf11 := HA2.out.blk.frozen 11; have kf12 := HA2.out.blk.frozen 12; simp [tunC] at k11 k12))
    | ((with_reducible refine And.intro ?_ ?_); (focus (first | exact HA1.out.blk.cell 10 | exact HA2.out.blk.cell 10 | exact (HA2.out.blk.set_ 11 _).cell 10 | exact ((HA2.out.blk.set_ 11 _).set_ 12 _).cell 10))))
                                                                              | (with_reducible refine mix_nil ?_)
                                                                              | ((with_reducible refine mixS_on ?_ ?_); (focus rfl); intro K K' hK hK'; go_simp; (first | ((with_reducible refine hK _ _ ?_); clear hK hK' K K') | ((with_reducible refine hK' _ _ ?_); clear hK hK' K K') | skip))
                                                                              | ((with_reducible refine mixS_off ?_ ?_); (focus rfl); intro K hK; go_simp; (first | ((with_reducible refine hK _ _ ?_); clear hK K) | skip))
                                                                              | ((with_reducible refine mixS_step ?_); intro K K' hK hK'; go_simp; (first | ((with_reducible refine hK _ _ ?_); clear hK hK' K K') | ((with_reducible refine hK' _ _ ?_); clear hK hK' K K') | skip))))
  go_end0
  have hsz : w.heap.size ≤ wa.heap.size := HTA.out.size
  have hl1 : wa.heap.size < w1.heap.size := HL1.out
  have hl2 : w1.heap.size < w2.heap.size := HL2.out
  have htw : Turned [tb] w2 ((w2.setCell ⟨tb, 11, none⟩ (.pointer (some ⟨wa.heap.size, 0, none⟩))).setCell ⟨tb, 12, none⟩ (.pointer (some ⟨w1.heap.size, 0, none⟩))) := ((Turned.refl _ _).setCell (by simp) _).setCell (by simp) _
  have hBs : B ≤ wa.heap.size := Nat.le_trans hB hsz
  refine ⟨GG tb wa.heap.size w1.heap.size none none, rfl, TunA.tun (us := us) (ha := ha) (hi := hi) (ip := ip) (po := po) (x := x) (y := y) ⟨(HA2.out.blk.set_ 11 _).set_ 12 _, ?_, ?_, HA.out.vx, HA.out.vy, by omega, (fun b hb => by cases hb), HA.out.base⟩, ?_, fun b hb => ?_⟩
  · refine ⟨0, 0, Int.le_refl 0, ?_, Int.le_refl 0, ?_, ((HP2.out.rebase hBs).turned htw (by simp; omega) (fun b hb => by cases hb))⟩
    · show (0 : Int) ≤ (σ.pu : Int) + (([] : List UInt8).length : Int)
      omega
    · show (0 : Int) ≤ (σ.pu : Int)
      omega
  · refine ⟨0, 0, Int.le_refl 0, ?_, Int.le_refl 0, ?_, ((HQ.out.rebase (by omega)).turned htw (by simp; omega) (fun b hb => by cases hb))⟩
    · show (0 : Int) ≤ (σ.pd : Int) + (([] : List UInt8).length : Int)
      omega
    · show (0 : Int) ≤ (σ.pd : Int)
      omega
  · have h1 : Turned [tb] w w2 := (HTA.out.trans (Turned.of_below (F := [tb]) HTA1.out) (by simp)).trans (Turned.of_below (F := [tb]) HD.out) (by simp)
    exact (h1.trans htw (by simp)).mono (fun b hb => mem_GG.2 (.inl (by simpa using hb)))
  · rcases mem_GG.1 hb with e | e | e | e | e
    · exact .inl (mem_GG.2 (.inl e))
    · exact .inr (by omega)
    · exact .inr (by omega)
    · cases e
    · cases e
end
end Go.Proofs.Ytefhadfcipifmaa
