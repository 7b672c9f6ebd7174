/- The tunnel: each call once. Conditions: bytes and counters stay below 2^45. -/
import Derived.Test.YtefhadfcipifmaaTunV
import Derived.Test.YtefhadfcipifmaaTally
namespace Go.Proofs.Ytefhadfcipifmaa
open Go.RowKit
attribute [local go_sem] kd kdS
theorem run_store_complex {P : Program} {w : World} {a : Addr} {m : Mode} (k : FloatKind) (x y : Nat) : (store a (.complex k x y) m).run P w = stored P w a (.complex k x y) m := run_store P w a _ m rfl
attribute [local go_sem] run_store_complex

section
variable {w w' : World} {B tb : Nat} {σ : TV} {us ha hi ip po : Value} {x y gu gd : Nat} {Ru Rd : Option Nat} {G : List Nat}
theorem TunA.c (h : TunA w B tb σ us ha hi ip po x y gu gd Ru Rd) :
    w.cell? ⟨tb, 8, none⟩ = some (.int .i64 σ.st) ∧ w.cell? ⟨tb, 9, none⟩ = some (.int .i64 σ.mv) ∧ w.cell? ⟨tb, 10, none⟩ = some (.int .i64 σ.bf) ∧ w.cell? ⟨tb, 11, none⟩ = some (.pointer (some ⟨gu, 0, none⟩)) ∧ w.cell? ⟨tb, 12, none⟩ = some (.pointer (some ⟨gd, 0, none⟩)) ∧
    w.cell? ⟨tb, 13, none⟩ = some (.bool σ.ended) ∧ w.cell? ⟨tb, 14, none⟩ = some (.bool σ.shut) ∧ w.cell? ⟨tb, 15, none⟩ = some (.bool σ.came) ∧ w.cell? ⟨tb, 16, none⟩ = some (.bool σ.sent) ∧ w.cell? ⟨tb, 17, none⟩ = some (.complex .f64 x y) ∧
    w.cell? ⟨tb, 0, none⟩ = some (.int .i64 σ.id) ∧ w.cell? ⟨tb, 1, none⟩ = some (.int .i64 σ.conn) ∧ w.cell? ⟨tb, 2, none⟩ = some (.int .i64 σ.stm) ∧ ∀ i, w.frozen? ⟨tb, i, none⟩ = false :=
  ⟨h.blk.cell 8, h.blk.cell 9, h.blk.cell 10, h.blk.cell 11, h.blk.cell 12, h.blk.cell 13, h.blk.cell 14, h.blk.cell 15, h.blk.cell 16, h.blk.cell 17, h.blk.cell 0, h.blk.cell 1, h.blk.cell 2, fun i => h.blk.frozen i⟩

set_option maxHeartbeats 400000 in
set_option maxRecDepth 100000 in
theorem tnew_any (i c s k : Int) (us ha hi : ByteArray) (po bf : Int) (w : World) (hbf : 0 ≤ bf) :
    Calls Try.prog 8 #[.int .i64 i, .int .i64 c, .int .i64 s, .int .i64 k, .string us, .agg #[.string ha, .string hi], .int .i64 po, .int .i64 bf] w fun e w' => ∃ tb G, e = .returned (.pointer (some ⟨tb, 0, none⟩)) ∧
      Tun w' w.heap.size tb ⟨i, c, s, k, bf, 1, false, false, false, false, [], [], 0, 0, 0, 0⟩ G ∧ Below w.heap.size w w' := by
  go_enter Try.func8, Try.ntmps8
  go_upto_region 1 with fail
  obtain ⟨wa, hwa⟩ : ∃ wa, w.alloc (.cells #[.string ha, .string hi] 28) = wa := ⟨_, rfl⟩
  have hF : Blk wa w.heap.size 28 #[.string ha, .string hi] := by rw [← hwa]; exact Blk.new w _ _
  have hb : Below w.heap.size w wa := by rw [← hwa]; exact (Below.refl _ _).alloc (Nat.le_refl _) _
  rw [hwa]
  have HB := hid hb
  have k0 := hF.cell 0
  have k1 := hF.cell 1
  simp at k0 k1
  have L0 : Hid (∀ w', Below wa.heap.size wa w' → (Instr.loadAt 28 (.pointer (some ⟨w.heap.size, 0, none⟩))).run Try.prog w' = .ok (.agg #[.string ha, .string hi]) w') := hid fun w' hw => by
    have q0 := below_keep hw _ _ k0
    have q1 := below_keep hw _ _ k1
    go_simp
  clear hF hb hwa k0 k1
  (refine wp_mixC (Below wa.heap.size wa) ?_ ?_ ((Below.refl _ _).drew) ?_; (focus kernel_rfl); (focus kernel_rfl); intro KK hKK; go_wp2_with (first
                                                        | (first
    | ((with_reducible refine mixS_load L0.out ?_ ?_ ?_); (focus rfl); (focus rfl))
    | (go_at_call 32; (with_reducible refine (pnew 65535 _ (by decide)).mono ?_); (rintro e w1 ⟨rfl, hp, hb, hl⟩; have HP := hid hp; have HB1 := hid (show Below wa.heap.size wa w1 from (Below.refl _ _).drew.trans (hb.mono (Nat.le_refl _))); have HL1 := hid hl; clear hp hb hl))
    | (go_at_call 32; go_must (refine (pnew bf _ hbf).mono ?_; rintro e w2 ⟨rfl, hq, hd, hl⟩; have HQ := hid hq; have HD := hid (HB1.out.trans (hd.mono HB1.out.size)); have HP2 := hid (HP.out.below hd); have HL2 := hid hl; clear hq hd hl))
    | ((with_reducible refine And.intro ?_ ?_); (focus (first | exact HB1.out | exact HD.out | exact HD.out.alloc (HD.out.size) _))))
                                                        | (with_reducible refine mix_nil ?_)
                                                        | ((with_reducible refine mixS_on ?_ ?_); (focus rfl); intro K K' hK hK'; go_simp; (first | ((with_reducible refine hK _ _ ?_); clear hK hK' K K') | ((with_reducible refine hK' _ _ ?_); clear hK hK' K K') | skip))
                                                        | ((with_reducible refine mixS_off ?_ ?_); (focus rfl); intro K hK; go_simp; (first | ((with_reducible refine hK _ _ ?_); clear hK K) | skip))
                                                        | ((with_reducible refine mixS_step ?_); intro K K' hK hK'; go_simp; (first | ((with_reducible refine hK _ _ ?_); clear hK hK' K K') | ((with_reducible refine hK' _ _ ?_); clear hK hK' K K') | skip))))
  refine bodyPost_ret (results_tmp rfl _ _ _) rfl ⟨w2.heap.size, _, rfl, TunA.tun (us := .string us) (ha := .string ha) (hi := .string hi) (ip := .string ByteArray.empty) (po := .int .i64 po) (x := 0) (y := 0) (gu := wa.heap.size) (gd := w1.heap.size) (Ru := none) (Rd := none) ⟨Blk.new w2 _ _, ?_, ?_, V_zero, V_zero, ?_, ?_, ?_⟩, ?_⟩
  · exact ⟨0, 0, Int.le_refl 0, Int.le_refl 0, Int.le_refl 0, Int.le_refl 0, (HP2.out.rebase HB.out.size).below ((Below.refl _ _).alloc (Nat.le_refl _) _)⟩
  · exact ⟨0, 0, Int.le_refl 0, Int.le_refl 0, Int.le_refl 0, Int.le_refl 0, (HQ.out.rebase (Nat.le_trans HB.out.size HB1.out.size)).below ((Below.refl _ _).alloc (Nat.le_refl _) _)⟩
  · have : wa.heap.size < w1.heap.size := HL1.out
    omega
  · intro b hb
    cases hb
  · exact Nat.le_trans HB.out.size HD.out.size
  · exact HB.out.trans ((HD.out.mono HB.out.size).alloc (Nat.le_trans HB.out.size HD.out.size) _)

/-! What each call leaves. -/
def TV.Few (σ : TV) : Prop := σ.pu ≤ 35184372088832 ∧ σ.pd ≤ 35184372088832 ∧ σ.ku ≤ 35184372088832 ∧ σ.kd ≤ 35184372088832 ∧ 0 ≤ σ.bf ∧ σ.bf ≤ 35184372088832
def movV (σ : TV) (a b : Nat) (t : Int) : TV := if a + b = 0 then σ else { σ with mv := t, ku := σ.ku + a, kd := σ.kd + b }
def accV (σ : TV) (l : List UInt8) (e : Bool) (k : Nat) : TV := { σ with ended := e, up := σ.up ++ l.take k }
def wrS (σ : TV) (k : Nat) : Bool := (σ.ended && decide (σ.up.length = k)) && !σ.shut
def wrV (σ : TV) (k : Nat) (t : Int) : TV := { movV { σ with up := σ.up.drop k, pu := σ.pu + k } k 0 t with shut := σ.shut || wrS σ k }
def delV (σ : TV) (l : List UInt8) (k : Nat) (t : Int) : TV := { σ with dn := σ.dn ++ l.take k, mv := if 0 < k then t else σ.mv }
def sentV (σ : TV) (k : Nat) (e : Bool) (t : Int) : TV := { movV { σ with dn := σ.dn.drop k, pd := σ.pd + k } 0 k t with sent := σ.sent || e }
def shutV (σ : TV) : TV := { σ with st := 4, up := [], dn := [] }
/-- A tuple's Turned list. -/
theorem TK.of {F G G' : List Nat} {w w' : World} (h : Turned F w w') (hF : ∀ b ∈ F, b ∈ G) (hG : ∀ b ∈ G', b ∈ G ∨ w.heap.size ≤ b) : TK G G' w w' := ⟨h.mono hF, hG⟩

set_option maxHeartbeats 400000 in
set_option maxRecDepth 100000 in
theorem mov_any (a b : Nat) (t : Int) (h : Tun w B tb σ G) (f3 : σ.ku ≤ 35184372088832) (f4 : σ.kd ≤ 35184372088832) (ha' : a ≤ 70368744177664) (hb' : b ≤ 70368744177664) :
    Calls Try.prog 35 #[.pointer (some ⟨tb, 0, none⟩), .int .i64 a, .int .i64 b, .int .i64 t] w fun e w' => e = .returned (.tuple #[]) ∧ Tun w' B tb (movV σ a b t) G ∧ Turned [tb] w w' := by
  obtain ⟨us, ha, hi, ip, po, x, y, gu, gd, Ru, Rd, rfl, h⟩ := h
  have H := hid h
  have hq := IntWalk.i64_in ((a : Int) + b) (by omega)
  obtain ⟨c8, c9, c10, c11, c12, c13, c14, c15, c16, c17, c0, c1, c2, kf⟩ := h.c
  by_cases hab : a + b = 0
  · have hz : (a : Int) + b = 0 := by omega
    rw [hz] at hq
    have e : movV σ a b t = σ := by unfold movV; rw [if_pos hab]
    rw [e]
    clear h e
    go_enter Try.func35, Try.ntmps35
    go_wp2_with fail
    all_goals
      (first | (go_end0) | (refine bodyPost_ret (results_none rfl _ _ _) rfl ?_))
      exact ⟨rfl, H.out.tun, Turned.refl _ _⟩
  · have hz : ¬ (a : Int) + b = 0 := by omega
    have e : movV σ a b t = { σ with mv := t, ku := σ.ku + a, kd := σ.kd + b } := by unfold movV; rw [if_neg hab]
    rw [e]
    have b2 : (2 : Nat) ^ 53 = 9007199254740992 := by decide
    obtain ⟨r1, r2, hr0, v1, v2⟩ := csum_V h.vx h.vy (V_fw (n := a) (by omega)) (V_fw (n := b) (by omega)) (by omega) (by omega)
    have hr := fun w => hr0 Try.prog 44 w
    have HV := hid (And.intro v1 v2)
    have kf9 := kf 9
    have kf17 := kf 17
    clear h e hr0 v1 v2 b2 f3 f4
    go_enter Try.func35, Try.ntmps35
    go_wp2_with (go_at_call 41; go_must (refine (pair_yes a b _ (by omega) (by omega)).mono ?_; rintro e w2 ⟨rfl, rfl⟩))
    (first | (go_end0) | (refine bodyPost_ret (results_none rfl _ _ _) rfl ?_))
    have ht : Turned [tb] w ((w.setCell ⟨tb, 9, none⟩ (.int .i64 t)).setCell ⟨tb, 17, none⟩ (.complex .f64 r1 r2)) := ((Turned.refl _ _).setCell (by simp) _).setCell (by simp) _
    exact ⟨rfl, (H.out.store (σ' := { σ with mv := t, ku := σ.ku + a, kd := σ.kd + b }) ht ((H.out.blk.set_ 9 _).set_ 17 _) rfl rfl rfl rfl rfl HV.out.1 HV.out.2).tun, ht⟩
section
variable (σ : TV) (a b : Nat) (t : Int)
theorem movV_up : (movV σ a b t).up = σ.up := by unfold movV; split <;> rfl
theorem movV_dn : (movV σ a b t).dn = σ.dn := by unfold movV; split <;> rfl
theorem movV_ended : (movV σ a b t).ended = σ.ended := by unfold movV; split <;> rfl
theorem movV_shut : (movV σ a b t).shut = σ.shut := by unfold movV; split <;> rfl
theorem movV_came : (movV σ a b t).came = σ.came := by unfold movV; split <;> rfl
theorem movV_sent : (movV σ a b t).sent = σ.sent := by unfold movV; split <;> rfl
theorem movV_st : (movV σ a b t).st = σ.st := by unfold movV; split <;> rfl
end
theorem TKup {F : List Nat} {R' : Option Nat} (h : Turned F w w') (hF : ∀ b ∈ F, b = tb ∨ b = gu ∨ Ru = some b) (hR : ∀ b, R' = some b → Ru = some b ∨ w.heap.size ≤ b) : TK (GG tb gu gd Ru Rd) (GG tb gu gd R' Rd) w w' := by
  refine TK.of h (fun b hb => mem_GG.2 ?_) (fun b hb => ?_)
  · rcases hF b hb with e | e | e
    · exact .inl e
    · exact .inr (.inl e)
    · exact .inr (.inr (.inr (.inl e)))
  · rcases mem_GG.1 hb with e | e | e | e | e
    · exact .inl (mem_GG.2 (.inl e))
    · exact .inl (mem_GG.2 (.inr (.inl e)))
    · exact .inl (mem_GG.2 (.inr (.inr (.inl e))))
    · rcases hR b e with e | e
      · exact .inl (mem_GG.2 (.inr (.inr (.inr (.inl e)))))
      · exact .inr e
    · exact .inl (mem_GG.2 (.inr (.inr (.inr (.inr e)))))
theorem TKdn {F : List Nat} {R' : Option Nat} (h : Turned F w w') (hF : ∀ b ∈ F, b = tb ∨ b = gd ∨ Rd = some b) (hR : ∀ b, R' = some b → Rd = some b ∨ w.heap.size ≤ b) : TK (GG tb gu gd Ru Rd) (GG tb gu gd Ru R') w w' := by
  refine TK.of h (fun b hb => mem_GG.2 ?_) (fun b hb => ?_)
  · rcases hF b hb with e | e | e
    · exact .inl e
    · exact .inr (.inr (.inl e))
    · exact .inr (.inr (.inr (.inr e)))
  · rcases mem_GG.1 hb with e | e | e | e | e
    · exact .inl (mem_GG.2 (.inl e))
    · exact .inl (mem_GG.2 (.inr (.inl e)))
    · exact .inl (mem_GG.2 (.inr (.inr (.inl e))))
    · exact .inl (mem_GG.2 (.inr (.inr (.inr (.inl e)))))
    · rcases hR b e with e | e
      · exact .inl (mem_GG.2 (.inr (.inr (.inr (.inr e)))))
      · exact .inr e
set_option maxHeartbeats 1000000 in
set_option maxRecDepth 100000 in
theorem id_any (h : Tun w B tb σ G) : Calls Try.prog 31 #[.pointer (some ⟨tb, 0, none⟩)] w fun e w' => e = .returned (.int .i64 σ.id) ∧ w = w' := by
  obtain ⟨us, ha, hi, ip, po, x, y, gu, gd, Ru, Rd, rfl, h⟩ := h
  have H := hid h
  obtain ⟨c8, c9, c10, c11, c12, c13, c14, c15, c16, c17, c0, c1, c2, kf⟩ := h.c
  clear h
  go_enter Try.func31, Try.ntmps31
  go_wp2_with fail
  go_ret
  exact ⟨rfl, rfl⟩
set_option maxHeartbeats 1000000 in
set_option maxRecDepth 100000 in
theorem state_any (h : Tun w B tb σ G) : Calls Try.prog 19 #[.pointer (some ⟨tb, 0, none⟩)] w fun e w' => e = .returned (.int .i64 σ.st) ∧ w = w' := by
  obtain ⟨us, ha, hi, ip, po, x, y, gu, gd, Ru, Rd, rfl, h⟩ := h
  have H := hid h
  obtain ⟨c8, c9, c10, c11, c12, c13, c14, c15, c16, c17, c0, c1, c2, kf⟩ := h.c
  clear h
  go_enter Try.func19, Try.ntmps19
  go_wp2_with fail
  go_ret
  exact ⟨rfl, rfl⟩
set_option maxHeartbeats 1000000 in
set_option maxRecDepth 100000 in
theorem ended_any (h : Tun w B tb σ G) : Calls Try.prog 20 #[.pointer (some ⟨tb, 0, none⟩)] w fun e w' => e = .returned (.bool σ.ended) ∧ w = w' := by
  obtain ⟨us, ha, hi, ip, po, x, y, gu, gd, Ru, Rd, rfl, h⟩ := h
  have H := hid h
  obtain ⟨c8, c9, c10, c11, c12, c13, c14, c15, c16, c17, c0, c1, c2, kf⟩ := h.c
  clear h
  go_enter Try.func20, Try.ntmps20
  go_wp2_with fail
  go_ret
  exact ⟨rfl, rfl⟩
set_option maxHeartbeats 1000000 in
set_option maxRecDepth 100000 in
theorem count_tun (h : Tun w B tb σ G) : Calls Try.prog 25 #[.pointer (some ⟨tb, 0, none⟩)] w fun e w' => ∃ x y, e = .returned (.complex .f64 x y) ∧ V x σ.ku ∧ V y σ.kd ∧ w = w' := by
  obtain ⟨us, ha, hi, ip, po, x, y, gu, gd, Ru, Rd, rfl, h⟩ := h
  have H := hid h
  obtain ⟨c8, c9, c10, c11, c12, c13, c14, c15, c16, c17, c0, c1, c2, kf⟩ := h.c
  clear h
  go_enter Try.func25, Try.ntmps25
  go_wp2_with fail
  go_ret
  exact ⟨x, y, rfl, H.out.vx, H.out.vy, rfl⟩
set_option maxHeartbeats 1000000 in
set_option maxRecDepth 100000 in
theorem where_any (h : Tun w B tb σ G) : Calls Try.prog 30 #[.pointer (some ⟨tb, 0, none⟩)] w fun e w' => e = .returned (.tuple #[.int .i64 σ.conn, .int .i64 σ.stm]) ∧ Below w.heap.size w w' := by
  obtain ⟨us, ha, hi, ip, po, x, y, gu, gd, Ru, Rd, rfl, h⟩ := h
  have H := hid h
  obtain ⟨c8, c9, c10, c11, c12, c13, c14, c15, c16, c17, c0, c1, c2, kf⟩ := h.c
  clear h
  go_enter Try.func30, Try.ntmps30
  go_wp2_with fail
  (refine wp_mix ?_ ?_ ?_; (focus kernel_rfl); (focus kernel_rfl); intro KK hKK; go_wp2_with (first
        | (fail)
        | (with_reducible refine mix_nil ?_)
        | ((with_reducible refine mix_on ?_ ?_); (focus rfl); intro K hK; go_simp; (first | ((with_reducible refine hK _ _ ?_); clear hK K) | skip))
        | ((with_reducible refine mix_off ?_ ?_); (focus rfl); intro K hK; go_simp; (first | ((with_reducible refine hK _ _ ?_); clear hK K) | skip))
        | ((with_reducible refine mix_step ?_); intro K hK; go_simp; (first | ((with_reducible refine hK _ _ ?_); clear hK K) | skip))))
  go_ret2
  exact ⟨rfl, (Below.refl _ _).drew⟩
set_option maxHeartbeats 1000000 in
set_option maxRecDepth 100000 in
theorem waits_any (h : Tun w B tb σ G) : Calls Try.prog 14 #[.pointer (some ⟨tb, 0, none⟩)] w fun e w' => e = .returned (.int .i64 σ.up.length) ∧ w = w' := by
  obtain ⟨us, ha, hi, ip, po, x, y, gu, gd, Ru, Rd, rfl, h⟩ := h
  have H := hid h
  obtain ⟨c8, c9, c10, c11, c12, c13, c14, c15, c16, c17, c0, c1, c2, kf⟩ := h.c
  obtain ⟨i, o, p1, p2, p3, p4, hp⟩ := h.pu
  have HP := hid hp
  clear h p1 p2 p3 p4 hp
  go_enter Try.func14, Try.ntmps14
  go_wp2_with (go_at_call 36; go_must (refine (plen HP.out).mono ?_; rintro e w2 ⟨rfl, rfl⟩))
  go_ret
  exact ⟨rfl, rfl⟩
set_option maxHeartbeats 1000000 in
set_option maxRecDepth 100000 in
theorem done_any (h : Tun w B tb σ G) : Calls Try.prog 21 #[.pointer (some ⟨tb, 0, none⟩)] w fun e w' => e = .returned (.bool (decide (σ.st = 3) && σ.shut && σ.sent)) ∧ w = w' := by
  obtain ⟨us, ha, hi, ip, po, x, y, gu, gd, Ru, Rd, rfl, h⟩ := h
  have H := hid h
  obtain ⟨c8, c9, c10, c11, c12, c13, c14, c15, c16, c17, c0, c1, c2, kf⟩ := h.c
  clear h
  rcases h1 : σ.shut with _ | _ <;> rcases h2 : σ.sent with _ | _ <;> by_cases h3 : σ.st = 3
  all_goals
    rw [h1] at c14
    rw [h2] at c16
    first | rw [decide_eq_true h3] | rw [decide_eq_false h3]
    go_enter Try.func21, Try.ntmps21
    go_wp2_with fail
    go_ret
    exact ⟨rfl, rfl⟩
set_option maxHeartbeats 1000000 in
set_option maxRecDepth 100000 in
theorem acc_no (A : Option Addr) (n c : Nat) (en : Bool) (h : Tun w B tb σ G) (hn : σ.st = 4 ∨ σ.ended = true) : Calls Try.prog 11 #[.pointer (some ⟨tb, 0, none⟩), .slice A n c, .bool en] w fun e w' => e = .returned (.int .i64 0) ∧ w = w' := by
  obtain ⟨us, ha, hi, ip, po, x, y, gu, gd, Ru, Rd, rfl, h⟩ := h
  have H := hid h
  obtain ⟨c8, c9, c10, c11, c12, c13, c14, c15, c16, c17, c0, c1, c2, kf⟩ := h.c
  clear h
  rcases h1 : σ.ended with _ | _ <;> by_cases h3 : σ.st = 4
  all_goals first
    | (exfalso; rcases hn with h | h <;> first | (exact h3 h) | (exact Bool.false_ne_true (h1.symm.trans h)))
    | skip
  all_goals
    rw [h1] at c13
    go_enter Try.func11, Try.ntmps11
    go_wp2_with fail
    go_ret
    exact ⟨rfl, rfl⟩
set_option maxHeartbeats 1000000 in
set_option maxRecDepth 100000 in
theorem acc_yes (A : Option Addr) (n c : Nat) (l : List UInt8) (en : Bool) (h : Tun w B tb σ G) (h3 : σ.st ≠ 4) (h1 : σ.ended = false) (hf : σ.Few) (hs0 : ∀ w', Turned [tb] w w' → Bs w' A n l) (hc : n ≤ c) (hn : n ≤ 35184372088832) (hB : B ≤ w.heap.size) :
    Calls Try.prog 11 #[.pointer (some ⟨tb, 0, none⟩), .slice A n c, .bool en] w fun e w' => ∃ G', e = .returned (.int .i64 (putN n 65535 σ.up.length)) ∧ Tun w' B tb (accV σ l en (putN n 65535 σ.up.length)) G' ∧ TK G G' w w' := by
  obtain ⟨us, ha, hi, ip, po, x, y, gu, gd, Ru, Rd, rfl, h⟩ := h
  have H := hid h
  obtain ⟨c8, c9, c10, c11, c12, c13, c14, c15, c16, c17, c0, c1, c2, kf⟩ := h.c
  rw [h1] at c13
  have kf13 := kf 13
  obtain ⟨f1, f2, f3, f4, f5, f6⟩ := hf
  have hs := hs0 w (Turned.refl _ _)
  have hl : l.length = n := by have := hs.1; simp at this; omega
  have ht1 : Turned [tb] w (w.setCell ⟨tb, 13, none⟩ (.bool en)) := (Turned.refl _ _).setCell (by simp) _
  have h1 := h.store (σ' := { σ with ended := en }) ht1 (h.blk.set_ 13 _) rfl rfl rfl rfl rfl h.vx h.vy
  have hs1 := hs0 _ ht1
  have hsz : w.heap.size ≤ (w.setCell ⟨tb, 13, none⟩ (.bool en)).heap.size := ht1.size
  have H1 := hid h1
  have HT1 := hid ht1
  have HS := hid hs1
  obtain ⟨i, o, p1, p2, p3, p4, hp⟩ := h1.pu
  have hfit := hp.fits
  have HP := hid hp
  clear h h1 ht1 hs hs1 hs0 hp
  have e1 : ({ σ with ended := en } : TV).up = σ.up := rfl
  have e2 : ({ σ with ended := en } : TV).pu = σ.pu := rfl
  rw [e1] at hfit HP p2
  rw [e2] at p2 p4
  go_enter Try.func11, Try.ntmps11
  go_wp2_with fail
  refine (pput A n c l HP.out HS.out hc (by omega) p1 (by omega) (by omega) (by decide)).mono ?_
  rintro e w2 ⟨R', rfl, hp2, ht2, hR⟩
  go_wp2_with fail
  go_ret
  have hk := putN_le n 65535 σ.up.length
  have hpb : PB w2 B gu 65535 (σ.up ++ l.take (putN n 65535 σ.up.length)) σ.pu R' := by
    refine ⟨_, _, ?_, ?_, p3, p4, hp2⟩
    · omega
    · rw [List.length_append, List.length_take, hl, Nat.min_eq_left hk]
      omega
  have hsub : ∀ b ∈ gu :: Ru.toList, b = gu ∨ Ru = some b := fun b hb => by simpa using hb
  have h2 := H1.out.upP ht2 hsub hpb hR
  refine ⟨_, rfl, h2.tun, TKup ((HT1.out.mono (G := tb :: gu :: Ru.toList) (by simp)).trans (ht2.mono (G := tb :: gu :: Ru.toList) (fun b hb => List.mem_cons_of_mem _ hb)) (fun b hb => .inl hb)) (fun b hb => ?_) (fun b hb => ?_)⟩
  · simpa using hb
  · rcases hR b hb with e | e
    · exact .inl e
    · exact .inr (Nat.le_trans hsz e)
end
end Go.Proofs.Ytefhadfcipifmaa
