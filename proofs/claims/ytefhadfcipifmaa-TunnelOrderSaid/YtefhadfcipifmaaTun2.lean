/- The tunnel: the calls that turn more. Conditions: bytes and counters stay below 2^45. -/
import Derived.Test.YtefhadfcipifmaaTun
namespace Go.Proofs.Ytefhadfcipifmaa
open Go.RowKit
attribute [local go_sem] kd kdS
attribute [local go_sem] run_store_complex

section
variable {w w' : World} {B tb : Nat} {σ : TV} {us ha hi ip po : Value} {x y gu gd : Nat} {Ru Rd : Option Nat} {G : List Nat}
set_option maxHeartbeats 1000000 in
set_option maxRecDepth 100000 in
theorem dial_yes (us' : ByteArray) (t : Int) (h : Tun w B tb σ G) (h3 : σ.st = 1) : Calls Try.prog 9 #[.pointer (some ⟨tb, 0, none⟩), .string us', .int .i64 t] w fun e w' => e = .returned (.bool true) ∧ Tun w' B tb { σ with st := 2, mv := t } G ∧ Turned [tb] w w' := by
  obtain ⟨us, ha, hi, ip, po, x, y, gu, gd, Ru, Rd, rfl, h⟩ := h
  have H := hid h
  obtain ⟨c8, c9, c10, c11, c12, c13, c14, c15, c16, c17, c0, c1, c2, kf⟩ := h.c
  have kf6 := kf 6
  have kf8 := kf 8
  have kf9 := kf 9
  have c6 : w.cell? ⟨tb, 6, none⟩ = some ip := h.blk.cell 6
  clear h
  rw [h3] at c8
  go_enter Try.func9, Try.ntmps9
  go_wp2_with fail
  go_ret
  have ht : Turned [tb] w (((w.setCell ⟨tb, 8, none⟩ (.int .i64 2)).setCell ⟨tb, 6, none⟩ (.string us')).setCell ⟨tb, 9, none⟩ (.int .i64 t)) := (((Turned.refl _ _).setCell (by simp) _).setCell (by simp) _).setCell (by simp) _
  exact ⟨rfl, (H.out.store (σ' := { σ with st := 2, mv := t }) ht (((H.out.blk.set_ 8 _).set_ 6 _).set_ 9 _) rfl rfl rfl rfl rfl H.out.vx H.out.vy).tun, ht⟩
set_option maxHeartbeats 1000000 in
set_option maxRecDepth 100000 in
theorem dial_no (us' : ByteArray) (t : Int) (h : Tun w B tb σ G) (h3 : σ.st ≠ 1) : Calls Try.prog 9 #[.pointer (some ⟨tb, 0, none⟩), .string us', .int .i64 t] w fun e w' => e = .returned (.bool false) ∧ w = w' := by
  obtain ⟨us, ha, hi, ip, po, x, y, gu, gd, Ru, Rd, rfl, h⟩ := h
  have H := hid h
  obtain ⟨c8, c9, c10, c11, c12, c13, c14, c15, c16, c17, c0, c1, c2, kf⟩ := h.c
  clear h
  go_enter Try.func9, Try.ntmps9
  go_wp2_with fail
  go_ret
  exact ⟨rfl, rfl⟩
set_option maxHeartbeats 1000000 in
set_option maxRecDepth 100000 in
theorem opened_yes (t : Int) (h : Tun w B tb σ G) (h3 : σ.st = 2) : Calls Try.prog 10 #[.pointer (some ⟨tb, 0, none⟩), .int .i64 t] w fun e w' => e = .returned (.bool true) ∧ Tun w' B tb { σ with st := 3, mv := t } G ∧ Turned [tb] w w' := by
  obtain ⟨us, ha, hi, ip, po, x, y, gu, gd, Ru, Rd, rfl, h⟩ := h
  have H := hid h
  obtain ⟨c8, c9, c10, c11, c12, c13, c14, c15, c16, c17, c0, c1, c2, kf⟩ := h.c
  have kf8 := kf 8
  have kf9 := kf 9
  clear h
  rw [h3] at c8
  go_enter Try.func10, Try.ntmps10
  go_wp2_with fail
  go_ret
  have ht : Turned [tb] w ((w.setCell ⟨tb, 8, none⟩ (.int .i64 3)).setCell ⟨tb, 9, none⟩ (.int .i64 t)) := ((Turned.refl _ _).setCell (by simp) _).setCell (by simp) _
  exact ⟨rfl, (H.out.store (σ' := { σ with st := 3, mv := t }) ht ((H.out.blk.set_ 8 _).set_ 9 _) rfl rfl rfl rfl rfl H.out.vx H.out.vy).tun, ht⟩
set_option maxHeartbeats 1000000 in
set_option maxRecDepth 100000 in
theorem opened_no (t : Int) (h : Tun w B tb σ G) (h3 : σ.st ≠ 2) : Calls Try.prog 10 #[.pointer (some ⟨tb, 0, none⟩), .int .i64 t] w fun e w' => e = .returned (.bool false) ∧ w = w' := by
  obtain ⟨us, ha, hi, ip, po, x, y, gu, gd, Ru, Rd, rfl, h⟩ := h
  have H := hid h
  obtain ⟨c8, c9, c10, c11, c12, c13, c14, c15, c16, c17, c0, c1, c2, kf⟩ := h.c
  clear h
  go_enter Try.func10, Try.ntmps10
  go_wp2_with fail
  go_ret
  exact ⟨rfl, rfl⟩
set_option maxHeartbeats 1000000 in
set_option maxRecDepth 100000 in
theorem eof_yes (h : Tun w B tb σ G) (h3 : σ.st = 3) (h1 : σ.came = false) : Calls Try.prog 22 #[.pointer (some ⟨tb, 0, none⟩)] w fun e w' => e = .returned (.bool true) ∧ Tun w' B tb { σ with came := true } G ∧ Turned [tb] w w' := by
  obtain ⟨us, ha, hi, ip, po, x, y, gu, gd, Ru, Rd, rfl, h⟩ := h
  have H := hid h
  obtain ⟨c8, c9, c10, c11, c12, c13, c14, c15, c16, c17, c0, c1, c2, kf⟩ := h.c
  have kf15 := kf 15
  clear h
  rw [h3] at c8
  rw [h1] at c15
  go_enter Try.func22, Try.ntmps22
  go_wp2_with fail
  go_ret
  have ht : Turned [tb] w (w.setCell ⟨tb, 15, none⟩ (.bool true)) := (Turned.refl _ _).setCell (by simp) _
  exact ⟨rfl, (H.out.store (σ' := { σ with came := true }) ht (H.out.blk.set_ 15 _) rfl rfl rfl rfl rfl H.out.vx H.out.vy).tun, ht⟩
set_option maxHeartbeats 1000000 in
set_option maxRecDepth 100000 in
theorem eof_no (h : Tun w B tb σ G) (hn : σ.st ≠ 3 ∨ σ.came = true) : Calls Try.prog 22 #[.pointer (some ⟨tb, 0, none⟩)] w fun e w' => e = .returned (.bool false) ∧ w = w' := by
  obtain ⟨us, ha, hi, ip, po, x, y, gu, gd, Ru, Rd, rfl, h⟩ := h
  have H := hid h
  obtain ⟨c8, c9, c10, c11, c12, c13, c14, c15, c16, c17, c0, c1, c2, kf⟩ := h.c
  clear h
  rcases h1 : σ.came with _ | _ <;> by_cases h3 : σ.st = 3
  all_goals first
    | (exfalso; rcases hn with h | h <;> first | (exact h h3) | (exact Bool.false_ne_true (h1.symm.trans h)))
    | skip
  all_goals
    rw [h1] at c15
    try rw [h3] at c8
    go_enter Try.func22, Try.ntmps22
    go_wp2_with fail
    go_ret
    exact ⟨rfl, rfl⟩
set_option maxHeartbeats 1000000 in
set_option maxRecDepth 100000 in
theorem del_no (A : Option Addr) (n c : Nat) (t : Int) (h : Tun w B tb σ G) (hn : σ.st ≠ 3 ∨ σ.came = true) : Calls Try.prog 16 #[.pointer (some ⟨tb, 0, none⟩), .slice A n c, .int .i64 t] w fun e w' => e = .returned (.int .i64 0) ∧ w = w' := by
  obtain ⟨us, ha, hi, ip, po, x, y, gu, gd, Ru, Rd, rfl, h⟩ := h
  have H := hid h
  obtain ⟨c8, c9, c10, c11, c12, c13, c14, c15, c16, c17, c0, c1, c2, kf⟩ := h.c
  clear h
  rcases h1 : σ.came with _ | _ <;> by_cases h3 : σ.st = 3
  all_goals first
    | (exfalso; rcases hn with h | h <;> first | (exact h h3) | (exact Bool.false_ne_true (h1.symm.trans h)))
    | skip
  all_goals
    rw [h1] at c15
    try rw [h3] at c8
    go_enter Try.func16, Try.ntmps16
    go_wp2_with fail
    go_ret
    exact ⟨rfl, rfl⟩
set_option maxHeartbeats 1000000 in
set_option maxRecDepth 100000 in
theorem del_yes (A : Option Addr) (n c : Nat) (l : List UInt8) (t : Int) (h : Tun w B tb σ G) (h3 : σ.st = 3) (h1 : σ.came = false) (hf : σ.Few) (hs : Bs w A n l) (hc : n ≤ c) (hn : n ≤ 35184372088832) (hB : B ≤ w.heap.size) :
    Calls Try.prog 16 #[.pointer (some ⟨tb, 0, none⟩), .slice A n c, .int .i64 t] w fun e w' => ∃ G', e = .returned (.int .i64 (putN n σ.bf σ.dn.length)) ∧ Tun w' B tb (delV σ l (putN n σ.bf σ.dn.length) t) G' ∧ TK G G' w w' := by
  obtain ⟨us, ha, hi, ip, po, x, y, gu, gd, Ru, Rd, rfl, h⟩ := h
  have H := hid h
  obtain ⟨c8, c9, c10, c11, c12, c13, c14, c15, c16, c17, c0, c1, c2, kf⟩ := h.c
  rw [h3] at c8
  rw [h1] at c15
  obtain ⟨f1, f2, f3, f4, f5, f6⟩ := hf
  have hl : l.length = n := by have := hs.1; simp at this; omega
  have HS := hid hs
  obtain ⟨i, o, p1, p2, p3, p4, hp⟩ := h.pd
  have hfit := hp.fits
  have HP := hid hp
  have hk := putN_le n σ.bf σ.dn.length
  generalize hkk : putN n σ.bf σ.dn.length = k at hk ⊢
  clear h hs hp
  go_enter Try.func16, Try.ntmps16
  go_wp2_with fail
  refine (pput A n c l HP.out HS.out hc (by omega) p1 (by omega) hB (by omega)).mono ?_
  rw [hkk]
  clear hkk
  rintro e w2 ⟨R', rfl, hp2, ht2, hR⟩
  have hpb : PB w2 B gd σ.bf (σ.dn ++ l.take k) σ.pd R' := by
    refine ⟨_, _, ?_, ?_, p3, p4, hp2⟩
    · omega
    · rw [List.length_append, List.length_take, hl, Nat.min_eq_left hk]
      omega
  have hsub : ∀ b ∈ gd :: Rd.toList, b = gd ∨ Rd = some b := fun b hb => by simpa using hb
  have h2 := H.out.dnP ht2 hsub hpb hR
  have H2 := hid h2
  have HT2 := hid ht2
  have HR := hid hR
  obtain ⟨c8, c9, c10, c11, c12, c13, c14, c15, c16, c17, c0, c1, c2, kf⟩ := h2.c
  have kf9 := kf 9
  clear h2 ht2 hR hp2 hpb hsub kf
  rcases Nat.eq_zero_or_pos k with hk0 | hk0
  · subst hk0
    go_wp2_with fail
    go_ret
    have e : delV σ l 0 t = { σ with dn := σ.dn ++ l.take 0, pd := σ.pd } := rfl
    rw [e]
    exact ⟨_, rfl, H2.out.tun, TKdn HT2.out (fun b hb => .inr (by simpa using hb)) HR.out⟩
  · have hk1 : (0 : Int) < k := by omega
    go_wp2_with fail
    go_ret
    have e : delV σ l k t = { σ with dn := σ.dn ++ l.take k, pd := σ.pd, mv := t } := by unfold delV; rw [if_pos hk0]
    rw [e]
    have ht : Turned [tb] w2 (w2.setCell ⟨tb, 9, none⟩ (.int .i64 t)) := (Turned.refl _ _).setCell (by simp) _
    refine ⟨_, rfl, (H2.out.store (σ' := { σ with dn := σ.dn ++ l.take k, pd := σ.pd, mv := t }) ht (H2.out.blk.set_ 9 _) rfl rfl rfl rfl rfl H2.out.vx H2.out.vy).tun, TKdn ((HT2.out.mono (G := tb :: gd :: Rd.toList) (fun b hb => List.mem_cons_of_mem _ hb)).trans (ht.mono (G := tb :: gd :: Rd.toList) (by simp)) (fun b hb => .inl hb)) (fun b hb => ?_) HR.out⟩
    simpa using hb
set_option maxHeartbeats 1000000 in
set_option maxRecDepth 100000 in
theorem write_no (m t : Int) (h : Tun w B tb σ G) (h3 : σ.st ≠ 3) : Calls Try.prog 12 #[.pointer (some ⟨tb, 0, none⟩), .int .i64 m, .int .i64 t] w fun e w' => e = .returned (.tuple #[.slice none 0 0, .bool false]) ∧ w = w' := by
  obtain ⟨us, ha, hi, ip, po, x, y, gu, gd, Ru, Rd, rfl, h⟩ := h
  have H := hid h
  obtain ⟨c8, c9, c10, c11, c12, c13, c14, c15, c16, c17, c0, c1, c2, kf⟩ := h.c
  clear h
  go_enter Try.func12, Try.ntmps12
  go_wp2_with fail
  go_ret2
  exact ⟨rfl, rfl⟩
/-- What Write leaves: k bytes go. -/
def WrPost (B tb : Nat) (σ : TV) (G : List Nat) (k : Nat) (t : Int) (w : World) (e : Ending) (w' : World) : Prop :=
  ∃ A' c' G', e = .returned (.tuple #[.slice A' k c', .bool (wrS σ k)]) ∧
      w'.ownsRow w.heap.size 5 1 (.slice A' k c') k ((σ.up.take k).map bv) ∧ Tun w' B tb (wrV σ k t) G' ∧ TK G G' w w' ∧
      (∀ b, (Value.slice A' k c').ownBlock = some b → b ∉ G')
set_option maxHeartbeats 1000000 in
set_option maxRecDepth 100000 in
theorem write_yes (m t : Int) (h : Tun w B tb σ G) (h3 : σ.st = 3) (hf : σ.Few) (hB : B ≤ w.heap.size) :
    Calls Try.prog 12 #[.pointer (some ⟨tb, 0, none⟩), .int .i64 m, .int .i64 t] w (WrPost B tb σ G (lookN m σ.up.length) t w) := by
  obtain ⟨us, ha, hi, ip, po, x, y, gu, gd, Ru, Rd, rfl, h⟩ := h
  have H := hid h
  obtain ⟨c8, c9, c10, c11, c12, c13, c14, c15, c16, c17, c0, c1, c2, kf⟩ := h.c
  rw [h3] at c8
  obtain ⟨f1, f2, f3, f4, f5, f6⟩ := hf
  obtain ⟨i, o, p1, p2, p3, p4, hp⟩ := h.pu
  have hfit := hp.fits
  have HP := hid hp
  have hk := lookN_le m σ.up.length
  have hlt := h.tun.lt
  have HLT := hid hlt
  generalize hkk : lookN m σ.up.length = k at hk ⊢
  clear h hp hlt
  go_enter Try.func12, Try.ntmps12
  go_upto_region 4 with (go_at_call 34; go_must (refine (ptake m HP.out (by omega) p3 (by omega) hB).mono ?_; rw [hkk]; clear hkk; rintro e w1 ⟨A1, n1, R', rfl, hown, hp2, ht2, hR, hRA⟩))
  have hpb : PB w1 B gu 65535 (σ.up.drop k) (σ.pu + k) R' := by
    refine ⟨_, _, p1, ?_, ?_, ?_, hp2⟩
    · rw [List.length_drop]
      omega
    · omega
    · omega
  have hsub : ∀ b ∈ [gu], b = gu ∨ Ru = some b := fun b hb => .inl (by simpa using hb)
  have h2 := H.out.upP ht2 hsub hpb (fun b hb => .inr (hR b hb))
  have hown1 : ∀ b, (Value.slice A1 k n1).ownBlock = some b → b ∉ GG tb gu gd R' Rd ∧ b < w1.heap.size := fun b hb => by
    have hge := (hown.lt b hb)
    refine ⟨fun hm => ?_, hge.2⟩
    rcases mem_GG.1 hm with e | e | e | e | e
    · have := (HLT.out.2.2.2 b (mem_GG.2 (.inl e))).2
      omega
    · have := (HLT.out.2.2.2 b (mem_GG.2 (.inr (.inl e)))).2
      omega
    · have := (HLT.out.2.2.2 b (mem_GG.2 (.inr (.inr (.inl e))))).2
      omega
    · exact hRA b e hb
    · have := (HLT.out.2.2.2 b (mem_GG.2 (.inr (.inr (.inr (.inr e)))))).2
      omega
  have htk : TK (GG tb gu gd Ru Rd) (GG tb gu gd R' Rd) w w1 := TKup ht2 (fun b hb => .inr (hsub b hb)) (fun b hb => .inr (hR b hb))
  have H2 := hid h2.tun
  have HO := hid hown
  have HN := hid hown1
  have HTK := hid htk
  clear h2 htk hown hown1 hpb hsub hR hRA ht2 hp2 HP HLT
  go_upto_region 5 with (go_at_call 35; go_must (refine (mov_any k 0 t H2.out f3 f4 (by omega) (by omega)).mono ?_; rintro e w2 ⟨rfl, h3, ht3⟩))
  have HT3 := hid ht3
  have hlk : ((σ.up.drop k).length : Int) = σ.up.length - k := by rw [List.length_drop]; omega
  obtain ⟨us, ha, hi, ip, po, x, y, gu2, gd2, Ru2, Rd2, hG, h3⟩ := h3
  obtain ⟨c8, c9, c10, c11, c12, c13, c14, c15, c16, c17, c0, c1, c2, kf⟩ := h3.c
  have kf14 := kf 14
  obtain ⟨i2, o2, q1, q2, q3, q4, hp3⟩ := h3.pu
  rw [movV_ended] at c13
  rw [movV_shut] at c14
  rw [movV_up] at hp3
  have e13 : ({ σ with up := σ.up.drop k, pu := σ.pu + k } : TV).ended = σ.ended := rfl
  have e14 : ({ σ with up := σ.up.drop k, pu := σ.pu + k } : TV).shut = σ.shut := rfl
  have e15 : ({ σ with up := σ.up.drop k, pu := σ.pu + k } : TV).up = σ.up.drop k := rfl
  rw [e13] at c13
  rw [e14] at c14
  rw [e15] at hp3
  have HP := hid hp3
  have H3 := hid h3
  have HG := hid hG
  clear h3 ht3 hp3 hG q1 q2 q3 q4 e13 e14 e15 kf p1 p2 p3 p4
  have key : ∀ (b s : Bool), σ.ended = b → σ.shut = s → wrS σ k = ((b && decide (σ.up.length = k)) && !s) := by
    rintro b s rfl rfl
    rfl
  have fin : ∀ (v : Bool) (A : World), Turned [tb] w2 A → Blk A tb 57 (tunC { movV { σ with up := σ.up.drop k, pu := σ.pu + k } k 0 t with shut := v } us ha hi ip po x y gu2 gd2) → v = (σ.shut || wrS σ k) →
      A.ownsRow w.heap.size 5 1 (.slice A1 k n1) k ((σ.up.take k).map bv) ∧ Tun A B tb (wrV σ k t) (GG tb gu2 gd2 Ru2 Rd2) ∧ TK (GG tb gu gd Ru Rd) (GG tb gu2 gd2 Ru2 Rd2) w A ∧
      (∀ b, (Value.slice A1 k n1).ownBlock = some b → b ∉ GG tb gu2 gd2 Ru2 Rd2) := by
    intro v A ht hblk hv
    have htt : Turned [tb] w1 A := HT3.out.trans ht (by simp)
    refine ⟨own_turned HO.out htt (fun b hb hm => ?_), ?_, ?_, fun b hb => ?_⟩
    · have := (HN.out b hb).1
      exact this (mem_GG.2 (.inl (by simpa using hm)))
    · have e : wrV σ k t = { movV { σ with up := σ.up.drop k, pu := σ.pu + k } k 0 t with shut := v } := by rw [hv]; rfl
      rw [e]
      exact (H3.out.store (σ' := { movV { σ with up := σ.up.drop k, pu := σ.pu + k } k 0 t with shut := v }) ht hblk rfl rfl rfl rfl rfl H3.out.vx H3.out.vy).tun
    · rw [← HG.out]
      exact HTK.out.trans (TK.mono htt (fun b hb => mem_GG.2 (.inl (by simpa using hb))))
    · rw [← HG.out]
      exact (HN.out b hb).1
  have HKEY := hid key
  have HFIN := hid fin
  clear key fin HO HN HTK HG H2
  have hE : ∀ b, Hid (σ.ended = b) → True := fun _ _ => trivial
  rcases he : σ.ended with _ | _ <;> rcases hsh : σ.shut with _ | _ <;> by_cases hlen : σ.up.length = k
  all_goals
    have HE := hid (And.intro he hsh)
    rw [he] at c13
    rw [hsh] at c14
    clear he hsh hE
    go_wp2_with (go_at_call 36; go_must (refine (plen HP.out).mono ?_; rw [hlk]; rintro e w3 ⟨rfl, rfl⟩))
    go_ret2
    have kw := HKEY.out _ _ HE.out.1 HE.out.2
    first | rw [decide_eq_true hlen] at kw | rw [decide_eq_false hlen] at kw
    simp only [Bool.false_and, Bool.true_and, Bool.and_false, Bool.and_true, Bool.not_true, Bool.not_false] at kw
    unfold WrPost
    rw [kw]
    first
      | exact ⟨A1, n1, GG tb gu2 gd2 Ru2 Rd2, rfl, HFIN.out true _ ((Turned.refl _ _).setCell (by simp) _) (H3.out.blk.set_ 14 (.bool true)) (by rw [HE.out.2, kw]; rfl)⟩
      | exact ⟨A1, n1, GG tb gu2 gd2 Ru2 Rd2, rfl, HFIN.out false _ ((Turned.refl _ _).setCell (by simp) _) (H3.out.blk.set_ 14 (.bool false)) (by rw [HE.out.2, kw]; rfl)⟩
end
end Go.Proofs.Ytefhadfcipifmaa
