/- The law TunnelEnds walked. -/
import Derived.Test.YtefhadfcipifmaaTunI
namespace Go.Proofs.Ytefhadfcipifmaa
open Go.RowKit
attribute [local go_sem] kd kdS

/-- What the tunnel holds: s: the way up is shut, t: the end was sent down. -/
def eV (l1 l2 : List UInt8) (ca s t : Bool) : TV := ⟨1, 1, 1, 0, 100, 3, true, s, ca, t, if s = true then [] else l1, if t = true then [] else l2, if s = true then l1.length else 0, if t = true then l2.length else 0, if s = true then l1.length else 0, if t = true then l2.length else 0⟩
theorem eV_few {l1 l2 : List UInt8} {ca s t : Bool} (h1 : l1.length ≤ 100) (h2 : l2.length ≤ 100) : (eV l1 l2 ca s t).Few :=
  few_at (by split <;> omega) (by split <;> omega) (by split <;> omega) (by split <;> omega) (by decide) (by decide)
theorem eV_wr {l1 l2 : List UInt8} {t : Bool} : wrV (eV l1 l2 true false t) l1.length 0 = eV l1 l2 true true t := by
  unfold wrV movV
  by_cases h : l1.length + 0 = 0
  · have : l1 = [] := List.eq_nil_of_length_eq_zero (by omega)
    subst this
    rfl
  · rw [if_neg h]
    simp [eV, wrS]
theorem eV_wr0 {l1 l2 : List UInt8} {t : Bool} : wrV (eV l1 l2 true true t) 0 0 = eV l1 l2 true true t := by
  unfold wrV movV
  simp [eV, wrS]
theorem eV_sn {l1 l2 : List UInt8} {s : Bool} : sentV (eV l1 l2 true s false) l2.length true 0 = eV l1 l2 true s true := by
  unfold sentV movV
  by_cases h : 0 + l2.length = 0
  · have : l2 = [] := List.eq_nil_of_length_eq_zero (by omega)
    subst this
    rfl
  · rw [if_neg h]
    simp [eV]
theorem look_all {n : Nat} (h : n ≤ 100) : lookN 1000 n = n := by unfold lookN; omega

section
variable {w w1 : World} {tb : Nat} {l1 l2 : List UInt8} {s t : Bool} {K : List Nat}
theorem ev_write (h : TI w w1 tb (eV l1 l2 true false t) []) (h1 : l1.length ≤ 100) (h2 : l2.length ≤ 100) :
    Calls Try.prog 12 #[.pointer (some ⟨tb, 0, none⟩), .int .i64 1000, .int .i64 0] w1 fun e w' => ∃ A' c', e = .returned (.tuple #[.slice A' l1.length c', .bool true]) ∧ w'.ownsRow w1.heap.size 5 1 (.slice A' l1.length c') l1.length (l1.map bv) ∧ TI w w' tb (eV l1 l2 true true t) (Value.slice A' l1.length c').ownBlock.toList := by
  refine (ti_write 1000 0 h rfl (eV_few h1 h2)).mono ?_
  have e1 : (eV l1 l2 true false t).up = l1 := rfl
  rw [e1, look_all h1, eV_wr]
  have e2 : wrS (eV l1 l2 true false t) l1.length = true := by simp [wrS, eV]
  rw [e2]
  rintro e w' ⟨A', c', rfl, ho, ht, _⟩
  rw [List.take_length] at ho
  exact ⟨A', c', rfl, ho, ht.mono (by simp)⟩
theorem ev_write0 (h : TI w w1 tb (eV l1 l2 true true t) K) (h1 : l1.length ≤ 100) (h2 : l2.length ≤ 100) :
    Calls Try.prog 12 #[.pointer (some ⟨tb, 0, none⟩), .int .i64 1000, .int .i64 0] w1 fun e w' => ∃ A' c', e = .returned (.tuple #[.slice A' 0 c', .bool false]) ∧ TI w w' tb (eV l1 l2 true true t) K ∧ Kept K w1 w' := by
  refine (ti_write 1000 0 h rfl (eV_few h1 h2)).mono ?_
  have e1 : (eV l1 l2 true true t).up = [] := rfl
  have e3 : lookN 1000 ([] : List UInt8).length = 0 := by rfl
  rw [e1, e3, eV_wr0]
  have e2 : wrS (eV l1 l2 true true t) 0 = false := by simp [wrS, eV]
  rw [e2]
  rintro e w' ⟨A', c', rfl, ho, ht, hk⟩
  exact ⟨A', c', rfl, ht.mono (fun b hb => List.mem_append_right _ hb), hk⟩
theorem ev_ready (h : TI w w1 tb (eV l1 l2 true s false) []) (h1 : l1.length ≤ 100) (h2 : l2.length ≤ 100) :
    Calls Try.prog 23 #[.pointer (some ⟨tb, 0, none⟩), .int .i64 1000] w1 fun e w' => ∃ A' c', e = .returned (.tuple #[.slice A' l2.length c', .bool true, .bool true]) ∧ w'.ownsRow w1.heap.size 5 1 (.slice A' l2.length c') l2.length (l2.map bv) ∧ TI w w' tb (eV l1 l2 true s false) [] := by
  refine (ti_ready 1000 h rfl (eV_few h1 h2)).mono ?_
  have e1 : (eV l1 l2 true s false).dn = l2 := rfl
  rw [e1, look_all h2]
  have e2 : rdE (eV l1 l2 true s false) l2.length = true := by simp [rdE, eV]
  have e3 : rdS (eV l1 l2 true s false) = true := by simp [rdS, eV]
  rw [e2, e3]
  rintro e w' ⟨A', c', rfl, ho, ht, _⟩
  rw [List.take_length] at ho
  exact ⟨A', c', rfl, ho, ht.mono (by simp)⟩
theorem ev_ready0 (h : TI w w1 tb (eV l1 l2 true s true) []) (h1 : l1.length ≤ 100) (h2 : l2.length ≤ 100) :
    Calls Try.prog 23 #[.pointer (some ⟨tb, 0, none⟩), .int .i64 1000] w1 fun e w' => ∃ A' c' b, e = .returned (.tuple #[.slice A' 0 c', .bool b, .bool false]) ∧ TI w w' tb (eV l1 l2 true s true) [] := by
  refine (ti_ready 1000 h rfl (eV_few h1 h2)).mono ?_
  have e1 : (eV l1 l2 true s true).dn = [] := rfl
  have e4 : lookN 1000 ([] : List UInt8).length = 0 := by rfl
  rw [e1, e4]
  have e3 : rdS (eV l1 l2 true s true) = false := by simp [rdS, eV]
  rw [e3]
  rintro e w' ⟨A', c', rfl, ho, ht, _⟩
  exact ⟨A', c', _, rfl, ht.mono (by simp)⟩
theorem ev_sent (h : TI w w1 tb (eV l1 l2 true s false) []) (h1 : l1.length ≤ 100) (h2 : l2.length ≤ 100) :
    Calls Try.prog 17 #[.pointer (some ⟨tb, 0, none⟩), .int .i64 l2.length, .bool true, .int .i64 0] w1 fun e w' => e = .returned (.tuple #[]) ∧ TI w w' tb (eV l1 l2 true s true) [] := by
  refine (ti_sent l2.length 0 true h (eV_few h1 h2)).mono ?_
  have e1 : (eV l1 l2 true s false).dn = l2 := rfl
  have e4 : lookN (l2.length : Int) l2.length = l2.length := by unfold lookN; omega
  rw [e1, e4, eV_sn]
  rintro e w' ⟨rfl, ht, _⟩
  exact ⟨rfl, ht⟩
theorem ev_ended {ca : Bool} (h : TI w w1 tb (eV l1 l2 ca s t) K) : Calls Try.prog 20 #[.pointer (some ⟨tb, 0, none⟩)] w1 fun e w' => e = .returned (.bool true) ∧ w1 = w' := ti_ended h
theorem ev_done {ca : Bool} (h : TI w w1 tb (eV l1 l2 ca s t) K) : Calls Try.prog 21 #[.pointer (some ⟨tb, 0, none⟩)] w1 fun e w' => e = .returned (.bool (s && t)) ∧ w1 = w' := by
  refine (ti_done h).mono ?_
  have e : (decide ((eV l1 l2 ca s t).st = 3) && (eV l1 l2 ca s t).shut && (eV l1 l2 ca s t).sent) = (s && t) := by simp [eV]
  rw [e]
  exact fun e w' h => h
end

set_option maxHeartbeats 40000000 in
set_option maxRecDepth 100000 in
theorem tends_walk (A1 : Option Addr) (n1 c1 : Nat) (l1 : List UInt8) (A2 : Option Addr) (n2 c2 : Nat) (l2 : List UInt8) (f1 : Bool) (w : World) (hs1 : Bs w A1 n1 l1) (hc1 : n1 ≤ c1) (hs2 : Bs w A2 n2 l2) (hc2 : n2 ≤ c2) :
    Calls Try.prog 5 #[.slice A1 n1 c1, .slice A2 n2 c2, .bool f1] w fun e w' => e = .returned (.bool true) ∧ Below w.heap.size w w' := by
  obtain rfl : l1.length = n1 := hs1.len
  obtain rfl : l2.length = n2 := hs2.len
  have HS1 := hid hs1
  have HS2 := hid hs2
  clear hs1 hs2
  by_cases hbad : 100 < l1.length ∨ 100 < l2.length
  · go_enter Try.func5, Try.ntmps5
    go_wp2_with fail
    refine (first_any w).mono ?_
    rintro e w1 ⟨rfl, hb1⟩
    have HB1 := hid hb1
    clear hb1
    go_wp2_with (go_at_call 7; (with_reducible refine (first_any _).mono ?_); rintro e w2 ⟨rfl, hb2⟩; have HB2 := hid hb2; clear hb2)
    all_goals first | (exfalso; omega) | skip
    all_goals
      go_ret
      exact ⟨rfl, HB1.out.trans (HB2.out.mono HB1.out.size)⟩
  · have hn1 : l1.length ≤ 100 := by omega
    have hn2 : l2.length ≤ 100 := by omega
    clear hbad
    go_enter Try.func5, Try.ntmps5
    go_wp2_with fail
    refine (first_any w).mono ?_
    rintro e w1 ⟨rfl, hb1⟩
    have HB1 := hid hb1
    clear hb1
    go_wp2_with fail
    go_must (refine (ti_new 1 1 1 0 _ _ _ 80 100 HB1.out (by decide)).mono ?_)
    rintro e w2 ⟨tb, rfl, ht⟩
    have HT2 := hid ht
    clear ht
    go_wp2_with fail
    go_must (refine (ti_acc A1 l1.length c1 l1 true HT2.out (show (1 : Int) ≠ 4 by decide) rfl (few_at (by decide) (by decide) (by decide) (by decide) (by decide) (by decide)) (bs_low HS1.out HT2.out.low HT2.out.tb_ge.1) hc1 (by omega)).mono ?_)
    have hp1 : putN l1.length 65535 ([] : List UInt8).length = l1.length := by
      have : ([] : List UInt8).length = 0 := rfl
      unfold putN
      rw [this]
      omega
    rw [show (TV.mk 1 1 1 0 100 1 false false false false [] [] 0 0 0 0).up = [] from rfl, hp1]
    rintro e w3 ⟨rfl, ht, _⟩
    rw [show accV (TV.mk 1 1 1 0 100 1 false false false false [] [] 0 0 0 0) l1 true l1.length = TV.mk 1 1 1 0 100 1 true false false false l1 [] 0 0 0 0 from by unfold accV; rw [List.take_length]; rfl] at ht
    have HT3 := hid ht
    clear ht HT2
    go_wp2_with fail
    go_must (refine (ti_dial _ 0 HT3.out rfl).mono ?_)
    rintro e w4 ⟨rfl, ht, _⟩
    have HT4 := hid ht
    clear ht HT3
    go_wp2_with fail
    go_must (refine (ti_opened 0 HT4.out rfl).mono ?_)
    rintro e w5 ⟨rfl, ht, _⟩
    have HT5 := hid (show TI w w5 tb ⟨1, 1, 1, 0, 100, 3, true, false, false, false, l1, [], 0, 0, 0, 0⟩ [] from ht)
    clear ht HT4
    go_wp2_with fail
    go_must (refine (ti_del A2 l2.length c2 l2 0 HT5.out rfl rfl (few_at (by decide) (by decide) (by decide) (by decide) (by decide) (by decide)) (HS2.out.below (HT5.out.low.mono (Nat.le_refl _))) hc2 (by omega)).mono ?_)
    have hp2 : putN l2.length 100 ([] : List UInt8).length = l2.length := by
      have : ([] : List UInt8).length = 0 := rfl
      unfold putN
      rw [this]
      omega
    rw [show (TV.mk 1 1 1 0 100 3 true false false false l1 [] 0 0 0 0).dn = [] from rfl, show (TV.mk 1 1 1 0 100 3 true false false false l1 [] 0 0 0 0).bf = 100 from rfl, hp2]
    rintro e w6 ⟨rfl, ht, _⟩
    rw [show delV (TV.mk 1 1 1 0 100 3 true false false false l1 [] 0 0 0 0) l2 l2.length 0 = eV l1 l2 false false false from by unfold delV; rw [List.take_length, ite_self]; rfl] at ht
    have HT6 := hid ht
    clear ht HT5
    go_wp2_with fail
    go_must (refine (ev_ended HT6.out).mono ?_)
    rintro e w7 ⟨rfl, rfl⟩
    go_wp2_with fail
    go_must (refine (ev_done HT6.out).mono ?_)
    rintro e w7 ⟨rfl, rfl⟩
    go_wp2_with fail
    go_must (refine (ti_eof HT6.out rfl rfl).mono ?_)
    rintro e w7 ⟨rfl, ht, _⟩
    have HT7 := hid (show TI w w7 tb (eV l1 l2 true false false) [] from ht)
    clear ht HT6
    go_wp2_with fail
    go_must (refine (ti_eof0 HT7.out (.inr rfl)).mono ?_)
    rintro e w8 ⟨rfl, rfl⟩
    go_wp2_with fail
    have HT8 := hid (HT7.out.below ((Below.refl _ _).alloc (Nat.le_refl _) (.cells #[.int .u8 1] 5)))
    go_must (refine (ti_acc0 _ 1 1 false HT8.out (.inr rfl)).mono ?_)
    rintro e w8 ⟨rfl, rfl⟩
    go_wp2_with fail
    have HT9 := hid (HT8.out.below ((Below.refl _ _).alloc (Nat.le_refl _) (.cells #[.int .u8 1] 5)))
    go_must (refine (ti_del0 _ 1 1 0 HT9.out (.inr rfl)).mono ?_)
    rintro e w8 ⟨rfl, rfl⟩
    go_upto_region 14 with fail
    generalize ((w7.alloc (.cells #[.int .u8 1] 5)).alloc (.cells #[.int .u8 1] 5)) = w8 at HT9 ⊢
    clear HT7 HT8
    go_wp2_with fail
    go_loopw [8] (fun i wr => ∃ (s t : Bool), TI w wr tb (eV l1 l2 true s t) [] ∧ ((i = .int .i64 0 ∧ s = false ∧ t = false) ∨ (i = .int .i64 1 ∧ s = f1 ∧ t = !f1) ∨ (i = .int .i64 2 ∧ s = true ∧ t = true))) (fun i _ => 3 - (intOf i).toNat)
    case atStart => exact ⟨false, false, HT9.out, .inl ⟨rfl, rfl, rfl⟩⟩
    case round =>
      obtain ⟨s, t, hT, hc⟩ := hrel
      have HT := hid hT
      clear hT HT9
      rcases hc with ⟨rfl, rfl, rfl⟩ | ⟨rfl, rfl, rfl⟩ | ⟨rfl, rfl, rfl⟩
      · rcases f1 with _ | _
        · skip
          go_wp2_with fail
          go_must (refine (ev_ready HT.out hn1 hn2).mono ?_)
          rintro e w11 ⟨A3, c3, rfl, ho, ht⟩
          have HO := hid ho
          have HT11 := hid ht
          clear ho ht HT
          go_wp2_with fail
          refine (same_bytes _ _ l2.length _ l2.length _ l2 l2 _ (Bs.of_own HO.out) (HS2.out.below (HT11.out.low.mono (Nat.le_refl _)))).mono ?_
          rw [beq_self_eq_true]
          rintro e w13 ⟨rfl, rfl⟩
          go_wp2_with fail
          go_must (refine (ev_sent HT11.out hn1 hn2).mono ?_)
          rintro e w12 ⟨rfl, ht⟩
          have HT12 := hid ht
          clear ht HT11 HO
          go_wp2_with fail
          go_must (refine (ev_ready0 HT12.out hn1 hn2).mono ?_)
          rintro e w13 ⟨A4, c4, b4, rfl, ht⟩
          have HT13 := hid ht
          clear ht HT12
          go_wp2_with fail
          go_must (refine (ev_done HT13.out).mono ?_)
          rintro e w14 ⟨rfl, rfl⟩
          go_wp2_with fail
          go_roundw
          case rel => exact ⟨false, true, HT13.out, .inr (.inl ⟨rfl, rfl, rfl⟩)⟩
          case measure => simp [intOf]
        · skip
          go_wp2_with fail
          go_must (refine (ev_write HT.out hn1 hn2).mono ?_)
          rintro e w11 ⟨A3, c3, rfl, ho, ht⟩
          have HO := hid ho
          have HT11 := hid ht
          clear ho ht HT
          go_wp2_with fail
          go_must (refine (ev_write0 HT11.out hn1 hn2).mono ?_)
          rintro e w12 ⟨A4, c4, rfl, ht, hk⟩
          have HO2 := hid (hk.own HO.out (fun b hb => by simp [hb]))
          have HT12 := hid (ht.mono (K' := []) (by simp))
          clear ht hk HO HT11
          go_wp2_with fail
          refine (same_bytes _ _ l1.length _ l1.length _ l1 l1 _ (Bs.of_own HO2.out) (HS1.out.below (HT12.out.low.mono (Nat.le_refl _)))).mono ?_
          rw [beq_self_eq_true]
          rintro e w13 ⟨rfl, rfl⟩
          go_wp2_with fail
          go_must (refine (ev_done HT12.out).mono ?_)
          rintro e w13 ⟨rfl, rfl⟩
          go_wp2_with fail
          go_roundw
          case rel => exact ⟨true, false, HT12.out, .inr (.inl ⟨rfl, rfl, rfl⟩)⟩
          case measure => simp [intOf]
      · rcases s with _ | _
        · skip
          go_wp2_with fail
          go_must (refine (ev_write HT.out hn1 hn2).mono ?_)
          rintro e w11 ⟨A3, c3, rfl, ho, ht⟩
          have HO := hid ho
          have HT11 := hid ht
          clear ho ht HT
          go_wp2_with fail
          go_must (refine (ev_write0 HT11.out hn1 hn2).mono ?_)
          rintro e w12 ⟨A4, c4, rfl, ht, hk⟩
          have HO2 := hid (hk.own HO.out (fun b hb => by simp [hb]))
          have HT12 := hid (ht.mono (K' := []) (by simp))
          clear ht hk HO HT11
          go_wp2_with fail
          refine (same_bytes _ _ l1.length _ l1.length _ l1 l1 _ (Bs.of_own HO2.out) (HS1.out.below (HT12.out.low.mono (Nat.le_refl _)))).mono ?_
          rw [beq_self_eq_true]
          rintro e w13 ⟨rfl, rfl⟩
          go_wp2_with fail
          go_must (refine (ev_done HT12.out).mono ?_)
          rintro e w13 ⟨rfl, rfl⟩
          go_wp2_with fail
          go_roundw
          case rel => exact ⟨true, true, HT12.out, .inr (.inr ⟨rfl, rfl, rfl⟩)⟩
          case measure => simp [intOf]
        · skip
          go_wp2_with fail
          go_must (refine (ev_ready HT.out hn1 hn2).mono ?_)
          rintro e w11 ⟨A3, c3, rfl, ho, ht⟩
          have HO := hid ho
          have HT11 := hid ht
          clear ho ht HT
          go_wp2_with fail
          refine (same_bytes _ _ l2.length _ l2.length _ l2 l2 _ (Bs.of_own HO.out) (HS2.out.below (HT11.out.low.mono (Nat.le_refl _)))).mono ?_
          rw [beq_self_eq_true]
          rintro e w13 ⟨rfl, rfl⟩
          go_wp2_with fail
          go_must (refine (ev_sent HT11.out hn1 hn2).mono ?_)
          rintro e w12 ⟨rfl, ht⟩
          have HT12 := hid ht
          clear ht HT11 HO
          go_wp2_with fail
          go_must (refine (ev_ready0 HT12.out hn1 hn2).mono ?_)
          rintro e w13 ⟨A4, c4, b4, rfl, ht⟩
          have HT13 := hid ht
          clear ht HT12
          go_wp2_with fail
          go_must (refine (ev_done HT13.out).mono ?_)
          rintro e w14 ⟨rfl, rfl⟩
          go_wp2_with fail
          go_roundw
          case rel => exact ⟨true, true, HT13.out, .inr (.inr ⟨rfl, rfl, rfl⟩)⟩
          case measure => simp [intOf]
      · skip
        go_wp2_with fail
        refine (first_any _).mono ?_
        rintro e w11 ⟨rfl, hb⟩
        have HT11 := hid (HT.out.below hb)
        clear hb HT
        go_wp2_with fail
        go_must (refine (ti_count HT11.out).mono ?_)
        rintro e w12 ⟨x, y, rfl, vx, vy, rfl⟩
        have hv := isB_yes vx vy (show l1.length ≤ _ by omega) (show l2.length ≤ _ by omega)
        have hu1 : (upN x y : Int) = l1.length := by rw [hv.2.1]; rfl
        have hd1 : (downN x y : Int) = l2.length := by rw [hv.2.2]; rfl
        clear vx vy hv
        go_wp2_with fail
        refine (up_any x y _).mono ?_
        rw [hu1]
        rintro e w12 ⟨rfl, rfl⟩
        go_wp2_with fail
        go_must (refine (ti_count HT11.out).mono ?_)
        rintro e w12 ⟨x2, y2, rfl, vx, vy, rfl⟩
        have hv := isB_yes vx vy (show l1.length ≤ _ by omega) (show l2.length ≤ _ by omega)
        have hd1 : (downN x2 y2 : Int) = l2.length := by rw [hv.2.2]; rfl
        clear vx vy hv
        go_wp2_with fail
        refine (down_any x2 y2 _).mono ?_
        rw [hd1]
        rintro e w12 ⟨rfl, rfl⟩
        go_wp2_with fail
        go_must (refine (ti_held HT11.out (eV_few hn1 hn2)).mono ?_)
        rw [show ((eV l1 l2 true true true).up.length : Int) + ((eV l1 l2 true true true).dn.length : Int) = 0 from rfl]
        rintro e w12 ⟨rfl, hb⟩
        have HT12 := hid (HT11.out.below hb)
        clear hb
        go_wp2_with fail
        go_ret
        exact ⟨rfl, HT12.out.low⟩
end Go.Proofs.Ytefhadfcipifmaa
