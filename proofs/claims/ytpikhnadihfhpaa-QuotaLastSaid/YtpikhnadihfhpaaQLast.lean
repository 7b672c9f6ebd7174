/- The law QuotaLast walked. No condition. -/
import Derived.Test.YtpikhnadihfhpaaQNew
import Derived.Test.YtpikhnadihfhpaaQuota
namespace Go.Proofs.Ytpikhnadihfhpaa
open Go.RowKit
attribute [local go_sem] kd kdS
attribute [local go_sem ↓] sliced_word
attribute [local go_sem] offA_zero

/-- Two complex numbers that stand for the same. -/
theorem run_ceq {x y u v n m : Nat} (hx : V x n) (hy : V y m) (hu : V u n) (hv : V v m) (t : TypeId) (w : World) : (binOp .eql t (.complex .f64 x y) (.complex .f64 u v)).run Try.prog w = .ok (.bool true) w := by
  have o1 := V_order hx hu
  have o2 := V_order hy hv
  have c : ∀ k : Nat, compare k k = Ordering.eq := fun k => by simp
  rw [c] at o1 o2
  simp [binOp, Op.complexOp, Op.Complex.cmp, Op.floatCmp, asBool, o1, o2]

theorem V5 : V 4617315517961601024 5 := by
  have h := V_fw (n := 5) (by decide)
  rw [show fw 5 = 4617315517961601024 by kernel_rfl] at h
  exact h
theorem V1 : V 4607182418800017408 1 := by
  have h := V_fw (n := 1) (by decide)
  rw [show fw 1 = 4607182418800017408 by kernel_rfl] at h
  exact h

set_option maxHeartbeats 1000000 in
set_option maxRecDepth 100000 in
theorem first_any (w : World) : Calls Try.prog 4 #[] w fun e w' => e = .returned (.bool true) ∧ Below w.heap.size w w' := by
  go_enter Try.func4, Try.ntmps4
  go_wp2_with fail
  have hA := Blk.new w 3 #[.int .i64 2]
  have hB := Blk.new (w.alloc (.cells #[.int .i64 2] 3)) 23 #[.complex .f64 4617315517961601024 0]
  have hb0 : Below w.heap.size w ((w.alloc (.cells #[.int .i64 2] 3)).alloc (.cells #[.complex .f64 4617315517961601024 0] 23)) := ((Below.refl _ _).alloc (Nat.le_refl _) _).alloc (by simp) _
  have e1 : (w.alloc (.cells #[.int .i64 2] 3)).heap.size = w.heap.size + 1 := by simp
  rw [e1] at hB
  refine (users_one w.heap.size (w.heap.size + 1) 2 4617315517961601024 0 _ ((hA.alloc _).cell 0) (hB.cell 0)).mono ?_
  rintro e w1 ⟨u, c, rfl, hu, hb1⟩
  have HU := hid hu
  have HB1 := hid (hb0.trans (hb1.mono hb0.size))
  clear hA hB hb0 e1 hu hb1
  go_wp2_with fail
  refine (new_book u c 2 _ _ _ _ w1 HU.out V5 V_zero).mono ?_
  rintro e w2 ⟨g, rfl, hq, hb2⟩
  have HQ := hid hq
  have HB2 := hid (HB1.out.trans (hb2.mono HB1.out.size))
  clear hq hb2 HB1 HU
  go_wp2_with fail
  refine (take_full _ rfl HQ.out (by omega) (by omega) (by omega) (by omega) (.inr (.inr rfl))).mono ?_
  rintro e w3 ⟨rfl, hb3⟩
  have HQ3 := hid (HQ.out.below hb3)
  have HB3 := hid (HB2.out.trans (hb3.mono HB2.out.size))
  clear hb3 HQ HB2
  go_wp2_with fail
  refine (take_none _ (by decide) HQ3.out).mono ?_
  rintro e w4 ⟨rfl, rfl⟩
  go_wp2_with fail
  refine (left_book _ rfl HQ3.out (by omega) (by omega) (by omega) (by omega)).mono ?_
  rintro e w5 ⟨r1, r2, rfl, v1, v2, hb5⟩
  have hc := run_ceq v1 v2 V5 V_zero
  have HB5 := hid (HB3.out.trans (hb5.mono HB3.out.size))
  clear v1 v2 hb5
  go_wp2_with fail
  go_ret
  exact ⟨rfl, HB5.out⟩

theorem QB.rebase {w : World} {B B' g : Nat} {T o : Int} {mu md a b : Nat} (h : QB w B g T o mu md a b) (hB : B' ≤ B) : QB w B' g T o mu md a b := by
  obtain ⟨m, p, mx, my, ux, uy, h⟩ := h
  exact ⟨m, p, mx, my, ux, uy, h.bk, h.mp, h.pg, h.vmx, h.vmy, h.vux, h.vuy, Nat.le_trans hB h.bg, Nat.le_trans hB h.bm, Nat.le_trans hB h.bp⟩

set_option maxHeartbeats 4000000 in
set_option maxRecDepth 100000 in
theorem last_walk (T up down : Int) (w : World) :
    Calls Try.prog 3 #[.int .i64 T, .int .i64 up, .int .i64 down] w fun e w' => e = .returned (.bool true) ∧ Below w.heap.size w w' := by
  by_cases hr : 0 ≤ up ∧ up ≤ 1125899906842624 ∧ 0 ≤ down ∧ down ≤ 1125899906842624
  · obtain ⟨n, rfl⟩ : ∃ n : Nat, up = n := ⟨up.toNat, by omega⟩
    obtain ⟨m, rfl⟩ : ∃ n : Nat, down = n := ⟨down.toNat, by omega⟩
    have hn : n ≤ 1125899906842624 := by omega
    have hm : m ≤ 1125899906842624 := by omega
    clear hr
    have b2 : (2 : Nat) ^ 53 = 9007199254740992 := by decide
    have VN := hid (V_fw (n := n) (by omega))
    have VM := hid (V_fw (n := m) (by omega))
    have VO := hid (V_fw (n := 0) (by omega))
    have VI := hid (V_fw (n := 1) (by omega))
    clear b2
    by_cases hbad : T < 1 ∨ 20 < T ∨ n < 1 ∨ m < 1
    · go_enter Try.func3, Try.ntmps3
      go_wp2_with fail
      refine (first_any w).mono ?_
      rintro e w1 ⟨rfl, hb1⟩
      have HB1 := hid hb1
      clear hb1
      go_wp2_with fail
      refine (pair_yes n m _ hn hm).mono ?_
      rintro e w2 ⟨rfl, rfl⟩
      go_wp2_with (go_at_call 4; (with_reducible refine (first_any _).mono ?_); rintro e w2 ⟨rfl, hb2⟩; have HB2 := hid hb2; clear hb2)
      all_goals first | (exfalso; omega) | skip
      all_goals
        go_ret
        exact ⟨rfl, HB1.out.trans (HB2.out.mono HB1.out.size)⟩
    · have hT1 : 1 ≤ T := by omega
      have hT2 : T ≤ 20 := by omega
      have hn1 : 1 ≤ n := by omega
      have hm1 : 1 ≤ m := by omega
      obtain ⟨t, rfl⟩ : ∃ t : Nat, T = t := ⟨T.toNat, by omega⟩
      clear hbad
      go_enter Try.func3, Try.ntmps3
      go_wp2_with fail
      refine (first_any w).mono ?_
      rintro e w1 ⟨rfl, hb1⟩
      have HB1 := hid hb1
      clear hb1
      go_wp2_with fail
      refine (pair_yes n m _ hn hm).mono ?_
      rintro e w2 ⟨rfl, rfl⟩
      go_wp2_with fail
      have hA := Blk.new w1 3 #[.int .i64 t]
      have hB := Blk.new (w1.alloc (.cells #[.int .i64 t] 3)) 23 #[.complex .f64 (fw n) (fw m)]
      have hb0 : Below w1.heap.size w1 ((w1.alloc (.cells #[.int .i64 t] 3)).alloc (.cells #[.complex .f64 (fw n) (fw m)] 23)) := ((Below.refl _ _).alloc (Nat.le_refl _) _).alloc (by simp) _
      have e1 : (w1.alloc (.cells #[.int .i64 t] 3)).heap.size = w1.heap.size + 1 := by simp
      rw [e1] at hB
      refine (users_one w1.heap.size (w1.heap.size + 1) t (fw n) (fw m) _ ((hA.alloc _).cell 0) (hB.cell 0)).mono ?_
      rintro e w2 ⟨u, c, rfl, hu, hb2⟩
      have HU := hid hu
      have HB2 := hid (HB1.out.trans ((hb0.trans (hb2.mono hb0.size)).mono HB1.out.size))
      clear hA hB hb0 e1 hu hb2
      go_wp2_with fail
      refine (new_book u c t _ _ n m w2 HU.out VN.out VM.out).mono ?_
      rintro e w3 ⟨g, rfl, hq, hb3⟩
      have HQ := hid (hq.rebase HB2.out.size)
      have HB3 := hid (HB2.out.trans (hb3.mono HB2.out.size))
      clear hq hb3 HB1 HB2 HU
      go_wp2_with fail
      go_loopw [10] (fun i wr => ∃ k : Nat, k ≤ t ∧ i = .int .i64 k ∧ QB wr w.heap.size g t k n m 0 0 ∧ Below w.heap.size w wr) (fun i _ => t - (intOf i).toNat)
      case atStart => exact ⟨0, Nat.zero_le _, rfl, HQ.out, HB3.out⟩
      case round =>
        obtain ⟨k, hk, rfl, hq, hb⟩ := hrel
        have HQ := hid hq
        have HB := hid hb
        clear hq hb HB3
        by_cases hkt : k < t
        · go_wp2_with fail
          refine (take_yes _ rfl HQ.out hn hm (by omega) (by omega) (by omega) (by omega) (by omega) HB.out.size).mono ?_
          rintro e w4 ⟨rfl, hq, hb⟩
          have HQ4 := hid hq
          have HB4 := hid (HB.out.trans hb)
          clear hq hb HQ HB
          go_wp2_with fail
          go_roundw
          case rel => exact ⟨k + 1, by omega, by go_num, HQ4.out, HB4.out⟩
          case measure => simp [intOf]; omega
        · have hkt : k = t := by omega
          subst hkt
          go_wp2_with fail
          refine (take_full _ rfl HQ.out hn hm (by omega) (by omega) (.inl (Int.le_refl _))).mono ?_
          rintro e w4 ⟨rfl, hb4⟩
          have HQ4 := hid (HQ.out.below hb4)
          have HB4 := hid (HB.out.trans (hb4.mono HB.out.size))
          clear hb4 HQ HB
          go_wp2_with fail
          refine (give_book _ rfl HQ4.out (by omega) (by omega)).mono ?_
          rintro e w5 ⟨rfl, hq, hb⟩
          have HQ5 := hid hq
          have HB5 := hid (HB4.out.trans (hb HB4.out.size))
          clear hq hb HQ4 HB4
          go_wp2_with fail
          refine (take_yes _ rfl HQ5.out hn hm (by omega) (by omega) (by omega) (by omega) (by omega) HB5.out.size).mono ?_
          rw [show (k : Int) - 1 + 1 = k by omega]
          rintro e w6 ⟨rfl, hq, hb⟩
          have HQ6 := hid hq
          have HB6 := hid (HB5.out.trans hb)
          clear hq hb HQ5 HB5
          go_wp2_with fail
          refine (open_book _ rfl HQ6.out).mono ?_
          rintro e w7 ⟨rfl, rfl⟩
          go_wp2_with fail
          refine (pair_yes n 0 _ hn (by omega)).mono ?_
          rintro e w7 ⟨rfl, rfl⟩
          go_wp2_with fail
          refine (pair_yes 1 0 _ (by omega) (by omega)).mono ?_
          rintro e w7 ⟨rfl, rfl⟩
          go_wp2_with fail
          refine (pair_yes 0 1 _ (by omega) (by omega)).mono ?_
          rintro e w7 ⟨rfl, rfl⟩
          go_wp2_with fail
          refine (count_book _ rfl _ _ n 0 HQ6.out hn hm (by omega) (by omega) VN.out VO.out (by omega) (by omega) HB6.out.size).mono ?_
          rw [Nat.zero_add, Nat.add_zero]
          rintro e w7 ⟨rfl, hq, hb⟩
          have HQ7 := hid hq
          have HB7 := hid (HB6.out.trans hb)
          clear hq hb HQ6 HB6
          go_wp2_with fail
          refine (count_full _ rfl _ _ 1 0 HQ7.out hn hm (by omega) (by omega) VI.out VO.out (by omega) (by omega) (by omega)).mono ?_
          rintro e w8 ⟨rfl, hb8⟩
          have HQ8 := hid (HQ7.out.below hb8)
          have HB8 := hid (HB7.out.trans (hb8.mono HB7.out.size))
          clear hb8 HQ7 HB7
          go_wp2_with fail
          refine (count_book _ rfl _ _ 0 1 HQ8.out hn hm (by omega) (by omega) VO.out VI.out (by omega) (by omega) HB8.out.size).mono ?_
          rw [Nat.zero_add, Nat.add_zero]
          rintro e w9 ⟨rfl, hq, hb⟩
          have HQ9 := hid hq
          have HB9 := hid (HB8.out.trans hb)
          clear hq hb HQ8 HB8
          go_wp2_with fail
          refine (count_book _ rfl _ _ 0 0 HQ9.out hn hm (by omega) (by omega) V_zero V_zero (by omega) (by omega) HB9.out.size).mono ?_
          rw [Nat.add_zero, Nat.add_zero]
          rintro e w10 ⟨rfl, hq, hb⟩
          have HQ10 := hid hq
          have HB10 := hid (HB9.out.trans hb)
          clear hq hb HQ9 HB9
          go_wp2_with fail
          refine (give_book _ rfl HQ10.out (by omega) (by omega)).mono ?_
          rintro e w11 ⟨rfl, hq, hb⟩
          have HQ11 := hid hq
          have HB11 := hid (HB10.out.trans (hb HB10.out.size))
          clear hq hb HQ10 HB10
          go_wp2_with fail
          refine (first_any w11).mono ?_
          rintro e w12 ⟨rfl, hb12⟩
          have HQ12 := hid (HQ11.out.below hb12)
          have HB12 := hid (HB11.out.trans (hb12.mono HB11.out.size))
          clear hb12 HQ11 HB11
          go_wp2_with fail
          refine (take_full _ rfl HQ12.out hn hm (by omega) (by omega) (.inr (.inl (Nat.sub_self _)))).mono ?_
          rintro e w13 ⟨rfl, hb13⟩
          have HQ13 := hid (HQ12.out.below hb13)
          have HB13 := hid (HB12.out.trans (hb13.mono HB12.out.size))
          clear hb13 HQ12 HB12
          go_wp2_with fail
          refine (used_book _ rfl HQ13.out).mono ?_
          rintro e w14 ⟨r1, r2, rfl, v1, v2, rfl⟩
          have hc := run_ceq v1 v2 VN.out V1
          have hfw : floatOfInt .f64 (n : Int) = fw n := V_of
          clear v1 v2
          go_wp2_with fail
          refine (left_book _ rfl HQ13.out hn hm (by omega) (by omega)).mono ?_
          rw [Nat.sub_self]
          rintro e w14 ⟨z1, z2, rfl, v1, v2, hb14⟩
          have HQ14 := hid (HQ13.out.below hb14)
          have HB14 := hid (HB13.out.trans (hb14.mono HB13.out.size))
          have HV := hid (And.intro v1 v2)
          clear hb14 v1 v2 HQ13 HB13 hc hfw
          go_wp2_with fail
          refine (up_V _ HV.out.1 HV.out.2 (by omega) (by omega)).mono ?_
          rintro e w15 ⟨rfl, rfl⟩
          go_wp2_with fail
          refine (left_book _ rfl HQ14.out hn hm (by omega) (by omega)).mono ?_
          rintro e w15 ⟨z3, z4, rfl, v1, v2, hb15⟩
          have HQ15 := hid (HQ14.out.below hb15)
          have HB15 := hid (HB14.out.trans (hb15.mono HB14.out.size))
          have HV := hid (And.intro v1 v2)
          clear hb15 v1 v2 HQ14 HB14
          go_wp2_with fail
          refine (down_V _ HV.out.1 HV.out.2 (by omega) (by omega)).mono ?_
          rw [show ((m - 1 : Nat) : Int) = (m : Int) - 1 by omega]
          have hqm := IntWalk.i64_in ((m : Int) - 1) (by omega)
          rintro e w16 ⟨rfl, rfl⟩
          go_wp2_with fail
          refine (give_none _ (by decide) HQ15.out).mono ?_
          rintro e w16 ⟨rfl, rfl⟩
          go_wp2_with fail
          refine (count_none _ _ _ (by decide) HQ15.out).mono ?_
          rintro e w16 ⟨rfl, rfl⟩
          go_wp2_with fail
          go_ret
          exact ⟨rfl, HB15.out⟩
  · have HR := hid hr
    clear hr
    go_enter Try.func3, Try.ntmps3
    go_wp2_with fail
    refine (first_any w).mono ?_
    rintro e w1 ⟨rfl, hb1⟩
    have HB1 := hid hb1
    clear hb1
    go_wp2_with fail
    refine (pair_not up down _ HR.out).mono ?_
    rintro e w2 ⟨rfl, rfl⟩
    go_wp2_with (go_at_call 4; (with_reducible refine (first_any _).mono ?_); rintro e w2 ⟨rfl, hb2⟩; have HB2 := hid hb2; clear hb2)
    all_goals
      go_ret
      exact ⟨rfl, HB1.out.trans (HB2.out.mono HB1.out.size)⟩
end Go.Proofs.Ytpikhnadihfhpaa
