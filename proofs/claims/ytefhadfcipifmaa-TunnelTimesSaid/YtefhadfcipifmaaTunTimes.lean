/- The law TunnelTimes walked. -/
import Derived.Test.YtefhadfcipifmaaTunI
namespace Go.Proofs.Ytefhadfcipifmaa
open Go.RowKit
attribute [local go_sem] kd kdS

section
variable {w w1 : World} {tb : Nat} {σ : TV} {K : List Nat}
theorem late_d (now dial idle m : Int) (c : Bool) (h : TI w w1 tb σ K) (h3 : σ.st = 1 ∨ σ.st = 2) (hm : σ.mv = m) (h1 : -4611686018427387904 ≤ now - m) (h2 : now - m ≤ 4611686018427387904) (hc : decide (dial ≤ now - m) = c) :
    Calls Try.prog 15 #[.pointer (some ⟨tb, 0, none⟩), .int .i64 now, .int .i64 dial, .int .i64 idle] w1 fun e w' => e = .returned (.bool c) ∧ w1 = w' := by
  subst hm
  have e : lateB σ now dial idle = c := by unfold lateB; rw [if_pos h3, hc]
  rw [← e]
  exact ti_late now dial idle h h1 h2
theorem late_i (now dial idle m : Int) (c : Bool) (h : TI w w1 tb σ K) (h3 : σ.st = 3) (hm : σ.mv = m) (h1 : -4611686018427387904 ≤ now - m) (h2 : now - m ≤ 4611686018427387904) (hc : decide (idle ≤ now - m) = c) :
    Calls Try.prog 15 #[.pointer (some ⟨tb, 0, none⟩), .int .i64 now, .int .i64 dial, .int .i64 idle] w1 fun e w' => e = .returned (.bool c) ∧ w1 = w' := by
  subst hm
  have e : lateB σ now dial idle = c := by unfold lateB; rw [if_neg (by omega), if_pos h3, hc]
  rw [← e]
  exact ti_late now dial idle h h1 h2
theorem late_o (now dial idle m : Int) (h : TI w w1 tb σ K) (h3 : σ.st = 4) (hm : σ.mv = m) (h1 : -4611686018427387904 ≤ now - m) (h2 : now - m ≤ 4611686018427387904) :
    Calls Try.prog 15 #[.pointer (some ⟨tb, 0, none⟩), .int .i64 now, .int .i64 dial, .int .i64 idle] w1 fun e w' => e = .returned (.bool false) ∧ w1 = w' := by
  subst hm
  have e : lateB σ now dial idle = false := by unfold lateB; rw [if_neg (by omega), if_neg (by omega)]
  rw [← e]
  exact ti_late now dial idle h h1 h2
end

set_option maxHeartbeats 4000000 in
set_option maxRecDepth 100000 in
theorem times_walk (dial idle at_ now : Int) (w : World) :
    Calls Try.prog 4 #[.int .i64 dial, .int .i64 idle, .int .i64 at_, .int .i64 now] w fun e w' => e = .returned (.bool true) ∧ Below w.heap.size w w' := by
  by_cases hbad : dial < 1 ∨ 1000 < dial ∨ idle < 1 ∨ 1000 < idle ∨ at_ < 0 ∨ 1000 < at_ ∨ now < at_ ∨ 3000 < now
  · rcases (show dial < 1 ∨ (1 ≤ dial ∧ 1000 < dial) ∨ (1 ≤ dial ∧ dial ≤ 1000 ∧ idle < 1) ∨ (1 ≤ dial ∧ dial ≤ 1000 ∧ 1 ≤ idle ∧ 1000 < idle) ∨ (1 ≤ dial ∧ dial ≤ 1000 ∧ 1 ≤ idle ∧ idle ≤ 1000 ∧ at_ < 0) ∨ (1 ≤ dial ∧ dial ≤ 1000 ∧ 1 ≤ idle ∧ idle ≤ 1000 ∧ 0 ≤ at_ ∧ 1000 < at_) ∨ (1 ≤ dial ∧ dial ≤ 1000 ∧ 1 ≤ idle ∧ idle ≤ 1000 ∧ 0 ≤ at_ ∧ at_ ≤ 1000 ∧ now < at_) ∨ (1 ≤ dial ∧ dial ≤ 1000 ∧ 1 ≤ idle ∧ idle ≤ 1000 ∧ 0 ≤ at_ ∧ at_ ≤ 1000 ∧ at_ ≤ now ∧ 3000 < now) by omega) with h | ⟨h1, h2⟩ | ⟨h1, h2, h3⟩ | ⟨h1, h2, h3, h4⟩ | ⟨h1, h2, h3, h4, h5⟩ | ⟨h1, h2, h3, h4, h5, h6⟩ | ⟨h1, h2, h3, h4, h5, h6, h7⟩ | ⟨h1, h2, h3, h4, h5, h6, h7, h8⟩
    all_goals
      clear hbad
      go_enter Try.func4, Try.ntmps4
      go_wp2_with fail
      refine (first_any w).mono ?_
      rintro e w1 ⟨rfl, hb1⟩
      have HB1 := hid hb1
      clear hb1
      go_wp2_with fail
      refine (first_any w1).mono ?_
      rintro e w2 ⟨rfl, hb2⟩
      have HB2 := hid hb2
      clear hb2
      go_wp2_with fail
      go_ret
      exact ⟨rfl, HB1.out.trans (HB2.out.mono HB1.out.size)⟩
  · obtain ⟨d1, d2, i1, i2, a1, a2, n1, n2⟩ : 1 ≤ dial ∧ dial ≤ 1000 ∧ 1 ≤ idle ∧ idle ≤ 1000 ∧ 0 ≤ at_ ∧ at_ ≤ 1000 ∧ at_ ≤ now ∧ now ≤ 3000 := by omega
    clear hbad
    have q0 := IntWalk.i64_in (now - at_) (by omega)
    have qa1 := IntWalk.i64_in (at_ + 1) (by omega)
    have qn1 := IntWalk.i64_in (now + 1) (by omega)
    have qa2 := IntWalk.i64_in (at_ + 2) (by omega)
    have qn2 := IntWalk.i64_in (now + 2) (by omega)
    have qa3 := IntWalk.i64_in (at_ + 3) (by omega)
    have qn3 := IntWalk.i64_in (now + 3) (by omega)
    have qa4 := IntWalk.i64_in (at_ + 4) (by omega)
    have qn4 := IntWalk.i64_in (now + 4) (by omega)
    have qa5 := IntWalk.i64_in (at_ + 5) (by omega)
    have qn5 := IntWalk.i64_in (now + 5) (by omega)
    have qn6 := IntWalk.i64_in (now + 5000) (by omega)
    rcases hD : decide (dial ≤ now - at_) with _ | _ <;> rcases hI : decide (idle ≤ now - at_) with _ | _
    all_goals
      have HD := hid hD
      have HI := hid hI
      simp only [decide_eq_true_eq, decide_eq_false_iff_not] at hD hI
      go_enter Try.func4, Try.ntmps4
      go_wp2_with fail
      refine (first_any w).mono ?_
      rintro e w1 ⟨rfl, hb1⟩
      have HB1 := hid hb1
      clear hb1
      go_wp2_with fail
      go_must (refine (ti_new 1 1 1 at_ _ _ _ 80 10 HB1.out (by decide)).mono ?_)
      rintro e w2 ⟨tb, rfl, ht⟩
      have HT2 := hid ht
      clear ht
      go_wp2_with fail
      go_must (refine (late_d now dial idle at_ _ HT2.out (.inl rfl) rfl (by omega) (by omega) HD.out).mono ?_)
      rintro e w_ ⟨rfl, rfl⟩
      go_wp2_with fail
      go_must (refine (ti_dial _ (at_ + 1) HT2.out rfl).mono ?_)
      rintro e w3 ⟨rfl, ht, _⟩
      have HT3 := hid (show TI w w3 tb ⟨1, 1, 1, at_ + 1, 10, 2, false, false, false, false, [], [], 0, 0, 0, 0⟩ [] from ht)
      clear ht
      go_wp2_with fail
      go_must (refine (ti_dial0 _ 0 HT3.out (show (2 : Int) ≠ 1 by decide)).mono ?_)
      rintro e w_ ⟨rfl, rfl⟩
      go_wp2_with fail
      go_must (refine (late_d (now + 1) dial idle (at_ + 1) _ HT3.out (.inr rfl) rfl (by omega) (by omega) ((congrArg (fun z => decide (dial ≤ z)) (show now + 1 - (at_ + 1) = now - at_ by omega)).trans HD.out)).mono ?_)
      rintro e w_ ⟨rfl, rfl⟩
      go_wp2_with fail
      go_must (refine (ti_opened (at_ + 2) HT3.out rfl).mono ?_)
      rintro e w4 ⟨rfl, ht, _⟩
      have HT4 := hid (show TI w w4 tb ⟨1, 1, 1, at_ + 2, 10, 3, false, false, false, false, [], [], 0, 0, 0, 0⟩ [] from ht)
      clear ht
      clear HT3
      go_wp2_with fail
      go_must (refine (ti_opened0 0 HT4.out (show (3 : Int) ≠ 2 by decide)).mono ?_)
      rintro e w_ ⟨rfl, rfl⟩
      go_wp2_with fail
      go_must (refine (late_i (now + 2) dial idle (at_ + 2) _ HT4.out rfl rfl (by omega) (by omega) ((congrArg (fun z => decide (idle ≤ z)) (show now + 2 - (at_ + 2) = now - at_ by omega)).trans HI.out)).mono ?_)
      rintro e w_ ⟨rfl, rfl⟩
      go_wp2_with fail
      have HT5 := hid (HT4.out.below ((Below.refl _ _).alloc (Nat.le_refl _) (.cells #[.int .u8 1] 5)))
      have HS5 : Hid (Bs (w4.alloc (.cells #[.int .u8 1] 5)) (some ⟨w4.heap.size, 0, none⟩) 1 [1]) := hid (rd_new (size := 1) (cs := #[.int .u8 1]) rfl rfl)
      clear HT4
      go_wp2_with fail
      go_must (refine (ti_del _ 1 1 [1] (at_ + 3) HT5.out rfl rfl (few_at (by decide) (by decide) (by decide) (by decide) (by decide) (by decide)) HS5.out (Nat.le_refl _) (by decide)).mono ?_)
      rintro e w6 ⟨rfl, ht, _⟩
      have HT6 := hid (show TI w w6 tb ⟨1, 1, 1, at_ + 3, 10, 3, false, false, false, false, [], [1], 0, 0, 0, 0⟩ [] from ht)
      clear ht
      clear HT5
      go_wp2_with fail
      go_must (refine (late_i (now + 3) dial idle (at_ + 3) _ HT6.out rfl rfl (by omega) (by omega) ((congrArg (fun z => decide (idle ≤ z)) (show now + 3 - (at_ + 3) = now - at_ by omega)).trans HI.out)).mono ?_)
      rintro e w_ ⟨rfl, rfl⟩
      go_wp2_with fail
      have HT7 := hid (HT6.out.below ((Below.refl _ _).alloc (Nat.le_refl _) (.cells #[.int .u8 5] 5)))
      have HS7 : Hid (Bs (w6.alloc (.cells #[.int .u8 5] 5)) (some ⟨w6.heap.size, 0, none⟩) 1 [5]) := hid (rd_new (size := 1) (cs := #[.int .u8 5]) rfl rfl)
      have HO7 : Hid (Off (some ⟨w6.heap.size, 0, none⟩) [tb]) := hid (fun ad e hm => by injection e with e; subst e; have := HT6.out.tb_ge.2.1; simp at hm; omega)
      clear HT6
      go_wp2_with fail
      go_must (refine (ti_acc _ 1 1 [5] false HT7.out (show (3 : Int) ≠ 4 by decide) rfl (few_at (by decide) (by decide) (by decide) (by decide) (by decide) (by decide)) (bs_off HS7.out HO7.out) (Nat.le_refl _) (by decide)).mono ?_)
      rintro e w8 ⟨rfl, ht, _⟩
      have HT8 := hid (show TI w w8 tb ⟨1, 1, 1, at_ + 3, 10, 3, false, false, false, false, [5], [1], 0, 0, 0, 0⟩ [] from ht)
      clear ht
      clear HT7
      go_wp2_with fail
      go_must (refine (ti_write 9 (at_ + 4) HT8.out rfl (few_at (by decide) (by decide) (by decide) (by decide) (by decide) (by decide))).mono ?_)
      rintro e w9 ⟨A9, c9, rfl, _, ht, _⟩
      have HT9 := hid (show TI w w9 tb ⟨1, 1, 1, at_ + 4, 10, 3, false, false, false, false, [], [1], 1, 0, 1, 0⟩ _ from ht)
      clear ht HT8
      go_wp2_with fail
      go_must (refine (late_i (now + 4) dial idle (at_ + 4) _ HT9.out rfl rfl (by omega) (by omega) ((congrArg (fun z => decide (idle ≤ z)) (show now + 4 - (at_ + 4) = now - at_ by omega)).trans HI.out)).mono ?_)
      rintro e w_ ⟨rfl, rfl⟩
      go_wp2_with fail
      go_must (refine (ti_sent 1 (at_ + 5) false HT9.out (few_at (by decide) (by decide) (by decide) (by decide) (by decide) (by decide))).mono ?_)
      rintro e w10 ⟨rfl, ht, _⟩
      have HT10 := hid (show TI w w10 tb ⟨1, 1, 1, at_ + 5, 10, 3, false, false, false, false, [], [], 1, 1, 1, 1⟩ _ from ht)
      clear ht
      clear HT9
      go_wp2_with fail
      go_must (refine (late_i (now + 5) dial idle (at_ + 5) _ HT10.out rfl rfl (by omega) (by omega) ((congrArg (fun z => decide (idle ≤ z)) (show now + 5 - (at_ + 5) = now - at_ by omega)).trans HI.out)).mono ?_)
      rintro e w_ ⟨rfl, rfl⟩
      go_wp2_with fail
      go_must (refine (ti_close HT10.out (few_at (by decide) (by decide) (by decide) (by decide) (by decide) (by decide))).mono ?_)
      rintro e w11 ⟨rfl, ht, _⟩
      have HT11 := hid (show TI w w11 tb ⟨1, 1, 1, at_ + 5, 10, 4, false, false, false, false, [], [], 1, 1, 1, 1⟩ _ from ht)
      clear ht
      clear HT10
      go_wp2_with fail
      refine (first_any w11).mono ?_
      rintro e w12 ⟨rfl, hb12⟩
      have HT12 := hid (HT11.out.below hb12)
      clear hb12 HT11
      go_wp2_with fail
      go_must (refine (late_o (now + 5000) dial idle (at_ + 5) HT12.out rfl rfl (by omega) (by omega)).mono ?_)
      rintro e w_ ⟨rfl, rfl⟩
      go_wp2_with fail
      go_must (refine (ti_state HT12.out).mono ?_)
      rintro e w_ ⟨rfl, rfl⟩
      go_wp2_with fail
      go_ret
      exact ⟨by first | rfl | (simp; done) | (simp; omega), HT12.out.low⟩
end Go.Proofs.Ytefhadfcipifmaa
