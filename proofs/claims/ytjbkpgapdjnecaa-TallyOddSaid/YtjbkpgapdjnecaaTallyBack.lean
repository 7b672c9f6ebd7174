/- TallyBack's walk. No condition. -/
import Derived.Test.YtjbkpgapdjnecaaTally
namespace Go.Proofs.Ytjbkpgapdjnecaa
open Go.RowKit
attribute [local go_sem] kd kdS

section
variable {x y u v n m p q : Nat} (w : World)
theorem add_yes (hx : V x n) (hy : V y m) (hu : V u p) (hv : V v q) (h1 : n + p ≤ 1125899906842624) (h2 : m + q ≤ 1125899906842624) :
    Calls Try.prog 11 #[.complex .f64 x y, .complex .f64 u v] w fun e w' => ∃ r1 r2, e = .returned (.tuple #[.complex .f64 r1 r2, .int .i64 0]) ∧ V r1 (n + p) ∧ V r2 (m + q) ∧ Below w.heap.size w w' := by
  have b2 : (2 : Nat) ^ 53 = 9007199254740992 := by decide
  obtain ⟨s1, e1, k1⟩ := V_add hx hu (by omega)
  obtain ⟨s2, e2, k2⟩ := V_add hy hv (by omega)
  refine (add_any x y u v w).mono ?_
  rintro e w' ⟨r1, r2, rfl, f1, f2, hb⟩
  obtain rfl := f1 _ e1
  obtain rfl := f2 _ e2
  rw [(isB_yes hx hy (by omega) (by omega)).1, (isB_yes hu hv (by omega) (by omega)).1, (isB_yes k1 k2 (by omega) (by omega)).1]
  exact ⟨_, _, rfl, k1, k2, hb⟩
theorem add_over (hx : V x n) (hy : V y m) (hu : V u p) (hv : V v q) (hn : n ≤ 1125899906842624) (hm : m ≤ 1125899906842624) (hp : p ≤ 1125899906842624) (hq : q ≤ 1125899906842624) (h : ¬ (n + p ≤ 1125899906842624 ∧ m + q ≤ 1125899906842624)) :
    Calls Try.prog 11 #[.complex .f64 x y, .complex .f64 u v] w fun e w' => e = .returned (.tuple #[.complex .f64 0 0, .int .i64 1]) ∧ Below w.heap.size w w' := by
  have b1 : (2 : Nat) ^ 50 = 1125899906842624 := by decide
  have b2 : (2 : Nat) ^ 53 = 9007199254740992 := by decide
  obtain ⟨s1, e1, k1⟩ := V_add hx hu (by omega)
  obtain ⟨s2, e2, k2⟩ := V_add hy hv (by omega)
  refine (add_any x y u v w).mono ?_
  rintro e w' ⟨r1, r2, rfl, f1, f2, hb⟩
  obtain rfl := f1 _ e1
  obtain rfl := f2 _ e2
  have hno : isB r1 r2 = false := by
    rw [isB_V k1 k2 (by omega) (by omega), b1]
    rcases Classical.not_and_iff_not_or_not.1 h with h | h
    · rw [decide_eq_false h, Bool.false_and]
    · rw [decide_eq_false h, Bool.and_false]
  rw [hno, Bool.and_false]
  exact ⟨rfl, hb⟩
theorem sub_yes (hx : V x n) (hy : V y m) (hu : V u p) (hv : V v q) (hn : n ≤ 1125899906842624) (hm : m ≤ 1125899906842624) (h1 : p ≤ n) (h2 : q ≤ m) :
    Calls Try.prog 12 #[.complex .f64 x y, .complex .f64 u v] w fun e w' => ∃ r1 r2, e = .returned (.tuple #[.complex .f64 r1 r2, .int .i64 0]) ∧ V r1 (n - p) ∧ V r2 (m - q) ∧ Below w.heap.size w w' := by
  have b2 : (2 : Nat) ^ 53 = 9007199254740992 := by decide
  obtain ⟨s1, e1, k1⟩ := V_sub hx hu h1 (by omega)
  obtain ⟨s2, e2, k2⟩ := V_sub hy hv h2 (by omega)
  refine (sub_any x y u v w).mono ?_
  rintro e w' ⟨r1, r2, rfl, f1, f2, hb⟩
  obtain rfl := f1 _ e1
  obtain rfl := f2 _ e2
  rw [(isB_yes hx hy (by omega) (by omega)).1, (isB_yes hu hv (by omega) (by omega)).1, (isB_yes k1 k2 (by omega) (by omega)).1]
  exact ⟨_, _, rfl, k1, k2, hb⟩
theorem up_V (hx : V x n) (hy : V y m) (hn : n ≤ 1125899906842624) (hm : m ≤ 1125899906842624) : Calls Try.prog 7 #[.complex .f64 x y] w fun e w' => e = .returned (.int .i64 n) ∧ w = w' := by
  have h := up_any x y w
  rw [(isB_yes hx hy hn hm).2.1] at h
  exact h
theorem down_V (hx : V x n) (hy : V y m) (hn : n ≤ 1125899906842624) (hm : m ≤ 1125899906842624) : Calls Try.prog 8 #[.complex .f64 x y] w fun e w' => e = .returned (.int .i64 m) ∧ w = w' := by
  have h := down_any x y w
  rw [(isB_yes hx hy hn hm).2.2] at h
  exact h
theorem is_V (hx : V x n) (hy : V y m) (hn : n ≤ 1125899906842624) (hm : m ≤ 1125899906842624) : Calls Try.prog 9 #[.complex .f64 x y] w fun e w' => e = .returned (.bool true) ∧ w = w' := by
  have h := is_any x y w
  rw [(isB_yes hx hy hn hm).1] at h
  exact h
end
theorem V_eq {x y n : Nat} (hx : V x n) (hy : V y n) : FloatKind.f64.format.order x y = some .eq := by
  rw [V_order hx hy]
  rcases cmp_cases n n with ⟨h, _⟩ | ⟨_, h⟩ | ⟨h, _⟩
  · omega
  · rw [h]
  · omega
theorem pair_some (a b : Int) (w : World) (ha0 : -9223372036854775808 ≤ a) (hb0 : -9223372036854775808 ≤ b) : Calls Try.prog 6 #[.int .i64 a, .int .i64 b] w fun e w' => ∃ x y er, e = .returned (.tuple #[.complex .f64 x y, .int .i64 er]) ∧ w = w' := by
  by_cases h : 0 ≤ a ∧ a ≤ 1125899906842624 ∧ 0 ≤ b ∧ b ≤ 1125899906842624
  · obtain ⟨n, rfl⟩ : ∃ k : Nat, a = k := ⟨a.toNat, by omega⟩
    obtain ⟨m, rfl⟩ : ∃ k : Nat, b = k := ⟨b.toNat, by omega⟩
    exact (pair_yes n m w (by omega) (by omega)).mono fun _ _ h => ⟨_, _, _, h.1, h.2⟩
  · exact (pair_not a b w h).mono fun _ _ h => ⟨_, _, _, h.1, h.2⟩
theorem V_three : V 4613937818241073152 3 := ⟨false, 6755399441055744, -51, by decide, by simp, 51, by decide, by decide⟩
theorem V_four : V 4616189618054758400 4 := ⟨false, 4503599627370496, -50, by decide, by simp, 50, by decide, by decide⟩

set_option maxHeartbeats 400000 in
set_option maxRecDepth 100000 in
theorem first_any (w : World) : Calls Try.prog 5 #[] w fun e w' => e = .returned (.bool true) ∧ w = w' := by
  have b2 : (2 : Nat) ^ 53 = 9007199254740992 := by decide
  have h3 : V (fw 3) 3 := V_fw (by omega)
  have h4 : V (fw 4) 4 := V_fw (by omega)
  have o3 := V_eq h3 V_three
  have o4 := V_eq h4 V_four
  have H3 := hid h3
  have H4 := hid h4
  have hp := hid (pair_yes 3 4 w (by omega) (by omega))
  clear h3 h4 b2
  generalize fw 3 = x at o3 H3 hp
  generalize fw 4 = y at o4 H4 hp
  go_enter Try.func5, Try.ntmps5
  go_wp2_with (first
    | (go_at_call 6; go_must (refine hp.out.mono ?_; rintro e w1 ⟨rfl, rfl⟩))
    | (go_at_call 7; go_must (refine (up_V _ H3.out H4.out (by omega) (by omega)).mono ?_; rintro e w1 ⟨rfl, rfl⟩))
    | (go_at_call 8; go_must (refine (down_V _ H3.out H4.out (by omega) (by omega)).mono ?_; rintro e w1 ⟨rfl, rfl⟩)))
  go_ret
  exact ⟨rfl, rfl⟩

set_option maxHeartbeats 1600000 in
set_option maxRecDepth 100000 in
theorem back_walk (a b c d : Int) (w : World) (ha0 : -9223372036854775808 ≤ a) (ha1 : a ≤ 9223372036854775807) (hb0 : -9223372036854775808 ≤ b) (hb1 : b ≤ 9223372036854775807) (hc0 : -9223372036854775808 ≤ c) (hc1 : c ≤ 9223372036854775807) (hd0 : -9223372036854775808 ≤ d) (hd1 : d ≤ 9223372036854775807) :
    Calls Try.prog 3 #[.int .i64 a, .int .i64 b, .int .i64 c, .int .i64 d] w fun e w' => e = .returned (.bool true) ∧ Below w.heap.size w w' := by
  by_cases h : 0 ≤ a ∧ a ≤ 1125899906842624 ∧ 0 ≤ b ∧ b ≤ 1125899906842624
  · by_cases k : 0 ≤ c ∧ c ≤ 1125899906842624 ∧ 0 ≤ d ∧ d ≤ 1125899906842624
    · obtain ⟨a, rfl⟩ : ∃ k : Nat, a = k := ⟨a.toNat, by omega⟩
      obtain ⟨b, rfl⟩ : ∃ k : Nat, b = k := ⟨b.toNat, by omega⟩
      obtain ⟨c, rfl⟩ : ∃ k : Nat, c = k := ⟨c.toNat, by omega⟩
      obtain ⟨d, rfl⟩ : ∃ k : Nat, d = k := ⟨d.toNat, by omega⟩
      have ha : a ≤ 1125899906842624 := by omega
      have hb : b ≤ 1125899906842624 := by omega
      have hc : c ≤ 1125899906842624 := by omega
      have hd : d ≤ 1125899906842624 := by omega
      clear h k ha0 ha1 hb0 hb1 hc0 hc1 hd0 hd1
      have b2 : (2 : Nat) ^ 53 = 9007199254740992 := by decide
      have P1 := hid (fun w => pair_yes a b w ha hb)
      have P2 := hid (fun w => pair_yes c d w hc hd)
      have VA := hid (V_fw (n := a) (by omega))
      have VB := hid (V_fw (n := b) (by omega))
      have VC := hid (V_fw (n := c) (by omega))
      have VD := hid (V_fw (n := d) (by omega))
      clear b2
      generalize fw a = x1 at P1 VA
      generalize fw b = x2 at P1 VB
      generalize fw c = y1 at P2 VC
      generalize fw d = y2 at P2 VD
      have CX := hid (fun w => covers_V x1 x2 x1 x2 a b a b w VA.out VB.out VA.out VB.out ha hb ha hb)
      rw [decide_eq_true (show a ≤ a ∧ b ≤ b from ⟨Nat.le_refl _, Nat.le_refl _⟩)] at CX
      go_enter Try.func3, Try.ntmps3
      go_upto_region 9 with (first
        | (go_at_call 5; go_must (refine (first_any _).mono ?_; rintro e w1 ⟨rfl, rfl⟩))
        | (go_at_call 6; (with_reducible refine (P1.out _).mono ?_); rintro e w1 ⟨rfl, rfl⟩)
        | (go_at_call 6; (with_reducible refine (P2.out _).mono ?_); rintro e w1 ⟨rfl, rfl⟩)
        | (go_at_call 7; go_must (refine (up_V _ VA.out VB.out (by omega) (by omega)).mono ?_; rintro e w1 ⟨rfl, rfl⟩))
        | (go_at_call 8; go_must (refine (down_V _ VA.out VB.out (by omega) (by omega)).mono ?_; rintro e w1 ⟨rfl, rfl⟩))
        | (go_at_call 9; go_must (refine (is_V _ VA.out VB.out (by omega) (by omega)).mono ?_; rintro e w1 ⟨rfl, rfl⟩))
        | (go_at_call 10; go_must (refine (CX.out _).mono ?_; rintro e w1 ⟨rfl, rfl⟩)))
      by_cases hov : a + c ≤ 1125899906842624 ∧ b + d ≤ 1125899906842624
      · obtain ⟨hac, hbd⟩ := hov
        go_upto_region 12 with (go_at_call 11; go_must (refine (add_yes _ VA.out VB.out VC.out VD.out hac hbd).mono ?_; rintro e w1 ⟨r1, r2, rfl, k1, k2, hb1⟩; have R1 := hid k1; have R2 := hid k2; have HB1 := hid hb1; clear k1 k2 hb1))
        go_upto_region 13 with (go_at_call 12; go_must (refine (sub_yes _ R1.out R2.out VC.out VD.out hac hbd (by omega) (by omega)).mono ?_; rw [Nat.add_sub_cancel, Nat.add_sub_cancel]; rintro e w2 ⟨z1, z2, rfl, k1, k2, hb2⟩; have Z1 := hid k1; have Z2 := hid k2; have HB2 := hid (HB1.out.trans (hb2.mono HB1.out.size)); clear k1 k2 hb2))
        have o1 := V_eq Z1.out VA.out
        have o2 := V_eq Z2.out VB.out
        rcases (show (a < c ∨ c = a ∨ c < a) by omega) with h1 | h1 | h1 <;> rcases (show (b < d ∨ d = b ∨ d < b) by omega) with h2 | h2 | h2
        all_goals
          have LM := hid (fun w => least_V x1 x2 y1 y2 a b c d w VA.out VB.out VC.out VD.out ha hb hc hd)
          first | rw [Nat.min_eq_left (show a ≤ c by omega)] at LM | rw [Nat.min_eq_right (show c ≤ a by omega)] at LM
          first | rw [Nat.min_eq_left (show b ≤ d by omega)] at LM | rw [Nat.min_eq_right (show d ≤ b by omega)] at LM
          have CY := hid (fun w => covers_V x1 x2 y1 y2 a b c d w VA.out VB.out VC.out VD.out ha hb hc hd)
          first | rw [decide_eq_true (show c ≤ a ∧ d ≤ b by omega)] at CY | rw [decide_eq_false (show ¬ (c ≤ a ∧ d ≤ b) by omega)] at CY
          first | have q1 : c ≤ a := by omega | have q1 : ¬ c ≤ a := by omega
          first | have q2 : d ≤ b := by omega | have q2 : ¬ d ≤ b := by omega
          have CS := hid (fun w => covers_V r1 r2 x1 x2 (a + c) (b + d) a b w R1.out R2.out VA.out VB.out hac hbd ha hb)
          rw [decide_eq_true (show a ≤ a + c ∧ b ≤ b + d by omega)] at CS
          go_wp2_with (first
            | (go_at_call 5; go_must (refine (first_any _).mono ?_; rintro e w1 ⟨rfl, rfl⟩))
            | (go_at_call 13; go_must (refine (LM.out _).mono ?_; rintro e w3 ⟨m1, m2, rfl, k1, k2, rfl⟩; have M1 := hid k1; have M2 := hid k2; clear k1 k2))
            | (go_at_call 7; (with_reducible refine (up_V _ R1.out R2.out (by omega) (by omega)).mono ?_); rintro e w1 ⟨rfl, rfl⟩)
            | (go_at_call 8; (with_reducible refine (down_V _ R1.out R2.out (by omega) (by omega)).mono ?_); rintro e w1 ⟨rfl, rfl⟩)
            | (go_at_call 7; go_must (refine (up_V _ M1.out M2.out (by omega) (by omega)).mono ?_; rintro e w1 ⟨rfl, rfl⟩))
            | (go_at_call 8; go_must (refine (down_V _ M1.out M2.out (by omega) (by omega)).mono ?_; rintro e w1 ⟨rfl, rfl⟩))
            | (go_at_call 10; (with_reducible refine (CS.out _).mono ?_); rintro e w1 ⟨rfl, rfl⟩)
            | (go_at_call 10; (with_reducible refine (CY.out _).mono ?_); rintro e w1 ⟨rfl, rfl⟩))
          all_goals
            go_ret
            exact ⟨rfl, HB2.out⟩
      · rcases (show (1125899906842624 - (c : Int) < a) ∨ (a ≤ 1125899906842624 - (c : Int) ∧ 1125899906842624 - (d : Int) < b) by omega) with h1 | ⟨h1, h2⟩
        all_goals
          go_wp2_with (first
            | (go_at_call 5; go_must (refine (first_any _).mono ?_; rintro e w1 ⟨rfl, rfl⟩))
            | (go_at_call 11; go_must (refine (add_over _ VA.out VB.out VC.out VD.out ha hb hc hd hov).mono ?_; rintro e w1 ⟨rfl, hb1⟩; have HB1 := hid hb1; clear hb1)))
          go_ret
          exact ⟨rfl, HB1.out⟩
    · obtain ⟨a, rfl⟩ : ∃ k : Nat, a = k := ⟨a.toNat, by omega⟩
      obtain ⟨b, rfl⟩ : ∃ k : Nat, b = k := ⟨b.toNat, by omega⟩
      have ha : (a : Int) ≤ 1125899906842624 := by omega
      have hb : (b : Int) ≤ 1125899906842624 := by omega
      have P1 := hid (fun w => pair_yes a b w (by omega) (by omega))
      have P2 := hid (fun w => pair_not c d w k)
      clear h k
      go_enter Try.func3, Try.ntmps3
      go_wp2_with (first
        | (go_at_call 5; go_must (refine (first_any _).mono ?_; rintro e w1 ⟨rfl, rfl⟩))
        | (go_at_call 6; (with_reducible refine (P1.out _).mono ?_); rintro e w1 ⟨rfl, rfl⟩)
        | (go_at_call 6; (with_reducible refine (P2.out _).mono ?_); rintro e w1 ⟨rfl, rfl⟩))
      go_ret
      exact ⟨rfl, Below.refl _ _⟩
  · have P1 := hid (fun w => pair_not a b w h)
    have P2 := hid (fun w => pair_some c d w hc0 hd0)
    rcases (show a < 0 ∨ (0 ≤ a ∧ 1125899906842624 < a) ∨ (0 ≤ a ∧ a ≤ 1125899906842624 ∧ b < 0) ∨ (0 ≤ a ∧ a ≤ 1125899906842624 ∧ 0 ≤ b ∧ 1125899906842624 < b) by omega) with h1 | ⟨h1, h2⟩ | ⟨h1, h2, h3⟩ | ⟨h1, h2, h3, h4⟩
    all_goals
      clear h
      first | have q1 : ¬ b ≤ 1125899906842624 := by omega | skip
      go_enter Try.func3, Try.ntmps3
      go_wp2_with (first
        | (go_at_call 5; go_must (refine (first_any _).mono ?_; rintro e w1 ⟨rfl, rfl⟩))
        | (go_at_call 6; (with_reducible refine (P1.out _).mono ?_); rintro e w1 ⟨rfl, rfl⟩)
        | (go_at_call 6; (with_reducible refine (P2.out _).mono ?_); rintro e w1 ⟨y1, y2, er, rfl, rfl⟩))
      go_ret
      first
        | exact ⟨rfl, Below.refl _ _⟩
        | (have hz : (!decide (b ≤ 1125899906842624)) = true := by (rw [decide_eq_false (by omega)]; rfl)
           exact ⟨congrArg (fun z => Ending.returned (Value.bool z)) hz, Below.refl _ _⟩)
end Go.Proofs.Ytjbkpgapdjnecaa
