/- TallyOdd's walk. No condition. -/
import Derived.Test.YtjbkpgapdjnecaaTallyBack
namespace Go.Proofs.Ytjbkpgapdjnecaa
open Go.RowKit
attribute [local go_sem] kd kdS

theorem order_eq (d e : Ieee.Datum) : (d.order e == some .eq) = (e.order d == some .eq) := by
  have key : ∀ a b : Int, (some (compare a b) == some Ordering.eq) = (some (compare b a) == some Ordering.eq) := by
    intro a b
    show (some (compareOfLessAndEq a b) == some Ordering.eq) = (some (compareOfLessAndEq b a) == some Ordering.eq)
    unfold compareOfLessAndEq
    rcases Int.lt_trichotomy a b with h | h | h
    · rw [if_pos h, if_neg (by omega), if_neg (by omega)]
      rfl
    · subst h
      rfl
    · rw [if_neg (by omega), if_neg (by omega), if_pos h]
      rfl
  cases d <;> cases e
  all_goals first
    | rfl
    | (rename_i s t; cases s <;> cases t <;> rfl)
    | (rename_i s _ _ t; cases s <;> cases t <;> rfl)
    | (rename_i s t _ _; cases s <;> cases t <;> rfl)
    | skip
  all_goals
    rename_i s m i t n j
    unfold Ieee.Datum.order
    simp only
    rw [key, Int.min_comm]
/-- What is asked of a part, in the law's words: three ways to fail, one to pass. -/
theorem part_cases (x : Nat) :
    (((FloatKind.f64.format.order x 0 == some .gt || FloatKind.f64.format.order x 0 == some .eq) = false) ∧ cb x = false) ∨
    (((FloatKind.f64.format.order x 0 == some .gt || FloatKind.f64.format.order x 0 == some .eq) = true) ∧ (FloatKind.f64.format.order x 4832362400168542208 == some .lt || FloatKind.f64.format.order x 4832362400168542208 == some .eq) = false ∧ cb x = false) ∨
    (((FloatKind.f64.format.order x 0 == some .gt || FloatKind.f64.format.order x 0 == some .eq) = true) ∧ (FloatKind.f64.format.order x 4832362400168542208 == some .lt || FloatKind.f64.format.order x 4832362400168542208 == some .eq) = true ∧ ∃ t : Nat, floatToIntVal .f64 x .i64 = some (t : Int) ∧ (FloatKind.f64.format.order x (fw t) == some .eq) = cb x) := by
  unfold cb inR
  rcases h0 : (FloatKind.f64.format.order x 0 == some .gt || FloatKind.f64.format.order x 0 == some .eq) with _ | _
  · exact .inl ⟨rfl, by simp⟩
  · rcases h1 : (FloatKind.f64.format.order x 4832362400168542208 == some .lt || FloatKind.f64.format.order x 4832362400168542208 == some .eq) with _ | _
    · exact .inr (.inl ⟨rfl, rfl, by simp⟩)
    · refine .inr (.inr ⟨rfl, rfl, ?_⟩)
      obtain ⟨t, ht, hv, _⟩ := in_int (x := x) (by unfold inR; rw [h0, h1]; rfl)
      refine ⟨t, hv, ?_⟩
      have e : tr x = t := by unfold tr; rw [hv]; rfl
      rw [e]
      simp only [Bool.true_and]
      exact order_eq _ _
section
variable {x y u v : Nat} (w : World)
theorem add_not (h : (isB x y && isB u v) = false) : Calls Try.prog 11 #[.complex .f64 x y, .complex .f64 u v] w fun e w' => e = .returned (.tuple #[.complex .f64 0 0, .int .i64 1]) ∧ Below w.heap.size w w' := by
  refine (add_any x y u v w).mono ?_
  rintro e w' ⟨r1, r2, rfl, _, _, hb⟩
  rw [h]
  exact ⟨rfl, hb⟩
theorem sub_not (h : (isB x y && isB u v) = false) : Calls Try.prog 12 #[.complex .f64 x y, .complex .f64 u v] w fun e w' => e = .returned (.tuple #[.complex .f64 0 0, .int .i64 1]) ∧ Below w.heap.size w w' := by
  refine (sub_any x y u v w).mono ?_
  rintro e w' ⟨r1, r2, rfl, _, _, hb⟩
  rw [h]
  exact ⟨rfl, hb⟩
end
set_option maxHeartbeats 1600000 in
set_option maxRecDepth 100000 in
theorem odd_no (x y : Nat) (w : World) (h : isB x y = false) : Calls Try.prog 4 #[.float .f64 x, .float .f64 y] w fun e w' => e = .returned (.bool true) ∧ Below w.heap.size w w' := by
  have A1 := hid (fun w => add_not (x := x) (y := y) (u := 0) (v := 0) w (by rw [h]; rfl))
  have S1 := hid (fun w => sub_not (x := x) (y := y) (u := 0) (v := 0) w (by rw [h]; rfl))
  have A2 := hid (fun w => add_not (x := 0) (y := 0) (u := x) (v := y) w (by rw [h, Bool.and_false]))
  have C1 := hid (fun w => covers_not x y 0 0 w (by rw [h]; rfl))
  have C2 := hid (fun w => covers_not x y x y w (by rw [h]; rfl))
  have L1 := hid (fun w => least_not x y 4607182418800017408 0 w (by rw [h]; rfl))
  have I1 := hid (fun w => is_any x y w)
  have U1 := hid (fun w => up_any x y w)
  have D1 := hid (fun w => down_any x y w)
  obtain ⟨hu, hd⟩ := isB_no h
  rw [hu] at U1
  rw [hd] at D1
  rw [h] at I1
  clear hu hd
  unfold isB at h
  have z0 : FloatKind.f64.format.order 0 0 = some .eq := by decide
  rcases part_cases x with ⟨h1, k1⟩ | ⟨h1, h2, k1⟩ | ⟨h1, h2, t, h3, h4⟩
  rotate_left 2
  · have hv1 : floatOfInt .f64 (t : Int) = fw t := V_of
    have hc1 : ∀ w : World, (convert 33 2 (.float .f64 x)).run Try.prog w = .ok (.int .i64 (t : Int)) w := fun w => run_convert_float_int w _ _ _ _ _ _ (by kernel_rfl) Try.underlying2 h3
    generalize fw t = f1 at hv1 h4
    clear h3
    rcases hx : cb x with _ | _
    rotate_left 1
    · rw [hx, Bool.true_and] at h
      rw [hx] at h4
      clear hx
      rcases part_cases y with ⟨g1, k2⟩ | ⟨g1, g2, k2⟩ | ⟨g1, g2, s, g3, g4⟩
      rotate_left 2
      · have hv2 : floatOfInt .f64 (s : Int) = fw s := V_of
        have hc2 : ∀ w : World, (convert 33 2 (.float .f64 y)).run Try.prog w = .ok (.int .i64 (s : Int)) w := fun w => run_convert_float_int w _ _ _ _ _ _ (by kernel_rfl) Try.underlying2 g3
        generalize fw s = f2 at hv2 g4
        clear g3
        rw [h] at g4
        clear h
        go_enter Try.func4, Try.ntmps4
        go_upto_region 8 with (first
          | (go_at_call 5; go_must (refine (first_any _).mono ?_; rintro e w1 ⟨rfl, rfl⟩))
          | (go_at_call 11; (with_reducible refine (A1.out _).mono ?_); rintro e w1 ⟨rfl, hb1⟩; have HB1 := hid hb1; clear hb1)
          | (go_at_call 12; (with_reducible refine (S1.out _).mono ?_); rintro e w2 ⟨rfl, hb2⟩; have HB2 := hid (HB1.out.trans (hb2.mono HB1.out.size)); clear hb2)
          | (go_at_call 11; (with_reducible refine (A2.out _).mono ?_); rintro e w3 ⟨rfl, hb3⟩; have HB3 := hid (HB2.out.trans (hb3.mono HB2.out.size)); clear hb3))
        go_wp2_with (first
          | (go_at_call 5; go_must (refine (first_any _).mono ?_; rintro e w1 ⟨rfl, rfl⟩))
          | (go_at_call 9; (with_reducible refine (I1.out _).mono ?_); rintro e w1 ⟨rfl, rfl⟩)
          | (go_at_call 7; (with_reducible refine (U1.out _).mono ?_); rintro e w1 ⟨rfl, rfl⟩)
          | (go_at_call 8; (with_reducible refine (D1.out _).mono ?_); rintro e w1 ⟨rfl, rfl⟩)
          | (go_at_call 13; (with_reducible refine (L1.out _).mono ?_); rintro e w1 ⟨rfl, rfl⟩)
          | (go_at_call 10; (with_reducible refine (C1.out _).mono ?_); rintro e w1 ⟨rfl, rfl⟩)
          | (go_at_call 10; (with_reducible refine (C2.out _).mono ?_); rintro e w1 ⟨rfl, rfl⟩))
        go_ret
        exact ⟨rfl, HB3.out⟩
      all_goals
        clear k2 h
        go_enter Try.func4, Try.ntmps4
        go_upto_region 8 with (first
          | (go_at_call 5; go_must (refine (first_any _).mono ?_; rintro e w1 ⟨rfl, rfl⟩))
          | (go_at_call 11; (with_reducible refine (A1.out _).mono ?_); rintro e w1 ⟨rfl, hb1⟩; have HB1 := hid hb1; clear hb1)
          | (go_at_call 12; (with_reducible refine (S1.out _).mono ?_); rintro e w2 ⟨rfl, hb2⟩; have HB2 := hid (HB1.out.trans (hb2.mono HB1.out.size)); clear hb2)
          | (go_at_call 11; (with_reducible refine (A2.out _).mono ?_); rintro e w3 ⟨rfl, hb3⟩; have HB3 := hid (HB2.out.trans (hb3.mono HB2.out.size)); clear hb3))
        go_wp2_with (first
          | (go_at_call 5; go_must (refine (first_any _).mono ?_; rintro e w1 ⟨rfl, rfl⟩))
          | (go_at_call 9; (with_reducible refine (I1.out _).mono ?_); rintro e w1 ⟨rfl, rfl⟩)
          | (go_at_call 7; (with_reducible refine (U1.out _).mono ?_); rintro e w1 ⟨rfl, rfl⟩)
          | (go_at_call 8; (with_reducible refine (D1.out _).mono ?_); rintro e w1 ⟨rfl, rfl⟩)
          | (go_at_call 13; (with_reducible refine (L1.out _).mono ?_); rintro e w1 ⟨rfl, rfl⟩)
          | (go_at_call 10; (with_reducible refine (C1.out _).mono ?_); rintro e w1 ⟨rfl, rfl⟩)
          | (go_at_call 10; (with_reducible refine (C2.out _).mono ?_); rintro e w1 ⟨rfl, rfl⟩))
        go_ret
        exact ⟨rfl, HB3.out⟩
    · rw [hx] at h4
      clear hx h
      go_enter Try.func4, Try.ntmps4
      go_upto_region 8 with (first
        | (go_at_call 5; go_must (refine (first_any _).mono ?_; rintro e w1 ⟨rfl, rfl⟩))
        | (go_at_call 11; (with_reducible refine (A1.out _).mono ?_); rintro e w1 ⟨rfl, hb1⟩; have HB1 := hid hb1; clear hb1)
        | (go_at_call 12; (with_reducible refine (S1.out _).mono ?_); rintro e w2 ⟨rfl, hb2⟩; have HB2 := hid (HB1.out.trans (hb2.mono HB1.out.size)); clear hb2)
        | (go_at_call 11; (with_reducible refine (A2.out _).mono ?_); rintro e w3 ⟨rfl, hb3⟩; have HB3 := hid (HB2.out.trans (hb3.mono HB2.out.size)); clear hb3))
      go_wp2_with (first
        | (go_at_call 5; go_must (refine (first_any _).mono ?_; rintro e w1 ⟨rfl, rfl⟩))
        | (go_at_call 9; (with_reducible refine (I1.out _).mono ?_); rintro e w1 ⟨rfl, rfl⟩)
        | (go_at_call 7; (with_reducible refine (U1.out _).mono ?_); rintro e w1 ⟨rfl, rfl⟩)
        | (go_at_call 8; (with_reducible refine (D1.out _).mono ?_); rintro e w1 ⟨rfl, rfl⟩)
        | (go_at_call 13; (with_reducible refine (L1.out _).mono ?_); rintro e w1 ⟨rfl, rfl⟩)
        | (go_at_call 10; (with_reducible refine (C1.out _).mono ?_); rintro e w1 ⟨rfl, rfl⟩)
        | (go_at_call 10; (with_reducible refine (C2.out _).mono ?_); rintro e w1 ⟨rfl, rfl⟩))
      go_ret
      exact ⟨rfl, HB3.out⟩
  all_goals
    clear k1 h
    go_enter Try.func4, Try.ntmps4
    go_upto_region 8 with (first
      | (go_at_call 5; go_must (refine (first_any _).mono ?_; rintro e w1 ⟨rfl, rfl⟩))
      | (go_at_call 11; (with_reducible refine (A1.out _).mono ?_); rintro e w1 ⟨rfl, hb1⟩; have HB1 := hid hb1; clear hb1)
      | (go_at_call 12; (with_reducible refine (S1.out _).mono ?_); rintro e w2 ⟨rfl, hb2⟩; have HB2 := hid (HB1.out.trans (hb2.mono HB1.out.size)); clear hb2)
      | (go_at_call 11; (with_reducible refine (A2.out _).mono ?_); rintro e w3 ⟨rfl, hb3⟩; have HB3 := hid (HB2.out.trans (hb3.mono HB2.out.size)); clear hb3))
    go_wp2_with (first
      | (go_at_call 5; go_must (refine (first_any _).mono ?_; rintro e w1 ⟨rfl, rfl⟩))
      | (go_at_call 9; (with_reducible refine (I1.out _).mono ?_); rintro e w1 ⟨rfl, rfl⟩)
      | (go_at_call 7; (with_reducible refine (U1.out _).mono ?_); rintro e w1 ⟨rfl, rfl⟩)
      | (go_at_call 8; (with_reducible refine (D1.out _).mono ?_); rintro e w1 ⟨rfl, rfl⟩)
      | (go_at_call 13; (with_reducible refine (L1.out _).mono ?_); rintro e w1 ⟨rfl, rfl⟩)
      | (go_at_call 10; (with_reducible refine (C1.out _).mono ?_); rintro e w1 ⟨rfl, rfl⟩)
      | (go_at_call 10; (with_reducible refine (C2.out _).mono ?_); rintro e w1 ⟨rfl, rfl⟩))
    go_ret
    exact ⟨rfl, HB3.out⟩

set_option maxHeartbeats 1600000 in
set_option maxRecDepth 100000 in
theorem odd_yes (x y : Nat) (w : World) (h : isB x y = true) : Calls Try.prog 4 #[.float .f64 x, .float .f64 y] w fun e w' => e = .returned (.bool true) ∧ Below w.heap.size w w' := by
  have b1 : (2 : Nat) ^ 50 = 1125899906842624 := by decide
  unfold isB at h
  rw [Bool.and_eq_true] at h
  obtain ⟨hx, hy⟩ := h
  obtain ⟨vx, lx, _⟩ := cb_V hx
  obtain ⟨vy, ly, _⟩ := cb_V hy
  rw [b1] at lx ly
  have b2 : (2 : Nat) ^ 53 = 9007199254740992 := by decide
  have fx := V_eq (V_fw (n := tr x) (by omega)) vx
  have fy := V_eq (V_fw (n := tr y) (by omega)) vy
  clear b1 b2
  have e1 : ∀ t : Nat, floatToIntVal .f64 x .i64 = some (t : Int) → t = tr x := fun t ht => by unfold tr; rw [ht]; rfl
  have e2 : ∀ t : Nat, floatToIntVal .f64 y .i64 = some (t : Int) → t = tr y := fun t ht => by unfold tr; rw [ht]; rfl
  rcases part_cases x with ⟨_, k1⟩ | ⟨_, _, k1⟩ | ⟨h1, h2, t, h3, h4⟩
  · rw [hx] at k1; cases k1
  · rw [hx] at k1; cases k1
  rcases part_cases y with ⟨_, k1⟩ | ⟨_, _, k1⟩ | ⟨g1, g2, s, g3, g4⟩
  · rw [hy] at k1; cases k1
  · rw [hy] at k1; cases k1
  obtain rfl := e1 t h3
  obtain rfl := e2 s g3
  clear e1 e2
  rw [hx] at h4
  rw [hy] at g4
  clear hx hy
  have hv1 : floatOfInt .f64 ((tr x : Nat) : Int) = fw (tr x) := V_of
  have hc1 : ∀ w : World, (convert 33 2 (.float .f64 x)).run Try.prog w = .ok (.int .i64 ((tr x : Nat) : Int)) w := fun w => run_convert_float_int w _ _ _ _ _ _ (by kernel_rfl) Try.underlying2 h3
  have hv2 : floatOfInt .f64 ((tr y : Nat) : Int) = fw (tr y) := V_of
  have hc2 : ∀ w : World, (convert 33 2 (.float .f64 y)).run Try.prog w = .ok (.int .i64 ((tr y : Nat) : Int)) w := fun w => run_convert_float_int w _ _ _ _ _ _ (by kernel_rfl) Try.underlying2 g3
  clear h3 g3
  generalize fw (tr x) = f1 at *
  generalize fw (tr y) = f2 at *
  generalize tr x = n at *
  generalize tr y = m at *
  have I1 := hid (fun w => is_V w vx vy lx ly)
  have U1 := hid (fun w => up_V w vx vy lx ly)
  have D1 := hid (fun w => down_V w vx vy lx ly)
  have A1 := hid (fun w => add_yes w vx vy V_zero V_zero (p := 0) (q := 0) (by omega) (by omega))
  have S1 := hid (fun w => sub_yes w vx vy V_zero V_zero (p := 0) (q := 0) lx ly (by omega) (by omega))
  have A2 := hid (fun w => add_yes w V_zero V_zero vx vy (n := 0) (m := 0) (by omega) (by omega))
  have C1 := hid (fun w => covers_V x y 0 0 n m 0 0 w vx vy V_zero V_zero lx ly (by omega) (by omega))
  have C2 := hid (fun w => covers_V x y x y n m n m w vx vy vx vy lx ly lx ly)
  rw [decide_eq_true (show 0 ≤ n ∧ 0 ≤ m by omega)] at C1
  rw [decide_eq_true (show n ≤ n ∧ m ≤ m by omega)] at C2
  rw [Nat.zero_add, Nat.zero_add] at A2
  have vx := hid vx
  have vy := hid vy
  clear lx ly
  go_enter Try.func4, Try.ntmps4
  go_upto_region 8 with (first
    | (go_at_call 5; go_must (refine (first_any _).mono ?_; rintro e w1 ⟨rfl, rfl⟩))
    | (go_at_call 11; (with_reducible refine (A1.out _).mono ?_); rintro e w1 ⟨r1, r2, rfl, _, _, hb1⟩; have HB1 := hid hb1; clear hb1)
    | (go_at_call 12; (with_reducible refine (S1.out _).mono ?_); rintro e w2 ⟨r3, r4, rfl, _, _, hb2⟩; have HB2 := hid (HB1.out.trans (hb2.mono HB1.out.size)); clear hb2)
    | (go_at_call 11; (with_reducible refine (A2.out _).mono ?_); rintro e w3 ⟨r5, r6, rfl, k5, k6, hb3⟩; have HB3 := hid (HB2.out.trans (hb3.mono HB2.out.size)); clear hb3))
  have o1 := V_eq k5 vx.out
  have o2 := V_eq k6 vy.out
  clear k5 k6
  go_wp2_with (first
    | (go_at_call 5; go_must (refine (first_any _).mono ?_; rintro e w1 ⟨rfl, rfl⟩))
    | (go_at_call 9; (with_reducible refine (I1.out _).mono ?_); rintro e w1 ⟨rfl, rfl⟩)
    | (go_at_call 7; (with_reducible refine (U1.out _).mono ?_); rintro e w1 ⟨rfl, rfl⟩)
    | (go_at_call 8; (with_reducible refine (D1.out _).mono ?_); rintro e w1 ⟨rfl, rfl⟩)
    | (go_at_call 10; (with_reducible refine (C1.out _).mono ?_); rintro e w1 ⟨rfl, rfl⟩)
    | (go_at_call 10; (with_reducible refine (C2.out _).mono ?_); rintro e w1 ⟨rfl, rfl⟩))
  go_ret
  exact ⟨rfl, HB3.out⟩
theorem odd_walk (x y : Nat) (w : World) : Calls Try.prog 4 #[.float .f64 x, .float .f64 y] w fun e w' => e = .returned (.bool true) ∧ Below w.heap.size w w' := by
  rcases h : isB x y with _ | _
  · exact odd_no x y w h
  · exact odd_yes x y w h
end Go.Proofs.Ytjbkpgapdjnecaa
