/- What the functions of tally answer, each once. No condition. -/
import Derived.Test.YtefhadfcipifmaaMixZ
import Derived.Test.YtefhadfcipifmaaFloat
import Derived.WalkMore
import Derived.Outline
import Derived.Deep.DeepCutAuto
namespace Go.Proofs.Ytefhadfcipifmaa
open Go.RowKit
attribute [local go_sem] kd kdS

/-- What a part is cut to; whether it is one; what count tells of it. -/
def tr (x : Nat) : Nat := ((floatToIntVal .f64 x .i64).getD 0).toNat
def cb (x : Nat) : Bool := inR x && (FloatKind.f64.format.order (fw (tr x)) x == some .eq)
def cn (x : Nat) : Nat := if inR x = true then tr x else 0
theorem cb_V {x : Nat} (h : cb x = true) : V x (tr x) ∧ tr x ≤ 2 ^ 50 ∧ cn x = tr x := by
  unfold cb at h
  simp only [Bool.and_eq_true, beq_iff_eq] at h
  obtain ⟨t, h1, h2, h3⟩ := in_int h.1
  have e : tr x = t := by unfold tr; rw [h2]; rfl
  rw [e] at h ⊢
  exact ⟨h3 h.2, h1, by unfold cn; rw [if_pos h.1, e]⟩
theorem V_tr {x n : Nat} (h : V x n) (hn : n < 2 ^ 53) : tr x = n := by
  unfold tr
  rw [V_int h hn]
  rfl
theorem V_cb {x n : Nat} (h : V x n) (hn : n < 2 ^ 53) : cb x = decide (n ≤ 2 ^ 50) := by
  unfold cb
  rw [V_in h, V_tr h hn, V_order (V_fw hn) h]
  have : compare n n = .eq := by
    show compareOfLessAndEq n n = _
    unfold compareOfLessAndEq
    rw [if_neg (by omega), if_pos rfl]
  rw [this]
  simp

set_option maxHeartbeats 400000 in
set_option maxRecDepth 100000 in
theorem count_any (x : Nat) (w : World) : Calls Try.prog 42 #[.float .f64 x] w fun e w' => e = .returned (.tuple #[.int .i64 (cn x : Nat), .bool (cb x)]) ∧ w = w' := by
  by_cases hin : inR x = true
  · obtain ⟨t, ht, hv, _⟩ := in_int hin
    have e : tr x = t := by unfold tr; rw [hv]; rfl
    have hcn : cn x = t := by unfold cn; rw [if_pos hin, e]
    have hcb : cb x = (FloatKind.f64.format.order (fw t) x == some .eq) := by unfold cb; rw [hin, e]; rfl
    rw [hcn, hcb]
    have hcv : ∀ w : World, (convert 71 3 (.float .f64 x)).run Try.prog w = .ok (.int .i64 (t : Int)) w := fun w => run_convert_float_int w _ _ _ _ _ _ (by kernel_rfl) Try.underlying3 hv
    have hvo : floatOfInt .f64 (t : Int) = fw t := V_of
    generalize hfw : fw t = ft at hvo
    have hin2 := hin
    unfold inR at hin2
    clear hin hv e hcn hcb hfw
    rcases h0 : FloatKind.f64.format.order x 0 with _ | (_ | _ | _) <;> rcases h1 : FloatKind.f64.format.order x 4832362400168542208 with _ | (_ | _ | _)
    all_goals first
      | (exfalso; rw [h0, h1] at hin2; revert hin2; decide)
      | skip
    all_goals
      clear hin2
      go_enter Try.func42, Try.ntmps42
      go_wp2_with fail
      refine bodyPost_ret (v := .tuple #[.int .i64 (t : Int), .bool (FloatKind.f64.format.order ft x == some .eq)]) (by simp [results, Try.results42, go_sem]) rfl ?_
      exact ⟨rfl, rfl⟩
  · have hin : inR x = false := by simpa using hin
    have hcn : cn x = 0 := by unfold cn; rw [hin]; rfl
    have hcb : cb x = false := by unfold cb; rw [hin]; rfl
    rw [hcn, hcb]
    have hin2 := hin
    unfold inR at hin2
    clear hin hcn hcb
    rcases h0 : FloatKind.f64.format.order x 0 with _ | (_ | _ | _) <;> rcases h1 : FloatKind.f64.format.order x 4832362400168542208 with _ | (_ | _ | _)
    all_goals first
      | (exfalso; rw [h0, h1] at hin2; revert hin2; decide)
      | skip
    all_goals
      clear hin2
      go_enter Try.func42, Try.ntmps42
      go_wp2_with fail
      refine bodyPost_ret (v := .tuple #[.int .i64 0, .bool false]) (by simp [results, Try.results42, go_sem]) rfl ?_
      exact ⟨rfl, rfl⟩

/-- Is it a pair; what comes out as its parts. -/
def isB (x y : Nat) : Bool := cb x && cb y
def upN (x y : Nat) : Nat := if isB x y = true then cn x else 0
def downN (x y : Nat) : Nat := if isB x y = true then cn y else 0
set_option maxHeartbeats 400000 in
set_option maxRecDepth 100000 in
theorem parts_any (x y : Nat) (w : World) : Calls Try.prog 38 #[.complex .f64 x y] w fun e w' => e = .returned (.tuple #[.int .i64 (upN x y : Nat), .int .i64 (downN x y : Nat), .bool (isB x y)]) ∧ w = w' := by
  rcases hx : cb x with _ | _ <;> rcases hy : cb y with _ | _
  all_goals
    go_enter Try.func38, Try.ntmps38
    go_upto_region 2 with (go_at_call 42; go_must (refine (count_any x _).mono ?_; rw [hx]; rintro e w1 ⟨rfl, rfl⟩))
    go_wp2_with (go_at_call 42; go_must (refine (count_any y _).mono ?_; rw [hy]; rintro e w1 ⟨rfl, rfl⟩))
  iterate 3
    · have hi : isB x y = false := by unfold isB; rw [hx, hy]; rfl
      unfold upN downN
      rw [hi]
      refine bodyPost_ret (v := .tuple #[.int .i64 0, .int .i64 0, .bool false]) (by simp [results, Try.results38, go_sem]) rfl ?_
      exact ⟨rfl, rfl⟩
  · have hi : isB x y = true := by unfold isB; rw [hx, hy]; rfl
    unfold upN downN
    rw [hi]
    refine bodyPost_ret (v := .tuple #[.int .i64 (cn x : Nat), .int .i64 (cn y : Nat), .bool true]) (by simp [results, Try.results38, go_sem]) rfl ?_
    exact ⟨rfl, rfl⟩

theorem is_any (x y : Nat) (w : World) : Calls Try.prog 44 #[.complex .f64 x y] w fun e w' => e = .returned (.bool (isB x y)) ∧ w = w' := by
  go_enter Try.func44, Try.ntmps44
  go_wp2_with (go_at_call 38; go_must (refine (parts_any x y _).mono ?_; rintro e w1 ⟨rfl, rfl⟩))
  go_ret
  exact ⟨rfl, rfl⟩
theorem up_any (x y : Nat) (w : World) : Calls Try.prog 24 #[.complex .f64 x y] w fun e w' => e = .returned (.int .i64 ((upN x y : Nat) : Int)) ∧ w = w' := by
  go_enter Try.func24, Try.ntmps24
  go_wp2_with (go_at_call 38; go_must (refine (parts_any x y _).mono ?_; rintro e w1 ⟨rfl, rfl⟩))
  go_ret
  exact ⟨rfl, rfl⟩
theorem down_any (x y : Nat) (w : World) : Calls Try.prog 26 #[.complex .f64 x y] w fun e w' => e = .returned (.int .i64 ((downN x y : Nat) : Int)) ∧ w = w' := by
  go_enter Try.func26, Try.ntmps26
  go_wp2_with (go_at_call 38; go_must (refine (parts_any x y _).mono ?_; rintro e w1 ⟨rfl, rfl⟩))
  go_ret
  exact ⟨rfl, rfl⟩

/-- What comes out of pair. -/
def pairZ (x y : Nat) (b : Bool) : Value := if b = true then .complex .f64 x y else .complex .f64 0 0
def pairN (b : Bool) : Int := if b = true then 0 else 1
set_option maxHeartbeats 400000 in
set_option maxRecDepth 100000 in
theorem pair_any (x y : Nat) (may : Bool) (w : World) : Calls Try.prog 43 #[.complex .f64 x y, .bool may] w fun e w' => e = .returned (.tuple #[pairZ x y (may && isB x y), .int .i64 (pairN (may && isB x y))]) ∧ w = w' := by
  rcases hb : isB x y with _ | _ <;> rcases may with _ | _
  all_goals
    go_enter Try.func43, Try.ntmps43
    go_wp2_with (go_at_call 44; go_must (refine (is_any x y _).mono ?_; rw [hb]; rintro e w1 ⟨rfl, rfl⟩))
  iterate 3
    · refine bodyPost_ret (v := .tuple #[.complex .f64 0 0, .int .i64 1]) (by simp [results, Try.results43, go_sem]) rfl ?_
      exact ⟨rfl, rfl⟩
  · refine bodyPost_ret (v := .tuple #[.complex .f64 x y, .int .i64 0]) (by simp [results, Try.results43, go_sem]) rfl ?_
    exact ⟨rfl, rfl⟩

theorem carith_any {P : Program} {op : BinOp} (hop : op = .add ∨ op = .sub) (x u : Nat) (w : World) : ∃ r w1, (Op.Complex.arith op .f64 x u).run P w = .ok r w1 ∧ (w1 = w ∨ w1 = w.drew) ∧ ∀ a, floatBits op .f64 x u = some a → r = a := by
  rcases h : floatBits op .f64 x u with _ | r
  · have : ∃ r, (Op.Complex.arith op .f64 x u).run P w = .ok r w.drew := by
      unfold floatBits at h
      rcases hop with rfl | rfl
      all_goals
        simp only at h
        simp [Op.Complex.arith, Op.floatArith, h, choose]
        exact ⟨_, rfl⟩
    obtain ⟨r, hr⟩ := this
    exact ⟨r, _, hr, .inr rfl, fun a ha => by cases ha⟩
  · exact ⟨r, w, run_carith w h, .inl rfl, fun a ha => by injection ha⟩


theorem isB_V {x y n m : Nat} (h : V x n) (h' : V y m) (hn : n < 2 ^ 53) (hm : m < 2 ^ 53) : isB x y = (decide (n ≤ 2 ^ 50) && decide (m ≤ 2 ^ 50)) := by
  unfold isB
  rw [V_cb h hn, V_cb h' hm]
theorem isB_yes {x y n m : Nat} (h : V x n) (h' : V y m) (hn : n ≤ 1125899906842624) (hm : m ≤ 1125899906842624) : isB x y = true ∧ upN x y = n ∧ downN x y = m := by
  have b1 : (2 : Nat) ^ 50 = 1125899906842624 := by decide
  have b2 : (2 : Nat) ^ 53 = 9007199254740992 := by decide
  have hb : isB x y = true := by
    rw [isB_V h h' (by omega) (by omega), b1, decide_eq_true hn, decide_eq_true hm]
    rfl
  have hb' := hb
  unfold isB at hb'
  rw [Bool.and_eq_true] at hb'
  refine ⟨hb, ?_, ?_⟩
  · unfold upN
    rw [if_pos hb, (cb_V hb'.1).2.2, V_tr h (by omega)]
  · unfold downN
    rw [if_pos hb, (cb_V hb'.2).2.2, V_tr h' (by omega)]
theorem isB_no {x y : Nat} (h : isB x y = false) : upN x y = 0 ∧ downN x y = 0 := by
  unfold upN downN
  rw [h]
  exact ⟨rfl, rfl⟩

set_option maxHeartbeats 400000 in
set_option maxRecDepth 100000 in
theorem pair_yes (a b : Nat) (w : World) (ha : a ≤ 1125899906842624) (hb : b ≤ 1125899906842624) : Calls Try.prog 41 #[.int .i64 a, .int .i64 b] w fun e w' => e = .returned (.tuple #[.complex .f64 (fw a) (fw b), .int .i64 0]) ∧ w = w' := by
  have b2 : (2 : Nat) ^ 53 = 9007199254740992 := by decide
  have hB := hid (isB_yes (V_fw (n := a) (by omega)) (V_fw (n := b) (by omega)) ha hb).1
  have hv1 : floatOfInt .f64 (a : Int) = fw a := V_of
  have hv2 : floatOfInt .f64 (b : Int) = fw b := V_of
  clear b2
  have ha1 : (a : Int) ≤ 1125899906842624 := by omega
  have hb1 : (b : Int) ≤ 1125899906842624 := by omega
  generalize fw a = x at hv1 hB
  generalize fw b = y at hv2 hB
  go_enter Try.func41, Try.ntmps41
  go_wp2_with (go_at_call 43; go_must (refine (pair_any x y _ _).mono ?_; rw [hB.out]; rintro e w2 ⟨rfl, rfl⟩))
  refine bodyPost_ret (v := .tuple #[.complex .f64 x y, .int .i64 0]) (by simp [results, Try.results41, go_sem, pairZ, pairN]) rfl ?_
  exact ⟨rfl, rfl⟩
set_option maxHeartbeats 400000 in
set_option maxRecDepth 100000 in
theorem pair_not (a b : Int) (w : World) (h : ¬ (0 ≤ a ∧ a ≤ 1125899906842624 ∧ 0 ≤ b ∧ b ≤ 1125899906842624)) : Calls Try.prog 41 #[.int .i64 a, .int .i64 b] w fun e w' => e = .returned (.tuple #[.complex .f64 0 0, .int .i64 1]) ∧ w = w' := by
  generalize hx : floatOfInt .f64 a = x
  generalize hy : floatOfInt .f64 b = y
  rcases (show a < 0 ∨ (0 ≤ a ∧ 1125899906842624 < a) ∨ (0 ≤ a ∧ a ≤ 1125899906842624 ∧ b < 0) ∨ (0 ≤ a ∧ a ≤ 1125899906842624 ∧ 0 ≤ b ∧ 1125899906842624 < b) by omega) with h1 | ⟨h1, h2⟩ | ⟨h1, h2, h3⟩ | ⟨h1, h2, h3, h4⟩
  all_goals
    clear h
    go_enter Try.func41, Try.ntmps41
    go_wp2_with (go_at_call 43; go_must (refine (pair_any x y _ _).mono ?_; rintro e w2 ⟨rfl, rfl⟩))
    refine bodyPost_ret (v := .tuple #[.complex .f64 0 0, .int .i64 1]) (by first | (simp [results, Try.results41, go_sem, pairZ, pairN]; done) | (simp [results, Try.results41, go_sem, pairZ, pairN]; constructor <;> intro h <;> omega)) rfl ?_
    exact ⟨rfl, rfl⟩

theorem cmp_le {n m : Nat} : (some (compare n m) == some Ordering.lt || some (compare n m) == some Ordering.eq) = decide (n ≤ m) := by
  show ((some (compareOfLessAndEq n m) == some Ordering.lt) || (some (compareOfLessAndEq n m) == some Ordering.eq)) = _
  unfold compareOfLessAndEq
  by_cases h : n < m
  · rw [if_pos h, decide_eq_true (by omega)]
    rfl
  · rw [if_neg h]
    by_cases h' : n = m
    · rw [if_pos h', decide_eq_true (by omega)]
      rfl
    · rw [if_neg h', decide_eq_false (by omega)]
      rfl
theorem cmp_cases (n m : Nat) : (n < m ∧ compare n m = .lt) ∨ (n = m ∧ compare n m = .eq) ∨ (m < n ∧ compare n m = .gt) := by
  show (n < m ∧ compareOfLessAndEq n m = .lt) ∨ (n = m ∧ compareOfLessAndEq n m = .eq) ∨ (m < n ∧ compareOfLessAndEq n m = .gt)
  unfold compareOfLessAndEq
  by_cases h : n < m
  · exact .inl ⟨h, if_pos h⟩
  · rw [if_neg h]
    by_cases h' : n = m
    · exact .inr (.inl ⟨h', if_pos h'⟩)
    · exact .inr (.inr ⟨by omega, if_neg h'⟩)


theorem min_V {a b n m : Nat} (ha : V a n) (hb : V b m) : ∃ r, V r (min n m) ∧ ∀ (P : Program) (ts : Array TypeId) (t : TypeId) (w : World), (Builtin.min_ ts t #[.float .f64 a, .float .f64 b]).run P w = .ok (.float .f64 r) w := by
  have o := V_order ha hb
  rcases cmp_cases n m with ⟨h1, e1⟩ | ⟨h1, e1⟩ | ⟨h1, e1⟩
  · rw [e1] at o
    exact ⟨a, by rw [Nat.min_eq_left (by omega)]; exact ha, fun P ts t w => by simp [Builtin.min_, Builtin.min2, o]⟩
  · rw [e1] at o
    subst h1
    refine ⟨if (FloatKind.f64.decode a).neg then a else b, ?_, fun P ts t w => by simp [Builtin.min_, Builtin.min2, o]⟩
    rw [Nat.min_self]
    split
    · exact ha
    · exact hb
  · rw [e1] at o
    exact ⟨b, by rw [Nat.min_eq_right (by omega)]; exact hb, fun P ts t w => by simp [Builtin.min_, Builtin.min2, o]⟩

end Go.Proofs.Ytefhadfcipifmaa
