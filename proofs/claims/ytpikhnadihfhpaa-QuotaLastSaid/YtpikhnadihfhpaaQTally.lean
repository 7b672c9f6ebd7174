/- What Sub, Up, Down and Is answer of numbers that are parts. Each lemma names its own conditions. -/
import Derived.Test.YtpikhnadihfhpaaTally
namespace Go.Proofs.Ytpikhnadihfhpaa
open Go.RowKit
attribute [local go_sem] kd kdS

section
variable {x y u v n m p q : Nat} (w : World)
theorem sub_yes (hx : V x n) (hy : V y m) (hu : V u p) (hv : V v q) (hn : n ≤ 1125899906842624) (hm : m ≤ 1125899906842624) (h1 : p ≤ n) (h2 : q ≤ m) :
    Calls Try.prog 21 #[.complex .f64 x y, .complex .f64 u v] w fun e w' => ∃ r1 r2, e = .returned (.tuple #[.complex .f64 r1 r2, .int .i64 0]) ∧ V r1 (n - p) ∧ V r2 (m - q) ∧ Below w.heap.size w w' := by
  have b2 : (2 : Nat) ^ 53 = 9007199254740992 := by decide
  obtain ⟨s1, e1, k1⟩ := V_sub hx hu h1 (by omega)
  obtain ⟨s2, e2, k2⟩ := V_sub hy hv h2 (by omega)
  refine (sub_any x y u v w).mono ?_
  rintro e w' ⟨r1, r2, rfl, f1, f2, hb⟩
  obtain rfl := f1 _ e1
  obtain rfl := f2 _ e2
  rw [(isB_yes hx hy (by omega) (by omega)).1, (isB_yes hu hv (by omega) (by omega)).1, (isB_yes k1 k2 (by omega) (by omega)).1]
  exact ⟨_, _, rfl, k1, k2, hb⟩
theorem up_V (hx : V x n) (hy : V y m) (hn : n ≤ 1125899906842624) (hm : m ≤ 1125899906842624) : Calls Try.prog 13 #[.complex .f64 x y] w fun e w' => e = .returned (.int .i64 n) ∧ w = w' := by
  have h := up_any x y w
  rw [(isB_yes hx hy hn hm).2.1] at h
  exact h
theorem down_V (hx : V x n) (hy : V y m) (hn : n ≤ 1125899906842624) (hm : m ≤ 1125899906842624) : Calls Try.prog 15 #[.complex .f64 x y] w fun e w' => e = .returned (.int .i64 m) ∧ w = w' := by
  have h := down_any x y w
  rw [(isB_yes hx hy hn hm).2.2] at h
  exact h
theorem is_V (hx : V x n) (hy : V y m) (hn : n ≤ 1125899906842624) (hm : m ≤ 1125899906842624) : Calls Try.prog 18 #[.complex .f64 x y] w fun e w' => e = .returned (.bool true) ∧ w = w' := by
  have h := is_any x y w
  rw [(isB_yes hx hy hn hm).1] at h
  exact h
end
theorem csum_V {x y u v n m p q : Nat} (hx : V x n) (hy : V y m) (hu : V u p) (hv : V v q) (h1 : n + p < 2 ^ 53) (h2 : m + q < 2 ^ 53) :
    ∃ r1 r2, (∀ (P : Program) (t : TypeId) (w : World), (binOp .add t (.complex .f64 x y) (.complex .f64 u v)).run P w = .ok (.complex .f64 r1 r2) w) ∧ V r1 (n + p) ∧ V r2 (m + q) := by
  obtain ⟨r1, e1, v1⟩ := V_add hx hu h1
  obtain ⟨r2, e2, v2⟩ := V_add hy hv h2
  refine ⟨r1, r2, fun P t w => ?_, v1, v2⟩
  have c1 := run_carith (P := P) w e1
  have c2 := run_carith (P := P) w e2
  simp [binOp, Op.complexOp, c1, c2]
end Go.Proofs.Ytpikhnadihfhpaa
