/- Arguments of plain types in a seat without slices: ints and doubles. No condition. -/
import Derived.Test.YtjbkpgapdjnecaaLaw
import Derived.Laws.Cover2
import Derived.Deep.Slices
namespace Go.Proofs.Ytjbkpgapdjnecaa
open Go.ChangeShapes Go.WideShapes Go.ChangeAt Go.RowKit

section
variable {H : Type} {enc : TypeId × Value → H} {W : World} {b0 base : Nat} {spare : Nat → Bool} {held : Bool} {v : Value} {d : DataW H} {p : List MemPlace}

/-- An int. -/
theorem arg_int (hv : Value.okWide Try.prog W .any b0 3 v) (h : DataW.Trod enc Try.prog W base spare held 3 v d p) :
    ∃ n, v = .int .i64 n ∧ -9223372036854775808 ≤ n ∧ n ≤ 9223372036854775807 := by
  obtain ⟨n, rfl, _, _, hw⟩ := open_int Try.underlying3 hv h
  have := bounds_i64 hw
  exact ⟨n, rfl, by omega, by omega⟩

/-! A double. -/
theorem arg_float (hv : Value.okWide Try.prog W .any b0 33 v) (h : DataW.Trod enc Try.prog W base spare held 33 v d p) : ∃ x, v = .float .f64 x := by
  obtain ⟨x, rfl, _⟩ := open_float Try.underlying33 hv h
  exact ⟨x, rfl⟩

theorem trodAll_four {P : Program} {w : World} {t0 t1 t2 t3 : TypeId} {args : Array Value} {ds : List (DataW H)} {ps : List MemPlace} (h : DataW.TrodAll enc P w base spare held [t0, t1, t2, t3] args.toList ds ps) :
    ∃ v0 v1 v2 v3 d0 d1 d2 d3 p0 p1 p2 p3, args = #[v0, v1, v2, v3] ∧ ds = [d0, d1, d2, d3] ∧ ps = p0 ++ p1 ++ p2 ++ p3 ∧ DataW.Trod enc P w base spare held t0 v0 d0 p0 ∧ DataW.Trod enc P w base spare held t1 v1 d1 p1 ∧ DataW.Trod enc P w base spare held t2 v2 d2 p2 ∧ DataW.Trod enc P w base spare held t3 v3 d3 p3 := by
  obtain ⟨v0, vs0, d0, ds0, p0, q0, hargs, rfl, rfl, hd0, hr0⟩ := trodAll_cons h
  obtain ⟨v1, vs1, d1, ds1, p1, q1, rfl, rfl, rfl, hd1, hr1⟩ := trodAll_cons hr0
  obtain ⟨v2, vs2, d2, ds2, p2, q2, rfl, rfl, rfl, hd2, hr2⟩ := trodAll_cons hr1
  obtain ⟨v3, vs3, d3, ds3, p3, q3, rfl, rfl, rfl, hd3, hr3⟩ := trodAll_cons hr2
  obtain ⟨rfl, rfl, rfl⟩ := trodAll_nil hr3
  exact ⟨v0, v1, v2, v3, d0, d1, d2, d3, p0, p1, p2, p3, by cases args; simp_all, rfl, by simp, hd0, hd1, hd2, hd3⟩
end
end Go.Proofs.Ytjbkpgapdjnecaa
