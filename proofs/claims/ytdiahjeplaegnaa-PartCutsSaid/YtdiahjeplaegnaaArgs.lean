/- Arguments of plain types, opened to the words of these texts. No condition. -/
import Derived.Test.YtdiahjeplaegnaaOpen
import Derived.Test.YtdiahjeplaegnaaTurn
namespace Go.Proofs.Ytdiahjeplaegnaa
open Go.ChangeShapes Go.WideShapes Go.ChangeAt Go.RowKit Go.Deep

theorem TryA.cells_u8 : Try.prog.cellsOf 5 = 1 := by kernel_rfl
theorem TryA.cells_int : Try.prog.cellsOf 3 = 1 := by kernel_rfl
theorem TryA.bytes_u8 : Try.prog.bytesOf 5 = 1 := by kernel_rfl

section
variable {H : Type} {enc : TypeId × Value → H} {W : World} {b0 base : Nat} {spare : Nat → Bool} {held : Bool} {v : Value} {d : DataW H} {p : List MemPlace}

/-- A []byte. -/
theorem arg_bytes (hv : Value.okWide Try.prog W .any b0 25 v) (h : DataW.Trod enc Try.prog W base spare held 25 v d p) :
    ∃ A n c l, v = .slice A n c ∧ Bs W A n l ∧ n ≤ c ∧ n ≤ 9223372036854775807 ∧ (d = .nil ∧ n = 0 ∨ ∃ elems sp, d = .slice elems sp ∧ elems.length = n) := by
  obtain ⟨a0, len, cap, rfl⟩ := okWide_slice Try.underlying25 hv
  obtain ⟨fuel, hf⟩ := h
  obtain ⟨A, n, c, l, hcs, hb, hle, hm, hd⟩ := trod_bytes Try.underlying25 Try.underlying5 TryA.cells_u8 hf
  simp [Value.cells] at hcs
  obtain ⟨rfl, rfl, rfl⟩ := hcs
  exact ⟨_, _, _, l, rfl, hb, hle, by unfold maxLen at hm; omega, by
    rcases hd with ⟨h1, h2⟩ | ⟨e, sp, h1, h2, _⟩
    · exact .inl ⟨h1, by omega⟩
    · exact .inr ⟨e, sp, h1, h2⟩⟩

/-! A []int. -/
theorem arg_ints (hv : Value.okWide Try.prog W .any b0 37 v) (h : DataW.Trod enc Try.prog W base spare held 37 v d p) :
    ∃ A n c l, v = .slice A n c ∧ Is W A n l ∧ n ≤ c ∧ n ≤ 9223372036854775807 ∧ (d = .nil ∧ n = 0 ∨ ∃ elems sp, d = .slice elems sp ∧ elems.length = n) ∧ ∀ x ∈ l, -9223372036854775808 ≤ x ∧ x ≤ 9223372036854775807 := by
  obtain ⟨a0, len0, cap0, rfl⟩ := okWide_slice Try.underlying37 hv
  obtain ⟨fuel, hf⟩ := h
  rcases open_ints Try.underlying37 Try.underlying3 TryA.cells_int hf with ⟨hcs, hx⟩ | ⟨a, len, cap, zs, hcs, _, hl, hm, hz, hx, hcell, hwf⟩
  · simp [Value.cells] at hcs
    obtain ⟨rfl, rfl, rfl⟩ := hcs
    exact ⟨none, 0, 0, [], rfl, Rd.nil W 1 none, Nat.le_refl _, by omega, .inl ⟨by simpa using congrArg Prod.fst hx, rfl⟩, fun x hx => by cases hx⟩
  · simp [Value.cells] at hcs
    obtain ⟨rfl, rfl, rfl⟩ := hcs
    have hle : len0 ≤ zs.length := by rw [hz]; split <;> omega
    refine ⟨some a, len0, cap0, zs.take len0, rfl, ⟨by simp; omega, fun hn => ?_⟩, hl, by unfold maxLen at hm; omega, .inr ⟨lits .i64 (zs.take len0), lits .i64 (zs.drop len0), by simpa using congrArg Prod.fst hx, by simp [lits]; omega⟩, fun x hx => ?_⟩
    · obtain ⟨b, o, s⟩ := a
      have hs : s = none := by
        have := spot_none (hcell 0 (by omega))
        simpa [Addr.add] using this
      subst hs
      refine ⟨b, o, rfl, fun j u hu => ?_⟩
      have hj : j < len0 := by
        have := (List.getElem?_eq_some_iff.1 hu).1
        simp at this
        omega
      have h1 := hcell j (by omega)
      rw [add_plain] at h1
      rw [h1]
      have hjz : j < zs.length := by omega
      simp only [List.getElem?_map, List.getElem?_take, if_pos hj, List.getElem?_eq_getElem hjz, Option.map_some, Option.some.injEq] at hu
      rw [← hu]
      simp [List.getElem?_eq_getElem hjz]
    · have := bounds_i64 (hwf x (List.mem_of_mem_take hx))
      omega

/-- An int. -/
theorem arg_int (hv : Value.okWide Try.prog W .any b0 3 v) (h : DataW.Trod enc Try.prog W base spare held 3 v d p) :
    ∃ n, v = .int .i64 n ∧ -9223372036854775808 ≤ n ∧ n ≤ 9223372036854775807 := by
  obtain ⟨n, rfl, _, _, hw⟩ := open_int Try.underlying3 hv h
  have := bounds_i64 hw
  exact ⟨n, rfl, by omega, by omega⟩

/-- A byte. -/
theorem arg_byte (hv : Value.okWide Try.prog W .any b0 5 v) (h : DataW.Trod enc Try.prog W base spare held 5 v d p) :
    ∃ n, v = .int .u8 n ∧ 0 ≤ n ∧ n < 256 := by
  obtain ⟨n, rfl, _, _, hw⟩ := open_int Try.underlying5 hv h
  have := byte_wf hw
  exact ⟨n, rfl, by omega, by omega⟩

theorem trodAll_four {P : Program} {w : World} {t0 t1 t2 t3 : TypeId} {args : Array Value} {ds : List (DataW H)} {ps : List MemPlace} (h : DataW.TrodAll enc P w base spare held [t0, t1, t2, t3] args.toList ds ps) :
    ∃ v0 v1 v2 v3 d0 d1 d2 d3 p0 p1 p2 p3, args = #[v0, v1, v2, v3] ∧ ds = [d0, d1, d2, d3] ∧ ps = p0 ++ p1 ++ p2 ++ p3 ∧ DataW.Trod enc P w base spare held t0 v0 d0 p0 ∧ DataW.Trod enc P w base spare held t1 v1 d1 p1 ∧ DataW.Trod enc P w base spare held t2 v2 d2 p2 ∧ DataW.Trod enc P w base spare held t3 v3 d3 p3 := by
  obtain ⟨v0, vs0, d0, ds0, p0, q0, hargs, rfl, rfl, hd0, hr0⟩ := trodAll_cons h
  obtain ⟨v1, vs1, d1, ds1, p1, q1, rfl, rfl, rfl, hd1, hr1⟩ := trodAll_cons hr0
  obtain ⟨v2, vs2, d2, ds2, p2, q2, rfl, rfl, rfl, hd2, hr2⟩ := trodAll_cons hr1
  obtain ⟨v3, vs3, d3, ds3, p3, q3, rfl, rfl, rfl, hd3, hr3⟩ := trodAll_cons hr2
  obtain ⟨rfl, rfl, rfl⟩ := trodAll_nil hr3
  exact ⟨v0, v1, v2, v3, d0, d1, d2, d3, p0, p1, p2, p3, by cases args; simp_all, rfl, by simp, hd0, hd1, hd2, hd3⟩
theorem trodAll_five {P : Program} {w : World} {t0 t1 t2 t3 t4 : TypeId} {args : Array Value} {ds : List (DataW H)} {ps : List MemPlace} (h : DataW.TrodAll enc P w base spare held [t0, t1, t2, t3, t4] args.toList ds ps) :
    ∃ v0 v1 v2 v3 v4 d0 d1 d2 d3 d4 p0 p1 p2 p3 p4, args = #[v0, v1, v2, v3, v4] ∧ ds = [d0, d1, d2, d3, d4] ∧ ps = p0 ++ p1 ++ p2 ++ p3 ++ p4 ∧ DataW.Trod enc P w base spare held t0 v0 d0 p0 ∧ DataW.Trod enc P w base spare held t1 v1 d1 p1 ∧ DataW.Trod enc P w base spare held t2 v2 d2 p2 ∧ DataW.Trod enc P w base spare held t3 v3 d3 p3 ∧ DataW.Trod enc P w base spare held t4 v4 d4 p4 := by
  obtain ⟨v0, vs0, d0, ds0, p0, q0, hargs, rfl, rfl, hd0, hr0⟩ := trodAll_cons h
  obtain ⟨v1, vs1, d1, ds1, p1, q1, rfl, rfl, rfl, hd1, hr1⟩ := trodAll_cons hr0
  obtain ⟨v2, vs2, d2, ds2, p2, q2, rfl, rfl, rfl, hd2, hr2⟩ := trodAll_cons hr1
  obtain ⟨v3, vs3, d3, ds3, p3, q3, rfl, rfl, rfl, hd3, hr3⟩ := trodAll_cons hr2
  obtain ⟨v4, vs4, d4, ds4, p4, q4, rfl, rfl, rfl, hd4, hr4⟩ := trodAll_cons hr3
  obtain ⟨rfl, rfl, rfl⟩ := trodAll_nil hr4
  exact ⟨v0, v1, v2, v3, v4, d0, d1, d2, d3, d4, p0, p1, p2, p3, p4, by cases args; simp_all, rfl, by simp, hd0, hd1, hd2, hd3, hd4⟩
theorem trodAll_six {P : Program} {w : World} {t0 t1 t2 t3 t4 t5 : TypeId} {args : Array Value} {ds : List (DataW H)} {ps : List MemPlace} (h : DataW.TrodAll enc P w base spare held [t0, t1, t2, t3, t4, t5] args.toList ds ps) :
    ∃ v0 v1 v2 v3 v4 v5 d0 d1 d2 d3 d4 d5 p0 p1 p2 p3 p4 p5, args = #[v0, v1, v2, v3, v4, v5] ∧ ds = [d0, d1, d2, d3, d4, d5] ∧ ps = p0 ++ p1 ++ p2 ++ p3 ++ p4 ++ p5 ∧ DataW.Trod enc P w base spare held t0 v0 d0 p0 ∧ DataW.Trod enc P w base spare held t1 v1 d1 p1 ∧ DataW.Trod enc P w base spare held t2 v2 d2 p2 ∧ DataW.Trod enc P w base spare held t3 v3 d3 p3 ∧ DataW.Trod enc P w base spare held t4 v4 d4 p4 ∧ DataW.Trod enc P w base spare held t5 v5 d5 p5 := by
  obtain ⟨v0, vs0, d0, ds0, p0, q0, hargs, rfl, rfl, hd0, hr0⟩ := trodAll_cons h
  obtain ⟨v1, vs1, d1, ds1, p1, q1, rfl, rfl, rfl, hd1, hr1⟩ := trodAll_cons hr0
  obtain ⟨v2, vs2, d2, ds2, p2, q2, rfl, rfl, rfl, hd2, hr2⟩ := trodAll_cons hr1
  obtain ⟨v3, vs3, d3, ds3, p3, q3, rfl, rfl, rfl, hd3, hr3⟩ := trodAll_cons hr2
  obtain ⟨v4, vs4, d4, ds4, p4, q4, rfl, rfl, rfl, hd4, hr4⟩ := trodAll_cons hr3
  obtain ⟨v5, vs5, d5, ds5, p5, q5, rfl, rfl, rfl, hd5, hr5⟩ := trodAll_cons hr4
  obtain ⟨rfl, rfl, rfl⟩ := trodAll_nil hr5
  exact ⟨v0, v1, v2, v3, v4, v5, d0, d1, d2, d3, d4, d5, p0, p1, p2, p3, p4, p5, by cases args; simp_all, rfl, by simp, hd0, hd1, hd2, hd3, hd4, hd5⟩
end
end Go.Proofs.Ytdiahjeplaegnaa
