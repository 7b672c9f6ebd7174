/- One bit of an int. -/
import Derived.Test.YtdiahjeplaegnaaBits
namespace Go.Proofs.Ytdiahjeplaegnaa
open Go.RowKit

theorem nat_and_pow (x i : Nat) : x &&& 2 ^ i = if x.testBit i then 2 ^ i else 0 := by
  apply Nat.eq_of_testBit_eq
  intro j
  rw [Nat.testBit_and, Nat.testBit_two_pow]
  by_cases h : i = j
  · subst h
    rcases hb : x.testBit i with _ | _
    · simp
    · simp [Nat.testBit_two_pow_self]
  · rcases hb : x.testBit i with _ | _ <;> simp [h]
theorem and_pow (f : Int) (i : Nat) (hi : i ≤ 62) : bits .and .i64 f (2 ^ i) = 0 ∨ bits .and .i64 f (2 ^ i) = 2 ^ i := by
  have hp : 2 ^ i ≤ 2 ^ 62 := Nat.pow_le_pow_right (by omega) hi
  have e : (2 : Int) ^ i = ((2 ^ i : Nat) : Int) := by simp
  have h : bits .and .i64 f (2 ^ i) = IntKind.i64.wrap ((((BitVec.ofInt 64 f).toNat &&& 2 ^ i : Nat)) : Int) := by
    show IntKind.i64.wrap ((BitVec.ofInt 64 f &&& BitVec.ofInt 64 (2 ^ i)).toNat : Int) = _
    rw [BitVec.toNat_and, e, ofInt_i64 (2 ^ i) (by omega)]
  rw [h, nat_and_pow]
  split
  · right
    rw [e]
    clear h e
    generalize 2 ^ i = q at hp ⊢
    exact IntWalk.i64_in _ (by omega)
  · left
    rfl
theorem and_4 (f : Int) : bits .and .i64 f 4 = 0 ∨ bits .and .i64 f 4 = 4 := and_pow f 2 (by omega)
theorem and_8 (f : Int) : bits .and .i64 f 8 = 0 ∨ bits .and .i64 f 8 = 8 := and_pow f 3 (by omega)
theorem and_32 (f : Int) : bits .and .i64 f 32 = 0 ∨ bits .and .i64 f 32 = 32 := and_pow f 5 (by omega)
theorem and_1 (f : Int) : bits .and .i64 f 1 = 0 ∨ bits .and .i64 f 1 = 1 := and_pow f 0 (by omega)
end Go.Proofs.Ytdiahjeplaegnaa
