/- Bits of int: an or of numbers whose bits lie apart is their sum; big-endian numbers put together out of their bytes. No condition beyond the ranges that each lemma names. -/
import Derived.Test.YtdiahjeplaegnaaBase
import Derived.Laws.BitsAllLaws
import Derived.Laws.BitsLemmas
namespace Go.Proofs.Ytdiahjeplaegnaa
open Go.RowKit

theorem ofInt_i64 (a : Nat) (ha : a < 9223372036854775808) : (BitVec.ofInt 64 (a : Int)).toNat = a := by
  rw [BitVec.ofInt_natCast, BitVec.toNat_ofNat]; exact Nat.mod_eq_of_lt (by omega)
theorem i64_or (a b : Nat) (ha : a < 9223372036854775808) (hb : b < 9223372036854775808) : bits .or .i64 (a : Int) (b : Int) = ((a ||| b : Nat) : Int) := by
  have hx : a ||| b < 2 ^ 63 := Nat.or_lt_two_pow (by omega) (by omega)
  show IntKind.i64.wrap ((BitVec.ofInt 64 (a : Int) ||| BitVec.ofInt 64 (b : Int)).toNat : Int) = _
  rw [BitVec.toNat_or, ofInt_i64 a ha, ofInt_i64 b hb, IntKind.wrap_i64]
  omega
theorem i64_and (a b : Nat) (ha : a < 9223372036854775808) (hb : b < 9223372036854775808) : bits .and .i64 (a : Int) (b : Int) = ((a &&& b : Nat) : Int) := by
  have hx : a &&& b < 2 ^ 63 := Nat.and_lt_two_pow _ (by omega)
  show IntKind.i64.wrap ((BitVec.ofInt 64 (a : Int) &&& BitVec.ofInt 64 (b : Int)).toNat : Int) = _
  rw [BitVec.toNat_and, ofInt_i64 a ha, ofInt_i64 b hb, IntKind.wrap_i64]
  omega

/-- High bits and low bits that lie apart. -/
theorem or_add (a b : Int) (i : Nat) (hi : i ≤ 62) (ha : 0 ≤ a) (hb : 0 ≤ b) (hb1 : b < 2 ^ i) (h : 2 ^ i * a + b < 9223372036854775808) : bits .or .i64 (2 ^ i * a) b = 2 ^ i * a + b := by
  obtain ⟨m, rfl⟩ := Int.eq_ofNat_of_zero_le ha
  obtain ⟨k, rfl⟩ := Int.eq_ofNat_of_zero_le hb
  have e : (2 : Int) ^ i * (m : Int) = ((2 ^ i * m : Nat) : Int) := by simp
  have hk : k < 2 ^ i := by
    have e2 : ((2 : Int) ^ i) = ((2 ^ i : Nat) : Int) := by simp
    rw [e2] at hb1
    omega
  rw [e] at h ⊢
  rw [i64_or _ _ (by omega) (by omega), ← Nat.two_pow_add_eq_or_of_lt hk]
  simp

theorem be3 (n : Int) (h0 : 0 ≤ n) (h1 : n ≤ 16777215) :
    bits .or .i64 (bits .or .i64 (IntKind.i64.wrap (IntKind.i64.wrap (n / 65536) * 65536)) (IntKind.i64.wrap (IntKind.i64.wrap (n / 256 % 256) * 256))) (IntKind.i64.wrap (n % 256)) = n := by
  rw [IntWalk.i64_in (n / 65536) (by omega), IntWalk.i64_in (n / 65536 * 65536) (by omega), IntWalk.i64_in (n / 256 % 256) (by omega), IntWalk.i64_in (n / 256 % 256 * 256) (by omega), IntWalk.i64_in (n % 256) (by omega)]
  have e1 := or_add (n / 65536) (n / 256 % 256 * 256) 16 (by omega) (by omega) (by omega) (by omega) (by omega)
  rw [show n / 65536 * 65536 = 2 ^ 16 * (n / 65536) by omega, e1]
  have e2 := or_add (n / 256) (n % 256) 8 (by omega) (by omega) (by omega) (by omega) (by omega)
  rw [show (2 : Int) ^ 16 * (n / 65536) + n / 256 % 256 * 256 = 2 ^ 8 * (n / 256) by omega, e2]
  omega

theorem be4 (n : Int) (h0 : 0 ≤ n) (h1 : n ≤ 4294967295) :
    bits .or .i64 (bits .or .i64 (bits .or .i64 (IntKind.i64.wrap (IntKind.i64.wrap (n / 16777216) * 16777216)) (IntKind.i64.wrap (IntKind.i64.wrap (n / 65536 % 256) * 65536))) (IntKind.i64.wrap (IntKind.i64.wrap (n / 256 % 256) * 256))) (IntKind.i64.wrap (n % 256)) = n := by
  rw [IntWalk.i64_in (n / 16777216) (by omega), IntWalk.i64_in (n / 16777216 * 16777216) (by omega), IntWalk.i64_in (n / 65536 % 256) (by omega), IntWalk.i64_in (n / 65536 % 256 * 65536) (by omega), IntWalk.i64_in (n / 256 % 256) (by omega), IntWalk.i64_in (n / 256 % 256 * 256) (by omega), IntWalk.i64_in (n % 256) (by omega)]
  have e0 := or_add (n / 16777216) (n / 65536 % 256 * 65536) 24 (by omega) (by omega) (by omega) (by omega) (by omega)
  rw [show n / 16777216 * 16777216 = 2 ^ 24 * (n / 16777216) by omega, e0]
  have e1 := or_add (n / 65536) (n / 256 % 256 * 256) 16 (by omega) (by omega) (by omega) (by omega) (by omega)
  rw [show (2 : Int) ^ 24 * (n / 16777216) + n / 65536 % 256 * 65536 = 2 ^ 16 * (n / 65536) by omega, e1]
  have e2 := or_add (n / 256) (n % 256) 8 (by omega) (by omega) (by omega) (by omega) (by omega)
  rw [show (2 : Int) ^ 16 * (n / 65536) + n / 256 % 256 * 256 = 2 ^ 8 * (n / 256) by omega, e2]
  omega
end Go.Proofs.Ytdiahjeplaegnaa
