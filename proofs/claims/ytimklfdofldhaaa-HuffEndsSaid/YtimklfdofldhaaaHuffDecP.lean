/- What Decode computes: plain. -/
import Derived.Test.YtimklfdofldhaaaHuffPlain
namespace Go.Proofs.Ytimklfdofldhaaa
open Go.RowKit

/-- How many codes have n bits, and the first of them. -/
def many (n : Nat) : Nat := (signs n).length
def first (n : Nat) : Nat := firstC (n - 5)
/-- The sign whose code is the n bits c, if any. -/
def decS (n c : Nat) : Option Nat :=
  if 5 ≤ n ∧ first n ≤ c ∧ c < first n + many n then some ((ordB 26).getD ((ordB (n - 5)).length + c - first n) 0) else none
/-- The text, and the errno; c: the last n bits. -/
def dec (most : Int) : List Bool → Nat → Nat → List UInt8 → List UInt8 × Nat
  | [], c, n, o => if n ≤ 7 ∧ c = 2 ^ n - 1 then (o, 0) else ([], 2)
  | b :: t, c, n, o =>
    match decS (n + 1) (2 * c + b.toNat) with
    | none => dec most t (2 * c + b.toNat) (n + 1) o
    | some s => if s = 256 then ([], 2) else if most ≤ (o.length : Int) then ([], 3) else dec most t 0 0 (o ++ [UInt8.ofNat s])
/-- n bits that are no code, and none of whose beginnings is one. -/
def Inv (n c : Nat) : Prop := n ≤ 29 ∧ c < 2 ^ n ∧ (5 ≤ n → first n + many n ≤ c)
theorem inv_zero : Inv 0 0 := ⟨by omega, by omega, by omega⟩
theorem first_next : ∀ n, n < 30 → 4 ≤ n → first (n + 1) ≤ 2 * (first n + many n) := by decide +kernel
theorem kraft : first 30 + many 30 = 2 ^ 30 := by decide +kernel
theorem first_5 : first 5 = 0 := rfl
theorem inv_step {n c : Nat} {b : Bool} (h : Inv n c) (hd : decS (n + 1) (2 * c + b.toNat) = none) : Inv (n + 1) (2 * c + b.toNat) := by
  obtain ⟨h1, h2, h3⟩ := h
  have hb : b.toNat ≤ 1 := by cases b <;> decide
  have hp : 2 ^ (n + 1) = 2 * 2 ^ n := by rw [Nat.pow_succ]; omega
  have hlt : 2 * c + b.toNat < 2 ^ (n + 1) := by omega
  have hge : 5 ≤ n + 1 → first (n + 1) + many (n + 1) ≤ 2 * c + b.toNat := by
    intro h5
    have hf : first (n + 1) ≤ 2 * c + b.toNat := by
      by_cases h4 : n = 4
      · subst h4
        rw [first_5]
        omega
      · have := first_next n (by omega) (by omega)
        have := h3 (by omega)
        omega
    unfold decS at hd
    split at hd
    · simp at hd
    · omega
  refine ⟨?_, hlt, hge⟩
  by_cases h29 : n + 1 ≤ 29
  · exact h29
  · obtain rfl : n = 29 := by omega
    have hge2 : first 30 + many 30 ≤ 2 * c + b.toNat := hge (by omega)
    have hk := kraft
    omega
/-- A look-up that finds lies within the order. -/
theorem dec_in : ∀ n, n < 31 → 5 ≤ n → (ordB (n - 5)).length + many n ≤ 257 := by decide +kernel
theorem dec_first (most : Int) (b : Bool) (t : List Bool) (c n : Nat) (o : List UInt8) (h : decS (n + 1) (2 * c + b.toNat) = none) : dec most (b :: t) c n o = dec most t (2 * c + b.toNat) (n + 1) o := by
  simp only [dec, h]
theorem dec_some (most : Int) (b : Bool) (t : List Bool) (c n s : Nat) (o : List UInt8) (h : decS (n + 1) (2 * c + b.toNat) = some s) :
    dec most (b :: t) c n o = if s = 256 then ([], 2) else if most ≤ (o.length : Int) then ([], 3) else dec most t 0 0 (o ++ [UInt8.ofNat s]) := by
  simp only [dec, h]
/-- A bit of bytes. -/
theorem bitsB_at (l : List UInt8) (k : Nat) (h : k < 8 * l.length) : (bitsB l)[k]? = some ((l[k / 8]'(by omega)).toNat.testBit (7 - k % 8)) := by
  induction l generalizing k with
  | nil => simp at h
  | cons x l ih =>
    unfold bitsB at ih ⊢
    rw [List.flatMap_cons]
    by_cases hk : k < 8
    · rw [List.getElem?_append_left (by rw [lowb_len]; exact hk), lowb_get hk]
      have h0 : k / 8 = 0 := by omega
      simp only [h0, List.getElem_cons_zero]
      rw [Nat.mod_eq_of_lt hk]
    · rw [List.getElem?_append_right (by rw [lowb_len]; omega), lowb_len, ih (k - 8) (by simp at h; omega)]
      have h1 : k / 8 = (k - 8) / 8 + 1 := by omega
      have h2 : (k - 8) % 8 = k % 8 := by omega
      simp only [h1, List.getElem_cons_succ, h2]
theorem bit_get {x p : Nat} : bits .and .u8 ((x : Int) / 2 ^ p) 1 = ((x.testBit p).toNat : Int) := by
  have e : (x : Int) / 2 ^ p = ((x / 2 ^ p : Nat) : Int) := by
    rw [show (2 : Int) ^ p = ((2 ^ p : Nat) : Int) by rw [Int.natCast_pow]; rfl]
    exact (Int.natCast_ediv _ _).symm
  rw [e, Nat.testBit_eq_decide_div_mod_eq]
  generalize x / 2 ^ p = y
  have h : bits .and .u8 (y : Int) 1 = IntKind.u8.wrap (((y % 2 ^ 8) &&& 1 : Nat) : Int) := by
    show IntKind.u8.wrap ((BitVec.ofInt 8 (y : Int) &&& BitVec.ofInt 8 ((1 : Nat) : Int)).toNat : Int) = _
    rw [BitVec.toNat_and, BitVec.ofInt_natCast, BitVec.ofInt_natCast, BitVec.toNat_ofNat, BitVec.toNat_ofNat]
  rw [h, Nat.and_one_is_mod, u8_wrap]
  by_cases h1 : y % 2 = 1
  · rw [decide_eq_true h1]
    simp only [Bool.toNat_true]
    omega
  · rw [decide_eq_false h1]
    simp only [Bool.toNat_false]
    omega
theorem bit_put {c : Nat} {b : Bool} (hc : c < 536870912) : bits .or .i64 ((c : Int) * 2) (IntKind.i64.wrap (b.toNat : Int)) = ((2 * c + b.toNat : Nat) : Int) := by
  have hb : b.toNat ≤ 1 := by cases b <;> decide
  rw [IntWalk.i64_in _ (by omega), show (c : Int) * 2 = ((2 * c : Nat) : Int) by omega]
  have h : bits .or .i64 ((2 * c : Nat) : Int) (b.toNat : Int) = IntKind.i64.wrap ((2 * c ||| b.toNat : Nat) : Int) := by
    show IntKind.i64.wrap ((BitVec.ofInt 64 ((2 * c : Nat) : Int) ||| BitVec.ofInt 64 (b.toNat : Int)).toNat : Int) = _
    rw [BitVec.toNat_or, BitVec.ofInt_natCast, BitVec.ofInt_natCast, BitVec.toNat_ofNat, BitVec.toNat_ofNat, Nat.mod_eq_of_lt (show 2 * c < 2 ^ 64 by omega), Nat.mod_eq_of_lt (show b.toNat < 2 ^ 64 by omega)]
  have h2 := Nat.two_pow_add_eq_or_of_lt (i := 1) (b := b.toNat) (by omega) c
  rw [Nat.pow_one] at h2
  rw [h, ← h2]
  exact IntWalk.i64_in _ (by omega)
theorem bit_put' {c : Nat} {b : Bool} (hc : c < 536870912) : bits .or .i64 ((c : Int) * 2) (wrap64 (b.toNat : Int)) = ((2 * c + b.toNat : Nat) : Int) := by
  rw [show wrap64 (b.toNat : Int) = IntKind.i64.wrap (b.toNat : Int) by
    have hb : b.toNat ≤ 1 := by cases b <;> decide
    rw [IntWalk.i64_in _ (by omega), IntWalk.wrap64_in _ (by omega)]]
  exact bit_put hc
end Go.Proofs.Ytimklfdofldhaaa
