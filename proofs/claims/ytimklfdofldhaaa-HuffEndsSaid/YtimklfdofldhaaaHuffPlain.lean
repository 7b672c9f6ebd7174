/- Bits: lists of them. No program in sight. -/
import Derived.Test.YtimklfdofldhaaaHuffBits
namespace Go.Proofs.Ytimklfdofldhaaa
open Go.RowKit

/-- The low n bits of v, the highest first. -/
def lowb (n v : Nat) : List Bool := (List.range n).map fun i => v.testBit (n - 1 - i)
theorem lowb_len (n v : Nat) : (lowb n v).length = n := by simp [lowb]
theorem lowb_get {n v i : Nat} (h : i < n) : (lowb n v)[i]? = some (v.testBit (n - 1 - i)) := by
  unfold lowb
  rw [List.getElem?_map, List.getElem?_range h]
  rfl
theorem lowb_ext {n : Nat} {l : List Bool} {v : Nat} (hl : l.length = n) (h : ∀ i, i < n → l[i]? = some (v.testBit (n - 1 - i))) : l = lowb n v := by
  apply List.ext_getElem?
  intro i
  by_cases hi : i < n
  · rw [h i hi, lowb_get hi]
  · rw [List.getElem?_eq_none (by omega), List.getElem?_eq_none (by rw [lowb_len]; omega)]
theorem lowb_add (n m v : Nat) : lowb (n + m) v = lowb n (v >>> m) ++ lowb m v := by
  symm
  apply lowb_ext (by rw [List.length_append, lowb_len, lowb_len])
  intro i hi
  by_cases h : i < n
  · rw [List.getElem?_append_left (by rw [lowb_len]; exact h), lowb_get h, Nat.testBit_shiftRight]
    congr 2
    omega
  · rw [List.getElem?_append_right (by rw [lowb_len]; omega), lowb_len, lowb_get (by omega)]
    congr 2
    omega
theorem lowb_mod {n k v : Nat} (h : n ≤ k) : lowb n (v % 2 ^ k) = lowb n v := by
  apply (lowb_ext (lowb_len _ _) ?_)
  intro i hi
  rw [lowb_get hi, Nat.testBit_mod_two_pow]
  congr 1
  simp
  omega
theorem lowb_same {n v u : Nat} (h : ∀ i, i < n → v.testBit i = u.testBit i) : lowb n v = lowb n u := by
  apply lowb_ext (lowb_len _ _)
  intro i hi
  rw [lowb_get hi, h _ (by omega)]
theorem lowb_put {n k h c : Nat} (hc : c < 2 ^ k) : lowb (n + k) (h <<< k ||| c) = lowb n h ++ lowb k c := by
  rw [lowb_add]
  congr 1
  · apply lowb_same
    intro i _
    rw [Nat.testBit_shiftRight, Nat.testBit_or, Nat.testBit_shiftLeft, Nat.testBit_lt_two_pow (Nat.lt_of_lt_of_le hc (Nat.pow_le_pow_right (by omega) (by omega)))]
    simp
  · apply lowb_same
    intro i hi
    rw [Nat.testBit_or, Nat.testBit_shiftLeft]
    simp
    omega
theorem lowb_ones (n : Nat) : lowb n (2 ^ n - 1) = List.replicate n true := by
  symm
  apply lowb_ext (by simp)
  intro i hi
  rw [List.getElem?_replicate, if_pos hi, Nat.testBit_two_pow_sub_one]
  congr 1
  simp
  omega
/-- The bits of bytes. -/
def bitsB (o : List UInt8) : List Bool := o.flatMap fun c => lowb 8 c.toNat
theorem bitsB_len (o : List UInt8) : (bitsB o).length = 8 * o.length := by
  induction o with
  | nil => rfl
  | cons c o ih =>
    unfold bitsB at ih ⊢
    rw [List.flatMap_cons, List.length_append, ih, lowb_len, List.length_cons]
    omega
theorem bitsB_append (a b : List UInt8) : bitsB (a ++ b) = bitsB a ++ bitsB b := by simp [bitsB]
theorem bitsB_one (c : UInt8) : bitsB [c] = lowb 8 c.toNat := by simp [bitsB]
/-- The bits of a sign's code, and of a text. -/
def cb (s : Nat) : List Bool := lowb (hl s) (codeN s)
def bitsL (l : List UInt8) : List Bool := l.flatMap fun c => cb c.toNat
theorem bitsL_len (l : List UInt8) : (bitsL l).length = hbits l := by
  induction l with
  | nil => rfl
  | cons c l ih =>
    unfold bitsL hbits at ih ⊢
    rw [List.flatMap_cons, List.length_append, ih, List.map_cons, List.sum_cons]
    congr 1
    exact lowb_len _ _
theorem bitsL_append (a b : List UInt8) : bitsL (a ++ b) = bitsL a ++ bitsL b := by simp [bitsL]
theorem bitsL_take (l : List UInt8) (k : Nat) (h : k < l.length) : bitsL (l.take (k + 1)) = bitsL (l.take k) ++ cb (l[k]'h).toNat := by
  rw [List.take_succ_eq_append_getElem h, bitsL_append]
  unfold bitsL
  rw [List.flatMap_cons, List.flatMap_nil, List.append_nil]
theorem u64_wrap (v : Nat) : IntKind.u64.wrap (v : Int) = ((v % 2 ^ 64 : Nat) : Int) := by
  unfold IntKind.wrap
  simp [IntKind.bits, IntKind.signed]
theorem bor_u64 {a b : Nat} (ha : a < 2 ^ 64) (hb : b < 2 ^ 64) : bits .or .u64 (a : Int) (b : Int) = ((a ||| b : Nat) : Int) := by
  have h : bits .or .u64 (a : Int) (b : Int) = IntKind.u64.wrap ((a ||| b : Nat) : Int) := by
    show IntKind.u64.wrap ((BitVec.ofInt 64 (a : Int) ||| BitVec.ofInt 64 (b : Int)).toNat : Int) = _
    rw [BitVec.toNat_or, BitVec.ofInt_natCast, BitVec.ofInt_natCast, BitVec.toNat_ofNat, BitVec.toNat_ofNat, Nat.mod_eq_of_lt ha, Nat.mod_eq_of_lt hb]
  rw [h, u64_wrap, Nat.mod_eq_of_lt (Nat.or_lt_two_pow ha hb)]
theorem held_put {hv c z : Nat} (hc : c < 2 ^ 64) : bits .or .u64 (IntKind.u64.wrap ((hv : Int) * 2 ^ z)) (IntKind.u64.wrap (c : Int)) = (((hv <<< z) % 2 ^ 64 ||| c : Nat) : Int) := by
  rw [show (hv : Int) * 2 ^ z = ((hv <<< z : Nat) : Int) by rw [Nat.shiftLeft_eq]; push_cast; rfl, u64_wrap, u64_wrap, Nat.mod_eq_of_lt hc]
  exact bor_u64 (Nat.mod_lt _ (by decide)) hc
theorem held_bits {hv c z m : Nat} (hc : c < 2 ^ z) (hz : m + z ≤ 64) : lowb (m + z) ((hv <<< z) % 2 ^ 64 ||| c) = lowb m hv ++ lowb z c := by
  rw [← lowb_put hc]
  apply lowb_same
  intro i hi
  rw [Nat.testBit_or, Nat.testBit_or, Nat.testBit_mod_two_pow, decide_eq_true (show i < 64 by omega), Bool.true_and]
theorem held_lt {hv c z : Nat} (hc : c < 2 ^ 64) : (hv <<< z) % 2 ^ 64 ||| c < 2 ^ 64 := Nat.or_lt_two_pow (Nat.mod_lt _ (by decide)) hc
theorem byte_val (h m : Nat) : Value.int .u8 ((h : Int) / 2 ^ m % 256) = bv (UInt8.ofNat (h / 2 ^ m)) := by
  have e : (h : Int) / 2 ^ m % 256 = ((h / 2 ^ m % 256 : Nat) : Int) := by
    rw [show (2 : Int) ^ m = ((2 ^ m : Nat) : Int) by rw [Int.natCast_pow]; rfl]
    generalize 2 ^ m = q
    rw [← Int.natCast_ediv]
    omega
  rw [e]
  unfold bv
  rw [UInt8.toNat_ofNat']
theorem byte_bits (h m : Nat) : lowb (m + 8) h = lowb 8 (UInt8.ofNat (h / 2 ^ m)).toNat ++ lowb m h := by
  rw [Nat.add_comm, lowb_add, UInt8.toNat_ofNat', lowb_mod (Nat.le_refl 8), Nat.shiftRight_eq_div_pow]
theorem u8_wrap (v : Nat) : IntKind.u8.wrap (v : Int) = ((v % 2 ^ 8 : Nat) : Int) := by
  unfold IntKind.wrap
  simp [IntKind.bits, IntKind.signed]
theorem last_val {hv r : Nat} (hr : r ≤ 8) : Value.int .u8 (IntKind.u8.wrap (bits .or .u64 (IntKind.u64.wrap ((hv : Int) * 2 ^ r)) (IntKind.u64.wrap (IntKind.u64.wrap (2 ^ r) - 1)))) = bv (UInt8.ofNat ((hv <<< r) % 2 ^ 64 ||| (2 ^ r - 1))) := by
  have h1 : 2 ^ r ≤ 2 ^ 8 := Nat.pow_le_pow_right (by omega) hr
  have h0 : 0 < 2 ^ r := Nat.pow_pos (by omega)
  have h2 : 2 ^ r - 1 < 2 ^ 64 := Nat.lt_of_lt_of_le (show 2 ^ r - 1 < 2 ^ 8 by omega) (by decide)
  have e : IntKind.u64.wrap ((2 : Int) ^ r) - 1 = ((2 ^ r - 1 : Nat) : Int) := by
    rw [show (2 : Int) ^ r = ((2 ^ r : Nat) : Int) by rw [Int.natCast_pow]; rfl, u64_wrap, Nat.mod_eq_of_lt (Nat.lt_of_le_of_lt h1 (by decide))]
    omega
  rw [e, held_put h2, u8_wrap]
  unfold bv
  rw [UInt8.toNat_ofNat']
theorem last_bits {hv m : Nat} (hm : m ≤ 8) : lowb 8 (UInt8.ofNat ((hv <<< (8 - m)) % 2 ^ 64 ||| (2 ^ (8 - m) - 1))).toNat = lowb m hv ++ List.replicate (8 - m) true := by
  rw [UInt8.toNat_ofNat', lowb_mod (Nat.le_refl 8)]
  have h0 : 0 < 2 ^ (8 - m) := Nat.pow_pos (by omega)
  have h := held_bits (hv := hv) (c := 2 ^ (8 - m) - 1) (z := 8 - m) (m := m) (by omega) (by omega)
  rw [show m + (8 - m) = 8 by omega, lowb_ones] at h
  exact h
end Go.Proofs.Ytimklfdofldhaaa
