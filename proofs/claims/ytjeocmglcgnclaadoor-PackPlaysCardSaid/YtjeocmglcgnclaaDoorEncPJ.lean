/- What the encoder of texts writes: plain. No program in sight. -/
import Derived.Test.YtjeocmglcgnclaaDoorGh
import Derived.Test.YtjeocmglcgnclaaDoorGp
namespace Go.Proofs.YtjeocmglcgnclaaDoor
open Go.RowKit

/-- Bits to bytes. -/
def byteOf (l : List Bool) : UInt8 := UInt8.ofNat (l.foldl (fun a b => 2 * a + b.toNat) 0)
def pkN : Nat → List Bool → List UInt8
  | 0, _ => []
  | n + 1, L => byteOf (L.take 8) :: pkN n (L.drop 8)
theorem byteOf_lowb : ∀ n, n < 256 → byteOf (lowb 8 n) = UInt8.ofNat n := by decide +kernel
theorem bitsB_cons (c : UInt8) (o : List UInt8) : bitsB (c :: o) = lowb 8 c.toNat ++ bitsB o := by simp [bitsB]
theorem pkN_bits (o : List UInt8) (t : List Bool) : pkN o.length (bitsB o ++ t) = o := by
  induction o with
  | nil => rfl
  | cons c o ih =>
    have h8 : (lowb 8 c.toNat).length = 8 := lowb_len _ _
    rw [List.length_cons, pkN, bitsB_cons, List.append_assoc, List.take_left' h8, List.drop_left' h8, ih, byteOf_lowb _ c.toNat_lt]
    simp
/-- What the encoder of texts writes. -/
def encP (l : List UInt8) : List UInt8 := pkN ((hbits l + 7) / 8) (bitsL l ++ List.replicate 7 true)
theorem enc_is {o l : List UInt8} {p : Nat} (h : bitsB o = bitsL l ++ List.replicate p true) (hp : p ≤ 7) : o = encP l := by
  have hl := enc_len h hp
  have e : bitsL l ++ List.replicate 7 true = bitsB o ++ List.replicate (7 - p) true := by
    rw [h, List.append_assoc, List.replicate_append_replicate, show p + (7 - p) = 7 by omega]
  unfold encP
  rw [← hl, e, pkN_bits]
theorem byteOf_eight (a b c d e f g h : Bool) : lowb 8 (byteOf [a, b, c, d, e, f, g, h]).toNat = [a, b, c, d, e, f, g, h] := by
  revert a b c d e f g h
  decide +kernel
theorem byteOf_bits {l : List Bool} (h : l.length = 8) : lowb 8 (byteOf l).toNat = l := by
  match l, h with
  | [a, b, c, d, e, f, g, h], _ => exact byteOf_eight a b c d e f g h
theorem bits_pkN : ∀ (n : Nat) (L : List Bool), 8 * n ≤ L.length → bitsB (pkN n L) = L.take (8 * n)
  | 0, L, _ => by simp [pkN, bitsB]
  | n + 1, L, h => by
    rw [pkN, bitsB_cons, byteOf_bits (by rw [List.length_take]; omega), bits_pkN n (L.drop 8) (by rw [List.length_drop]; omega)]
    have := List.take_append_drop 8 (L.take (8 * (n + 1)))
    rw [← this, List.take_take, List.drop_take, show min 8 (8 * (n + 1)) = 8 by omega, show 8 * (n + 1) - 8 = 8 * n by omega]
theorem encP_len (l : List UInt8) : (encP l).length = (hbits l + 7) / 8 := by
  unfold encP
  generalize (hbits l + 7) / 8 = n
  generalize bitsL l ++ List.replicate 7 true = L
  induction n generalizing L with
  | zero => rfl
  | succ n ih => rw [pkN, List.length_cons, ih]
theorem encP_bits (l : List UInt8) : ∃ p, p ≤ 7 ∧ bitsB (encP l) = bitsL l ++ List.replicate p true := by
  refine ⟨8 * ((hbits l + 7) / 8) - hbits l, by omega, ?_⟩
  unfold encP
  rw [bits_pkN _ _ (by rw [List.length_append, bitsL_len, List.length_replicate]; omega), List.take_append, bitsL_len, List.take_of_length_le (by rw [bitsL_len]; omega), List.take_replicate]
  congr 2
  omega
/-- A string, as it is written. -/
def textP (s : List UInt8) : List UInt8 := if (hbits s + 7) / 8 < s.length then (putR 128 7 ((hbits s + 7) / 8 : Nat)).1 ++ encP s else (putR 0 7 s.length).1 ++ s
end Go.Proofs.YtjeocmglcgnclaaDoor
