/- DynOut: so many fields of one size. -/
import Derived.Test.YtlnhnnejmofpcaaDynFirst
namespace Go.Proofs.Ytlnhnnejmofpcaa
open Go.RowKit

/-- The field that is put in at i. -/
def vf (i : Nat) : Fd := ⟨⟨#[110, 97, 109, 101]⟩, ⟨#[118, 97, 108, UInt8.ofNat i]⟩, false⟩
def vfs (a k : Nat) : List Fd := (List.range' a k).map vf
theorem vf_size (i : Nat) : (vf i).size = 40 := rfl
theorem vfs_len (a k : Nat) : (vfs a k).length = k := by simp [vfs]
theorem vfs_succ (a k : Nat) : vfs a (k + 1) = vf a :: vfs (a + 1) k := by simp [vfs, List.range'_succ]
theorem vfs_snoc (a k : Nat) : vfs a (k + 1) = vfs a k ++ [vf (a + k)] := by simp [vfs, List.range'_concat]
theorem vfs_total (a k : Nat) : total (vfs a k) = 40 * k := by
  induction k generalizing a with
  | zero => rfl
  | succ k ih => rw [vfs_succ, total_cons, ih, vf_size]; omega
theorem vfs_shr (a k m : Nat) : shr (40 * m : Int) (vfs a k) = vfs (a + (k - m)) (min k m) := by
  induction k generalizing a with
  | zero => simp [vfs, shr]
  | succ k ih =>
    rw [vfs_succ]
    unfold shr
    rw [← vfs_succ, vfs_total]
    by_cases h : k + 1 ≤ m
    · rw [if_neg (by omega), show k + 1 - m = 0 by omega, show min (k + 1) m = k + 1 by omega]; rfl
    · rw [if_pos (by omega), ih]
      rw [show a + 1 + (k - m) = a + (k + 1 - m) by omega, show min k m = min (k + 1) m by omega]
theorem vfs_add (i r : Nat) : addL (40 * r : Int) (vfs (i - r) (min i r)) (vf i) = vfs (i + 1 - r) (min (i + 1) r) := by
  unfold addL
  rw [vf_size]
  by_cases h : 1 ≤ r
  · rw [if_pos (by omega), show ((40 * r : Int) - (40 : Nat)) = 40 * ((r - 1 : Nat) : Int) by omega, vfs_shr]
    rw [show min (i + 1) r = min (min i r) (r - 1) + 1 by omega, vfs_snoc]
    rw [show i - r + (min i r - (r - 1)) = i + 1 - r by omega, show i + 1 - r + min (min i r) (r - 1) = i by omega]
    rfl
  · rw [if_neg (by omega)]
    have : r = 0 := by omega
    subst this
    simp [vfs, shr]
theorem vfs_get (a k i : Nat) (h1 : 1 ≤ i) (h2 : i ≤ k) : getF (vfs a k) (i : Nat) = (vf (a + k - i), true) := by
  unfold getF
  rw [vfs_len, if_pos (by omega)]
  rw [show ((i : Int)).toNat = i by omega]
  simp [vfs, List.getElem?_range', show k - i < k by omega, show a + (k - i) = a + k - i by omega]
theorem vf_name (i : Nat) : (vf i).n.toList = [110, 97, 109, 101] := by rw [ByteArray.toList_eq]; rfl
theorem vf_vlen (i : Nat) : ((vf i).v.size : Int) = 4 := rfl
theorem vf_byte (i : Nat) (h : i < 256) : wrap64 (((vf i).v[3]'(by show 3 < 4; omega)).toNat : Int) = (i : Nat) := by
  show wrap64 ((UInt8.ofNat i).toNat : Int) = _
  rw [UInt8.toNat_ofNat', Nat.mod_eq_of_lt h]
  unfold wrap64
  omega
theorem vfs_keep (a k : Nat) (h : k ≤ 100) : shr 4096 (vfs a k) = vfs a k := by
  cases k with
  | zero => rfl
  | succ k =>
    rw [vfs_succ]
    unfold shr
    rw [← vfs_succ, vfs_total, if_neg (by omega)]
theorem shr_neg (m : Int) (hm : m < 0) : ∀ l : List Fd, shr m l = []
  | [] => rfl
  | f :: l => by
    unfold shr
    rw [if_pos (by omega), shr_neg m hm l]
end Go.Proofs.Ytlnhnnejmofpcaa
