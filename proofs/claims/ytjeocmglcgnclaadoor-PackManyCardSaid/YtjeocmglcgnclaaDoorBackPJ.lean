/- What was written is read back: numbers and strings. No program in sight. -/
import Derived.Test.YtjeocmglcgnclaaDoorGu
import Derived.Test.YtjeocmglcgnclaaDoorEncPJ
namespace Go.Proofs.YtjeocmglcgnclaaDoor
open Go.RowKit

theorem numP_put {first bits n : Int} (h0 : 0 ≤ first) (h1 : first < 256) (hb1 : 1 ≤ bits) (hb2 : bits ≤ 8) (hn : 0 ≤ n) (hn1 : n ≤ 2147483647) (more : List UInt8) : numP ((putR first bits n).1 ++ more) bits = some (n.toNat, more) := by
  have h := coded_get (coded_of h0 h1 hb1 hb2 hn hn1).1 hb1 hb2 hn hn1 more
  unfold numP
  rw [h]
  simp
theorem put_headB {first bits n : Int} (h0 : 0 ≤ first) (h1 : first < 256) (hb1 : 1 ≤ bits) (hb2 : bits ≤ 8) (hn : 0 ≤ n) (hn1 : n ≤ 2147483647) :
    ∃ (x : UInt8) (t : List UInt8), (putR first bits n).1 = x :: t ∧ (x.toNat : Int) = first / (onesN bits + 1) * (onesN bits + 1) + min n (onesN bits) ∧ (n < onesN bits → t = []) := by
  obtain ⟨⟨x, t, e1, e2, e3, _⟩, _⟩ := coded_of h0 h1 hb1 hb2 hn hn1
  exact ⟨x, t, e1, e2, e3⟩
/-- A string as it is, behind its length. -/
theorem textD_as_is {s : List UInt8} (h : s.length ≤ 16384) (more : List UInt8) : textD ((putR 0 7 (s.length : Nat)).1 ++ s ++ more) = some (s, more) := by
  have hn := numP_put (first := 0) (bits := 7) (n := (s.length : Nat)) (by omega) (by omega) (by omega) (by omega) (by omega) (by omega) (s ++ more)
  obtain ⟨x, t, e1, e2, _⟩ := put_headB (first := 0) (bits := 7) (n := (s.length : Nat)) (by omega) (by omega) (by omega) (by omega) (by omega) (by omega)
  rw [show onesN 7 = 127 from rfl] at e2
  have hc : isCoded ((putR 0 7 (s.length : Nat)).1 ++ s ++ more) = false := by
    rw [e1]
    exact decide_eq_false (by omega)
  rw [← List.append_assoc] at hn
  unfold textD
  rw [hn, hc]
  simp only [Int.toNat_natCast]
  rw [if_neg (by simp; omega)]
  unfold rawD
  simp
/-- A string that is coded, behind its length. -/
theorem textD_code {s : List UInt8} (h : s.length ≤ 16384) (hz : (hbits s + 7) / 8 ≤ 16384) (more : List UInt8) : textD ((putR 128 7 ((hbits s + 7) / 8 : Nat)).1 ++ encP s ++ more) = some (s, more) := by
  have hn := numP_put (first := 128) (bits := 7) (n := ((hbits s + 7) / 8 : Nat)) (by omega) (by omega) (by omega) (by omega) (by omega) (by omega) (encP s ++ more)
  obtain ⟨x, t, e1, e2, _⟩ := put_headB (first := 128) (bits := 7) (n := ((hbits s + 7) / 8 : Nat)) (by omega) (by omega) (by omega) (by omega) (by omega) (by omega)
  rw [show onesN 7 = 127 from rfl] at e2
  have hc : isCoded ((putR 128 7 ((hbits s + 7) / 8 : Nat)).1 ++ encP s ++ more) = true := by
    rw [e1]
    exact decide_eq_true (by omega)
  rw [← List.append_assoc] at hn
  obtain ⟨p, hp, hbt⟩ := encP_bits s
  have hd := dec_back 16384 s p (by omega)
  rw [← hbt, if_pos hp] at hd
  unfold textD
  rw [hn, hc]
  simp only [Int.toNat_natCast]
  rw [if_neg (by rw [List.length_append, encP_len]; omega)]
  have ht : (encP s ++ more).take ((hbits s + 7) / 8) = encP s := List.take_left' (encP_len s)
  have hdr : (encP s ++ more).drop ((hbits s + 7) / 8) = more := List.drop_left' (encP_len s)
  rw [ht, hdr]
  unfold rawD
  rw [if_pos rfl, hd]
  rfl
theorem textD_textP {s : List UInt8} (h : s.length ≤ 16384) (more : List UInt8) : textD (textP s ++ more) = some (s, more) := by
  unfold textP
  split
  · exact textD_code h (by omega) more
  · exact textD_as_is h more
end Go.Proofs.YtjeocmglcgnclaaDoor
