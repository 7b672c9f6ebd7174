/- The plain law of integers with a prefix: Get takes back what Put wrote. -/
import Derived.Test.YtbbjhmhinbmhgaaPintGet
namespace Go.Proofs.Ytbbjhmhinbmhgaa
open Go.RowKit

/-- The number that groups stand for. -/
def valOf : List UInt8 → Nat
  | [] => 0
  | x :: t => x.toNat % 128 + 128 * valOf t
/-- All groups but the last say that more comes. -/
def chain : List UInt8 → Prop
  | [] => False
  | x :: t => if t = [] then x.toNat < 128 else 128 ≤ x.toNat ∧ chain t

theorem chain_one {x : UInt8} : chain [x] ↔ x.toNat < 128 := by simp [chain]
theorem chain_more {x y : UInt8} {t : List UInt8} : chain (x :: y :: t) ↔ 128 ≤ x.toNat ∧ chain (y :: t) := by
  rw [chain, if_neg (by simp)]

theorem groups_ne (q m : Nat) : groups q m ≠ [] := by
  cases q with
  | zero => simp [groups]
  | succ q => unfold groups; split <;> simp
theorem byteN (n : Nat) (h : n < 256) : (UInt8.ofNat n).toNat = n := by
  rw [UInt8.toNat_ofNat']; omega

theorem groups_chain : ∀ (q m : Nat), m < 128 ^ (q + 1) → chain (groups q m) ∧ valOf (groups q m) = m
  | 0, m, h => by
    simp at h
    simp only [groups, chain_one, valOf]
    rw [byteN m (by omega)]
    omega
  | q + 1, m, h => by
    unfold groups
    by_cases hm : m < 128
    · rw [if_pos hm]
      simp only [chain_one, valOf]
      rw [byteN m (by omega)]
      omega
    · rw [if_neg hm]
      have h2 : m / 128 < 128 ^ (q + 1) := by
        rw [Nat.pow_succ] at h
        exact Nat.div_lt_of_lt_mul (by rw [Nat.mul_comm]; exact h)
      obtain ⟨k1, k2⟩ := groups_chain q (m / 128) h2
      refine ⟨?_, ?_⟩
      · rw [chain, if_neg (groups_ne _ _), byteN _ (by omega)]
        exact ⟨by omega, k1⟩
      · rw [valOf, k2, byteN _ (by omega)]
        omega
theorem groups_len : ∀ (q m Q : Nat), m < 128 ^ Q → 1 ≤ Q → m < 128 ^ (q + 1) → (groups q m).length ≤ Q
  | 0, m, Q, _, h1, _ => by simpa [groups] using h1
  | q + 1, m, Q, h, h1, h2 => by
    unfold groups
    by_cases hm : m < 128
    · rw [if_pos hm]; simpa using h1
    · rw [if_neg hm]
      cases Q with
      | zero => omega
      | succ Q =>
        have k1 : m / 128 < 128 ^ Q := by
          rw [Nat.pow_succ] at h
          exact Nat.div_lt_of_lt_mul (by rw [Nat.mul_comm]; exact h)
        have k2 : m / 128 < 128 ^ (q + 1) := by
          rw [Nat.pow_succ] at h2
          exact Nat.div_lt_of_lt_mul (by rw [Nat.mul_comm]; exact h2)
        have hQ : 1 ≤ Q := by
          rcases Q with _ | Q
          · simp at k1; omega
          · omega
        have := groups_len q (m / 128) Q k1 hQ k2
        simp only [List.length_cons]
        omega
theorem groups_mono : ∀ (q m m' : Nat), m ≤ m' → (groups q m).length ≤ (groups q m').length
  | 0, _, _, _ => by simp [groups]
  | q + 1, m, m', h => by
    unfold groups
    by_cases hm : m < 128
    · rw [if_pos hm]
      split <;> simp
    · rw [if_neg hm, if_neg (by omega)]
      have := groups_mono q (m / 128) (m' / 128) (Nat.div_le_div_right h)
      simp only [List.length_cons]
      omega

theorem getE (pre t : List UInt8) {i : Nat} (h : pre.length = i) : (pre ++ t)[i]? = t[0]? := by
  subst h
  rw [List.getElem?_append_right (Nat.le_refl _), Nat.sub_self]

theorem pow_step (i : Nat) (h : 1 ≤ i) : 128 ^ (i + 1 - 1) = 128 * 128 ^ (i - 1) := by
  obtain ⟨k, rfl⟩ : ∃ k, i = k + 1 := ⟨i - 1, by omega⟩
  simp [Nat.pow_succ, Nat.mul_comm]

theorem mul_part (a x v P : Nat) : a + x * P + v * (128 * P) = a + (x + 128 * v) * P := by
  rw [Nat.add_mul, Nat.add_assoc]
  congr 2
  rw [← Nat.mul_assoc, Nat.mul_comm v 128]

/-- Groups are read back, whatever follows. -/
theorem getG_chain : ∀ (t : List UInt8) (Q i acc : Nat) (pre more : List UInt8), pre.length = i → 1 ≤ i → chain t → t.length ≤ Q → acc + valOf t * 128 ^ (i - 1) ≤ 2147483647 →
    getG Q (pre ++ t ++ more) i acc = (acc + valOf t * 128 ^ (i - 1), i + t.length, 0)
  | [], _, _, _, _, _, _, _, h, _, _ => h.elim
  | x :: t, 0, _, _, _, _, _, _, _, h, _ => by simp at h
  | x :: t, Q + 1, i, acc, pre, more, hp, hi, hc, hl, hv => by
    have hx : (pre ++ (x :: t) ++ more)[i]? = some x := by
      rw [List.append_assoc, getE pre _ hp]
      rfl
    rw [getG_some hx]
    rw [valOf] at hv ⊢
    generalize hP : 128 ^ (i - 1) = P at hv ⊢
    have hxv : x.toNat % 128 * P ≤ (x.toNat % 128 + 128 * valOf t) * P := Nat.mul_le_mul_right _ (by omega)
    rw [if_neg (by omega)]
    cases t with
    | nil =>
      rw [chain_one] at hc
      rw [if_pos hc]
      simp [valOf]
    | cons y t =>
      rw [chain_more] at hc
      rw [if_neg (by omega)]
      have hps := pow_step i hi
      rw [hP] at hps
      have ih := getG_chain (y :: t) Q (i + 1) (acc + x.toNat % 128 * P) (pre ++ [x]) more (by simp [hp]) (by omega) hc.2 (by simp at hl ⊢; omega) (by rw [hps, mul_part]; exact hv)
      rw [hps, mul_part] at ih
      rw [show pre ++ x :: y :: t ++ more = pre ++ [x] ++ (y :: t) ++ more by simp, ih]
      simp [Nat.add_assoc, Nat.add_comm 1]

/-- Cut anywhere, they are too short. -/
theorem getG_cut : ∀ (t : List UInt8) (Q i acc j : Nat) (pre : List UInt8), pre.length = i → 1 ≤ i → chain t → t.length ≤ Q → acc + valOf t * 128 ^ (i - 1) ≤ 2147483647 → j < t.length →
    getG Q (pre ++ t.take j) i acc = (0, 0, 4)
  | [], _, _, _, _, _, _, _, h, _, _, _ => h.elim
  | x :: t, 0, _, _, _, _, _, _, _, h, _, _ => by simp at h
  | x :: t, Q + 1, i, acc, 0, pre, hp, hi, hc, hl, hv, hj => by
    apply getG_none
    rw [List.take_zero, getE pre _ hp]
    rfl
  | x :: t, Q + 1, i, acc, j + 1, pre, hp, hi, hc, hl, hv, hj => by
    have hx : (pre ++ (x :: t).take (j + 1))[i]? = some x := by
      rw [getE pre _ hp]
      rfl
    rw [getG_some hx]
    rw [valOf] at hv
    generalize hP : 128 ^ (i - 1) = P at hv ⊢
    have hxv : x.toNat % 128 * P ≤ (x.toNat % 128 + 128 * valOf t) * P := Nat.mul_le_mul_right _ (by omega)
    rw [if_neg (by omega)]
    cases t with
    | nil => simp at hj
    | cons y t =>
      rw [chain_more] at hc
      rw [if_neg (by omega)]
      have hps := pow_step i hi
      rw [hP] at hps
      have ih := getG_cut (y :: t) Q (i + 1) (acc + x.toNat % 128 * P) j (pre ++ [x]) (by simp [hp]) (by omega) hc.2 (by simp at hl ⊢; omega) (by rw [hps, mul_part]; exact hv) (by simp at hj ⊢; omega)
      rw [show pre ++ (x :: y :: t).take (j + 1) = pre ++ [x] ++ (y :: t).take j by simp, ih]

/-- Where every group says that more comes, there are too many. -/
theorem getG_over : ∀ (Q : Nat) (t : List UInt8) (i acc : Nat) (pre : List UInt8), pre.length = i → Q ≤ t.length → (∀ x ∈ t.take Q, 128 ≤ x.toNat) → getG Q (pre ++ t) i acc = (0, 0, 1)
  | 0, _, _, _, _, _, _, _ => rfl
  | Q + 1, [], _, _, _, _, h, _ => by simp at h
  | Q + 1, x :: t, i, acc, pre, hp, hl, ha => by
    have hx : (pre ++ (x :: t))[i]? = some x := by
      rw [getE pre _ hp]
      rfl
    rw [getG_some hx]
    have h1 := ha x (by simp)
    split
    · rfl
    · rw [if_neg (by omega)]
      rw [show pre ++ x :: t = pre ++ [x] ++ t by simp]
      exact getG_over Q t (i + 1) _ (pre ++ [x]) (by simp [hp]) (by simp at hl; omega) (fun z hz => ha z (by simp [hz]))

/-! The first byte. -/
theorem head_val (first : Int) (bits v : Int) (h0 : 0 ≤ first) (h1 : first < 256) (hb1 : 1 ≤ bits) (hb2 : bits ≤ 8) (hv : 0 ≤ v) (hv1 : v ≤ onesN bits) :
    headI first (onesN bits) v = first / (onesN bits + 1) * (onesN bits + 1) + v := by
  obtain ⟨a, rfl⟩ : ∃ a : Nat, first = a := ⟨first.toNat, by omega⟩
  obtain ⟨u, rfl⟩ : ∃ u : Nat, v = u := ⟨v.toNat, by omega⟩
  have ha : a < 256 := by omega
  have h3 : bits = 1 ∨ bits = 2 ∨ bits = 3 ∨ bits = 4 ∨ bits = 5 ∨ bits = 6 ∨ bits = 7 ∨ bits = 8 := by omega
  have key : ∀ k : Nat, 1 ≤ k → k ≤ 8 → (u : Int) ≤ ((2 ^ k - 1 : Nat) : Int) → headI (a : Int) ((2 ^ k - 1 : Nat) : Int) (u : Int) = (a : Int) / (((2 ^ k - 1 : Nat) : Int) + 1) * (((2 ^ k - 1 : Nat) : Int) + 1) + (u : Int) := fun k hk1 hk2 hu => by
    have h4 : 2 ^ k ≤ 2 ^ 8 := Nat.pow_le_pow_right (by omega) hk2
    have h5 : 1 ≤ 2 ^ k := Nat.one_le_two_pow
    have hu' : u < 2 ^ k := by omega
    have e1 : a &&& (255 - (2 ^ k - 1)) = 2 ^ k * (a / 2 ^ k) := by
      apply Nat.eq_of_testBit_eq
      intro i
      rw [Nat.testBit_and, show (255 : Nat) = 2 ^ 8 - 1 by rfl, show 2 ^ 8 - 1 - (2 ^ k - 1) = 2 ^ 8 - ((2 ^ k - 1) + 1) by omega, Nat.testBit_two_pow_sub_succ (by omega), Nat.testBit_two_pow_sub_one, Nat.testBit_two_pow_mul, Nat.testBit_div_two_pow]
      by_cases hik : i < k
      · simp [hik]
        omega
      · by_cases hi8 : i < 8
        · have e2 : i - k + k = i := by omega
          simp [hik, hi8, e2]
          intro _
          omega
        · have e2 : i - k + k = i := by omega
          have e3 : a.testBit i = false := Nat.testBit_lt_two_pow (Nat.lt_of_lt_of_le (show a < 2 ^ 8 by omega) (Nat.pow_le_pow_right (by omega) (by omega)))
          simp [e3, e2]
    unfold headI
    rw [Go.u8_andNot_nat a _ ha (by omega), e1]
    have h6 : 2 ^ k * (a / 2 ^ k) ≤ a := Nat.mul_div_le a (2 ^ k)
    rw [Go.u8_or_nat _ _ (by omega) (by omega), ← Nat.two_pow_add_eq_or_of_lt hu']
    have e7 : (((2 ^ k - 1 : Nat) : Int) + 1) = ((2 ^ k : Nat) : Int) := by omega
    rw [e7, ← Int.natCast_ediv, ← Int.natCast_mul, ← Int.natCast_add, Nat.mul_comm (a / 2 ^ k)]
  rcases h3 with rfl | rfl | rfl | rfl | rfl | rfl | rfl | rfl
  · exact key 1 (by omega) (by omega) hv1
  · exact key 2 (by omega) (by omega) hv1
  · exact key 3 (by omega) (by omega) hv1
  · exact key 4 (by omega) (by omega) hv1
  · exact key 5 (by omega) (by omega) hv1
  · exact key 6 (by omega) (by omega) hv1
  · exact key 7 (by omega) (by omega) hv1
  · exact key 8 (by omega) (by omega) hv1

/-- What Put's bytes are, as Get sees them. -/
structure Coded (first bits n : Int) (L : List UInt8) : Prop where
  form : ∃ (hd : UInt8) (t : List UInt8), L = hd :: t ∧ (hd.toNat : Int) = first / (onesN bits + 1) * (onesN bits + 1) + min n (onesN bits) ∧
    (n < onesN bits → t = []) ∧ (onesN bits ≤ n → chain t ∧ (valOf t : Int) = n - onesN bits ∧ t.length ≤ 5)

theorem coded_of {first bits n : Int} (h0 : 0 ≤ first) (h1 : first < 256) (hb1 : 1 ≤ bits) (hb2 : bits ≤ 8) (hn : 0 ≤ n) (hn1 : n ≤ 2147483647) :
    Coded first bits n (putR first bits n).1 ∧ (putR first bits n).2 = 0 := by
  obtain ⟨hf, hf1⟩ := ones_some hb1 hb2
  have hv1 := head_val first bits (min n (onesN bits)) h0 h1 hb1 hb2 (by omega) (by omega)
  unfold putR
  rw [if_neg (by omega)]
  have hbd := headI_bounds first (onesN bits) (min n (onesN bits)) h0 h1 (by omega) (by omega) (by omega) (by omega)
  by_cases hnf : n < onesN bits
  · rw [if_pos hnf]
    rw [show min n (onesN bits) = n by omega] at hv1 hbd
    refine ⟨⟨_, [], rfl, ?_, fun _ => rfl, fun h => by omega⟩, rfl⟩
    rw [byteN _ (by omega), show min n (onesN bits) = n by omega, ← hv1]
    omega
  · rw [if_neg hnf]
    rw [show min n (onesN bits) = onesN bits by omega] at hv1 hbd
    obtain ⟨k1, k2⟩ := groups_chain 5 (n - onesN bits).toNat (by omega)
    have k3 := groups_len 5 (n - onesN bits).toNat 5 (by omega) (by omega) (by omega)
    refine ⟨⟨_, _, rfl, ?_, fun h => by omega, fun _ => ⟨k1, by omega, k3⟩⟩, rfl⟩
    rw [byteN _ (by omega), show min n (onesN bits) = onesN bits by omega, ← hv1]
    omega

theorem mod_of (a f v : Int) (hv : 0 ≤ v) (hvf : v ≤ f) : (a * (f + 1) + v) % (f + 1) = v := by
  rw [Int.add_comm, Int.add_mul_emod_self_right]
  exact Int.emod_eq_of_lt hv (by omega)

theorem coded_mod {first bits n : Int} (hb1 : 1 ≤ bits) (hb2 : bits ≤ 8) (hn : 0 ≤ n) {hd : UInt8} (h : (hd.toNat : Int) = first / (onesN bits + 1) * (onesN bits + 1) + min n (onesN bits)) :
    ((hd.toNat % ((onesN bits).toNat + 1) : Nat) : Int) = min n (onesN bits) := by
  obtain ⟨hf, hf1⟩ := ones_some hb1 hb2
  rw [Int.natCast_emod, h, show (((onesN bits).toNat + 1 : Nat) : Int) = onesN bits + 1 by omega]
  exact mod_of _ _ _ (by omega) (by omega)

theorem coded_get {first bits n : Int} {L : List UInt8} (h : Coded first bits n L) (hb1 : 1 ≤ bits) (hb2 : bits ≤ 8) (hn : 0 ≤ n) (hn1 : n ≤ 2147483647) (more : List UInt8) :
    getR (L ++ more) bits = (n.toNat, L.length, 0) := by
  obtain ⟨hd, t, rfl, e1, e2, e3⟩ := h
  obtain ⟨hf, hf1⟩ := ones_some hb1 hb2
  have hm := coded_mod hb1 hb2 hn e1
  unfold getR
  rw [if_neg (by omega)]
  show (if hd.toNat % ((onesN bits).toNat + 1) < (onesN bits).toNat then (hd.toNat % ((onesN bits).toNat + 1), 1, 0) else getG 5 (hd :: t ++ more) 1 (hd.toNat % ((onesN bits).toNat + 1))) = _
  by_cases hnf : n < onesN bits
  · rw [if_pos (by omega), e2 hnf]
    simp only [List.length_singleton]
    congr 1
    omega
  · rw [if_neg (by omega)]
    obtain ⟨k1, k2, k3⟩ := e3 (by omega)
    have hg := getG_chain t 5 1 (hd.toNat % ((onesN bits).toNat + 1)) [hd] more rfl (by omega) k1 k3 (by simp; omega)
    rw [show hd :: t ++ more = [hd] ++ t ++ more by simp, hg]
    simp only [Nat.sub_self, Nat.pow_zero, Nat.mul_one]
    congr 1
    · omega
    · simp [Nat.add_comm]

theorem coded_cut {first bits n : Int} {L : List UInt8} (h : Coded first bits n L) (hb1 : 1 ≤ bits) (hb2 : bits ≤ 8) (hn : 0 ≤ n) (hn1 : n ≤ 2147483647) {j : Nat} (hj : j < L.length) :
    getR (L.take j) bits = (0, 0, 4) := by
  obtain ⟨hd, t, rfl, e1, e2, e3⟩ := h
  obtain ⟨hf, hf1⟩ := ones_some hb1 hb2
  have hm := coded_mod hb1 hb2 hn e1
  unfold getR
  rw [if_neg (by omega)]
  cases j with
  | zero => rfl
  | succ j =>
    show (if hd.toNat % ((onesN bits).toNat + 1) < (onesN bits).toNat then (hd.toNat % ((onesN bits).toNat + 1), 1, 0) else getG 5 (hd :: t.take j) 1 (hd.toNat % ((onesN bits).toNat + 1))) = _
    by_cases hnf : n < onesN bits
    · rw [e2 hnf] at hj; simp at hj
    · rw [if_neg (by omega)]
      obtain ⟨k1, k2, k3⟩ := e3 (by omega)
      exact getG_cut t 5 1 (hd.toNat % ((onesN bits).toNat + 1)) j [hd] rfl (by omega) k1 k3 (by simp; omega) (by simpa using hj)

theorem coded_len {first bits n : Int} {L : List UInt8} (h : Coded first bits n L) : 1 ≤ L.length ∧ L.length ≤ 6 ∧ (L.length = 1 ↔ n < onesN bits) := by
  obtain ⟨hd, t, rfl, e1, e2, e3⟩ := h
  by_cases hnf : n < onesN bits
  · rw [e2 hnf]; simp [hnf]
  · obtain ⟨k1, k2, k3⟩ := e3 (by omega)
    have : t ≠ [] := by rintro rfl; exact k1
    have := List.length_pos_iff.2 this
    simp only [List.length_cons]
    omega

theorem coded_eq {f1 f2 bits n m : Int} {L : List UInt8} (h : Coded f1 bits n L) (h' : Coded f2 bits m L) (hb1 : 1 ≤ bits) (hb2 : bits ≤ 8) (hn : 0 ≤ n) (hn1 : n ≤ 2147483647) (hm : 0 ≤ m) (hm1 : m ≤ 2147483647) : n = m := by
  have k1 := coded_get h hb1 hb2 hn hn1 []
  have k2 := coded_get h' hb1 hb2 hm hm1 []
  rw [k1] at k2
  injection k2 with k2
  omega

theorem put_len (f1 f2 bits n : Int) : (putR f1 bits n).1.length = (putR f2 bits n).1.length := by
  unfold putR
  split
  · rfl
  · split <;> simp
theorem put_mono {f bits n m : Int} (hn : 0 ≤ n) (hm : m ≤ 2147483647) (h : n ≤ m) : (putR f bits n).1.length ≤ (putR f bits m).1.length := by
  unfold putR
  by_cases h0 : onesN bits = 0
  · rw [if_pos (.inl h0), if_pos (.inl h0)]; exact Nat.le_refl _
  · rw [if_neg (show ¬(onesN bits = 0 ∨ n < 0 ∨ 2147483647 < n) by omega), if_neg (show ¬(onesN bits = 0 ∨ m < 0 ∨ 2147483647 < m) by omega)]
    by_cases h1 : n < onesN bits
    · rw [if_pos h1]
      split <;> simp
    · rw [if_neg h1, if_neg (by omega)]
      have := groups_mono 5 (n - onesN bits).toNat (m - onesN bits).toNat (by omega)
      simp only [List.length_cons]
      omega
end Go.Proofs.Ytbbjhmhinbmhgaa
