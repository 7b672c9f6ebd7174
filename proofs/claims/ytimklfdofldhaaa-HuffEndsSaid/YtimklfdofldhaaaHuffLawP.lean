/- Decode of what Encode wrote: plain. -/
import Derived.Test.YtimklfdofldhaaaHuffDecP
namespace Go.Proofs.Ytimklfdofldhaaa
open Go.RowKit

theorem ord_sign : ∀ s, s < 257 → (ordB (hl s - 5)).length ≤ (ordB 26).idxOf s ∧ (ordB 26).idxOf s < (ordB (hl s - 5)).length + many (hl s) ∧ (ordB 26).getD ((ordB 26).idxOf s) 0 = s := by decide +kernel
theorem first_succ (n : Nat) (h : 5 ≤ n) : first (n + 1) = 2 * (first n + many n) := by
  unfold first many
  obtain ⟨k, rfl⟩ : ∃ k, n = 5 + k := ⟨n - 5, by omega⟩
  rw [show 5 + k + 1 - 5 = k + 1 by omega, show 5 + k - 5 = k by omega]
  rfl
/-- Above the codes of n bits, also when bits are cut off. -/
theorem cut_ge (v k : Nat) (h5 : 5 ≤ k) : ∀ j, first (k + j + 1) ≤ v → first k + many k ≤ v >>> (j + 1) := by
  intro j
  induction j generalizing v with
  | zero =>
    intro h
    rw [Nat.add_zero, first_succ k h5] at h
    rw [Nat.shiftRight_eq_div_pow]
    omega
  | succ j ih =>
    intro h
    have h2 := first_succ (k + (j + 1)) (by omega)
    rw [h2] at h
    have h3 := ih (v / 2) (by rw [show k + j + 1 = k + (j + 1) by omega]; omega)
    rw [Nat.shiftRight_eq_div_pow] at h3 ⊢
    rw [Nat.div_div_eq_div_mul, ← Nat.pow_succ'] at h3
    exact h3
theorem code_first {s : Nat} (hs : s < 257) : first (hl s) ≤ codeN s ∧ codeN s < first (hl s) + many (hl s) ∧ (ordB (hl s - 5)).length + codeN s - first (hl s) = (ordB 26).idxOf s := by
  obtain ⟨h1, h2, _⟩ := ord_sign s hs
  unfold codeN first
  omega
theorem full_some {s : Nat} (hs : s < 257) : decS (hl s) (codeN s) = some s := by
  obtain ⟨h1, h2, h3⟩ := code_first hs
  unfold decS
  rw [if_pos ⟨(hl_le s).1, h1, h2⟩, h3, (ord_sign s hs).2.2]
theorem pre_none {s k j : Nat} (hs : s < 257) (hk : k + (j + 1) = hl s) : decS k (codeN s >>> (j + 1)) = none := by
  unfold decS
  rw [if_neg]
  rintro ⟨h5, h1, h2⟩
  have := cut_ge (codeN s) k h5 j (by rw [show k + j + 1 = hl s by omega]; exact (code_first hs).1)
  omega
theorem lowb_succ (j v : Nat) : lowb (j + 1) v = v.testBit j :: lowb j v := by
  rw [Nat.add_comm, lowb_add]
  simp [lowb]
theorem shift_bit (v j : Nat) : 2 * (v >>> (j + 1)) + (v.testBit j).toNat = v >>> j := by
  rw [Nat.shiftRight_eq_div_pow, Nat.shiftRight_eq_div_pow, Nat.testBit_eq_decide_div_mod_eq, Nat.pow_succ, ← Nat.div_div_eq_div_mul]
  generalize v / 2 ^ j = y
  by_cases h1 : y % 2 = 1
  · rw [decide_eq_true h1]
    simp only [Bool.toNat_true]
    omega
  · rw [decide_eq_false h1]
    simp only [Bool.toNat_false]
    omega
theorem dec_run (most : Int) (t : List Bool) (o : List UInt8) {s : Nat} (hs : s < 257) : ∀ j k, k + (j + 1) = hl s →
    dec most (lowb (j + 1) (codeN s) ++ t) (codeN s >>> (j + 1)) k o = if s = 256 then ([], 2) else if most ≤ (o.length : Int) then ([], 3) else dec most t 0 0 (o ++ [UInt8.ofNat s]) := by
  intro j
  induction j with
  | zero =>
    intro k hk
    rw [lowb_succ, List.cons_append, dec_some _ _ _ _ _ s _ (by rw [shift_bit, Nat.shiftRight_zero, show k + 1 = hl s by omega]; exact full_some hs)]
    rfl
  | succ j ih =>
    intro k hk
    rw [lowb_succ, List.cons_append, dec_first _ _ _ _ _ _ (by rw [shift_bit]; exact pre_none hs (by omega)), shift_bit]
    exact ih (k + 1) (by omega)
theorem dec_sign (most : Int) (t : List Bool) (o : List UInt8) {s : Nat} (hs : s < 257) :
    dec most (cb s ++ t) 0 0 o = if s = 256 then ([], 2) else if most ≤ (o.length : Int) then ([], 3) else dec most t 0 0 (o ++ [UInt8.ofNat s]) := by
  have h5 := (hl_le s).1
  have hc := (code_ge s hs).2
  obtain ⟨j, hj⟩ : ∃ j, hl s = j + 1 := ⟨hl s - 1, by omega⟩
  have h := dec_run most t o hs j 0 (by omega)
  rw [hj] at hc
  rw [Nat.shiftRight_eq_div_pow, Nat.div_eq_of_lt hc] at h
  unfold cb
  rw [hj]
  exact h
theorem bitsL_cons (c : UInt8) (l : List UInt8) : bitsL (c :: l) = cb c.toNat ++ bitsL l := by
  unfold bitsL
  rw [List.flatMap_cons]
theorem dec_byte (most : Int) (t : List Bool) (o : List UInt8) (c : UInt8) :
    dec most (cb c.toNat ++ t) 0 0 o = if most ≤ (o.length : Int) then ([], 3) else dec most t 0 0 (o ++ [c]) := by
  have := c.toNat_lt
  rw [dec_sign most t o (by omega), if_neg (by omega), UInt8.ofNat_toNat]
/-- A text with room is read whole. -/
theorem dec_text (most : Int) (t : List Bool) : ∀ (l o : List UInt8), ((o.length + l.length : Nat) : Int) ≤ most → dec most (bitsL l ++ t) 0 0 o = dec most t 0 0 (o ++ l) := by
  intro l
  induction l with
  | nil =>
    intro o _
    rw [List.append_nil]
    rfl
  | cons c l ih =>
    intro o h
    rw [List.length_cons] at h
    rw [bitsL_cons, List.append_assoc, dec_byte, if_neg (by omega), ih _ (by rw [List.length_append, List.length_singleton]; omega), List.append_assoc]
    rfl
/-- A text without room is too long. -/
theorem dec_long (most : Int) (t : List Bool) : ∀ (l o : List UInt8), (o.length : Int) ≤ most → most < ((o.length + l.length : Nat) : Int) → dec most (bitsL l ++ t) 0 0 o = ([], 3) := by
  intro l
  induction l with
  | nil =>
    intro o h1 h2
    simp at h2
    omega
  | cons c l ih =>
    intro o h1 h2
    rw [List.length_cons] at h2
    rw [bitsL_cons, List.append_assoc, dec_byte]
    by_cases h : most ≤ (o.length : Int)
    · rw [if_pos h]
    · rw [if_neg h]
      exact ih _ (by rw [List.length_append, List.length_singleton]; omega) (by rw [List.length_append, List.length_singleton]; omega)
theorem ones_gap : ∀ n, n < 30 → 5 ≤ n → first n + many n ≤ 2 ^ n - 1 := by decide +kernel
theorem ones_none {n : Nat} (h : n < 30) : decS n (2 ^ n - 1) = none := by
  unfold decS
  rw [if_neg]
  rintro ⟨h5, h1, h2⟩
  have := ones_gap n h h5
  omega
theorem dec_ones_few (most : Int) (o : List UInt8) : ∀ p k, k + p < 30 → dec most (List.replicate p true) (2 ^ k - 1) k o = if k + p ≤ 7 then (o, 0) else ([], 2) := by
  intro p
  induction p with
  | zero =>
    intro k h
    simp only [List.replicate_zero, dec, Nat.add_zero]
    by_cases h7 : k ≤ 7
    · rw [if_pos ⟨h7, trivial⟩, if_pos h7]
    · rw [if_neg (fun h => h7 h.1), if_neg h7]
  | succ p ih =>
    intro k h
    have e : 2 * (2 ^ k - 1) + true.toNat = 2 ^ (k + 1) - 1 := by
      have h0 : 0 < 2 ^ k := Nat.pow_pos (by omega)
      rw [Nat.pow_succ, Bool.toNat_true]
      omega
    rw [List.replicate_succ, dec_first _ _ _ _ _ _ (by rw [e]; exact ones_none (by omega)), e, ih (k + 1) (by omega), show k + 1 + p = k + (p + 1) by omega]
theorem end_code : cb 256 = List.replicate 30 true := by decide +kernel
/-- Ones behind: up to seven are padding. -/
theorem dec_ones (most : Int) (o : List UInt8) (p : Nat) : dec most (List.replicate p true) 0 0 o = if p ≤ 7 then (o, 0) else ([], 2) := by
  by_cases h : p < 30
  · have := dec_ones_few most o p 0 (by omega)
    rw [Nat.zero_add] at this
    exact this
  · obtain ⟨q, rfl⟩ : ∃ q, p = 30 + q := ⟨p - 30, by omega⟩
    rw [← List.replicate_append_replicate, ← end_code, dec_sign most _ o (by omega), if_pos rfl, if_neg (by omega)]
/-- What Decode answers for what Encode wrote, with ones behind. -/
theorem dec_back (most : Int) (l : List UInt8) (p : Nat) (h : (l.length : Int) ≤ most) : dec most (bitsL l ++ List.replicate p true) 0 0 [] = if p ≤ 7 then (l, 0) else ([], 2) := by
  rw [dec_text _ _ _ _ (by simpa using h), dec_ones]
  rfl
theorem dec_over (most : Int) (l : List UInt8) (t : List Bool) (h0 : 0 ≤ most) (h : most < (l.length : Int)) : dec most (bitsL l ++ t) 0 0 [] = ([], 3) :=
  dec_long most t l [] (by simpa using h0) (by simpa using h)
theorem enc_len {o l : List UInt8} {p : Nat} (h : bitsB o = bitsL l ++ List.replicate p true) (hp : p ≤ 7) : o.length = (hbits l + 7) / 8 := by
  have := congrArg List.length h
  rw [bitsB_len, List.length_append, bitsL_len, List.length_replicate] at this
  omega
theorem byte_ones : bitsB [255] = List.replicate 8 true := by decide +kernel
theorem byte_four : bitsB [255, 255, 255, 255] = List.replicate 32 true := by decide +kernel
theorem hbits_append (a b : List UInt8) : hbits (a ++ b) = hbits a + hbits b := by
  unfold hbits
  rw [List.map_append, List.sum_append]
/-- No code begins another one. -/
theorem no_begin {x y : Nat} (hx : x < 257) (hy : y < 257) (hxy : x ≠ y) (h : hl x ≤ hl y) : codeN y >>> (hl y - hl x) ≠ codeN x := by
  obtain ⟨a1, a2, a3⟩ := code_first hx
  obtain ⟨b1, b2, b3⟩ := code_first hy
  by_cases he : hl x = hl y
  · rw [he, Nat.sub_self, Nat.shiftRight_zero]
    intro hc
    rw [he] at a1 a2 a3
    rw [hc, a3] at b3
    apply hxy
    rw [← (ord_sign x hx).2.2, ← (ord_sign y hy).2.2, b3]
  · obtain ⟨j, hj⟩ : ∃ j, hl y = hl x + j + 1 := ⟨hl y - hl x - 1, by omega⟩
    have h1 := cut_ge (codeN y) (hl x) (hl_le x).1 j (by rw [← hj]; exact b1)
    rw [show hl y - hl x = j + 1 by omega]
    omega
theorem one_byte : ∀ n, n < 256 → lowb 8 n = [false, false, false, true, true, true, true, true] → n = 31 := by decide +kernel
theorem cb_a : cb 97 = [false, false, false, true, true] := by decide +kernel
/-- The code of "a". -/
theorem enc_a {o : List UInt8} {p : Nat} (h : bitsB o = bitsL [97] ++ List.replicate p true) (hp : p ≤ 7) : o = [31] := by
  have h1 : bitsL [97] = [false, false, false, true, true] := by
    rw [bitsL_cons]
    exact cb_a
  rw [h1] at h
  have hlen := congrArg List.length h
  rw [bitsB_len] at hlen
  simp at hlen
  obtain rfl : p = 3 := by omega
  match o, hlen, h with
  | [c], _, h =>
    rw [bitsB_one] at h
    have := one_byte c.toNat c.toNat_lt h
    exact congrArg (fun z => [z]) (UInt8.toNat_inj.1 (this.trans rfl))
end Go.Proofs.Ytimklfdofldhaaa
