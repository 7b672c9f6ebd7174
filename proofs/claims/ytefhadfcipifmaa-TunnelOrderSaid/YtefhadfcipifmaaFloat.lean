/- Doubles that stand for whole numbers, by the words of the model's own numbers: plain. -/
import Derived.Laws.FloatArith
import Derived.Laws.ComplexArith
namespace Go.Proofs.Ytefhadfcipifmaa
open Ieee

theorem zz (a b : Nat) : 0 * a = 0 * b := by rw [Nat.zero_mul, Nat.zero_mul]
/-- It stands for the whole number n (a zero of either sign for 0). -/
def Val (d : Datum) (n : Nat) : Prop := ∃ s m i, d = .number s m i ∧ (s = true → m = 0) ∧ ∃ K : Nat, 0 ≤ i + K ∧ m * 2 ^ (i + K).toNat = n * 2 ^ K
theorem val_zero (s : Bool) (i : Int) (K : Nat) (h : 0 ≤ i + K) : Val (.number s 0 i) 0 := ⟨s, 0, i, rfl, fun _ => rfl, K, h, zz _ _⟩
theorem two_pos (k : Nat) : 0 < 2 ^ k := Nat.pow_pos (by omega)
theorem val_all {m n : Nat} {i : Int} {K : Nat} (h0 : 0 ≤ i + K) (h : m * 2 ^ (i + K).toNat = n * 2 ^ K) (L : Nat) (hL : 0 ≤ i + L) : m * 2 ^ (i + L).toNat = n * 2 ^ L := by
  by_cases hk : K ≤ L
  · have e1 : (i + L).toNat = (i + K).toNat + (L - K) := by omega
    have e2 : L = K + (L - K) := by omega
    generalize hj : L - K = j at e1 e2
    rw [e1, e2, Nat.pow_add, Nat.pow_add, ← Nat.mul_assoc, h, Nat.mul_assoc]
  · have e1 : (i + K).toNat = (i + L).toNat + (K - L) := by omega
    have e2 : K = L + (K - L) := by omega
    generalize hj : K - L = j at e1 e2
    rw [e1, e2, Nat.pow_add, Nat.pow_add, ← Nat.mul_assoc, ← Nat.mul_assoc] at h
    exact Nat.eq_of_mul_eq_mul_right (two_pos j) h
theorem signed_val {s : Bool} {m : Nat} (h : s = true → m = 0) (u : Nat) : signed s m u = ((m * 2 ^ u : Nat) : Int) := by
  unfold signed
  rw [Nat.shiftLeft_eq]
  cases s
  · rfl
  · rw [h rfl]
    simp
theorem signed_not {t : Bool} {m : Nat} (h : t = true → m = 0) (u : Nat) : signed (!t) m u = -((m * 2 ^ u : Nat) : Int) := by
  unfold signed
  rw [Nat.shiftLeft_eq]
  cases t
  · rfl
  · rw [h rfl]
    simp
theorem cmp_same {a b : Int} {n m : Nat} (h1 : a < b ↔ n < m) (h2 : a = b ↔ n = m) : compare a b = compare n m := by
  show compareOfLessAndEq a b = compareOfLessAndEq n m
  unfold compareOfLessAndEq
  by_cases h : n < m
  · rw [if_pos h, if_pos (h1.2 h)]
  · rw [if_neg h, if_neg (fun k => h (h1.1 k))]
    by_cases h' : n = m
    · rw [if_pos h', if_pos (h2.2 h')]
    · rw [if_neg h', if_neg (fun k => h' (h2.1 k))]
/-- Two at one place. -/
theorem val_base {m n : Nat} {i : Int} {K : Nat} (h0 : 0 ≤ i + K) (h : m * 2 ^ (i + K).toNat = n * 2 ^ K) (b : Int) (hb : b ≤ i) (L : Nat) (hL : 0 ≤ b + L) : m * 2 ^ (i - b).toNat * 2 ^ (b + L).toNat = n * 2 ^ L := by
  have := val_all h0 h L (by omega)
  rw [show (i + L).toNat = (i - b).toNat + (b + L).toNat by omega, Nat.pow_add, ← Nat.mul_assoc] at this
  exact this
theorem order_val {d d' : Datum} {n n' : Nat} (h : Val d n) (h' : Val d' n') : d.order d' = some (compare n n') := by
  obtain ⟨s, m, i, rfl, hs, K, hK, e⟩ := h
  obtain ⟨t, m', j, rfl, ht, K', hK', e'⟩ := h'
  unfold Datum.order
  simp only
  rw [signed_val hs, signed_val ht]
  congr 1
  have e1 := val_base hK e (min i j) (by omega) (-(min i j)).toNat (by omega)
  have e2 := val_base hK' e' (min i j) (by omega) (-(min i j)).toNat (by omega)
  generalize (-(min i j)).toNat = L at e1 e2
  generalize (min i j + (L : Int)).toNat = c at e1 e2
  generalize m * 2 ^ (i - min i j).toNat = a at e1
  generalize m' * 2 ^ (j - min i j).toNat = b at e2
  have pc := two_pos c
  have pL := two_pos L
  generalize 2 ^ c = C at e1 e2 pc
  generalize 2 ^ L = M at e1 e2 pL
  have k1 : a < b ↔ n < n' := by
    rw [← Nat.mul_lt_mul_right pc, e1, e2, Nat.mul_lt_mul_right pL]
  have k2 : a = b ↔ n = n' := by
    constructor
    · intro h
      rw [h, e2] at e1
      exact (Nat.eq_of_mul_eq_mul_right pL e1).symm
    · intro h
      rw [h, ← e2] at e1
      exact Nat.eq_of_mul_eq_mul_right pc e1
  exact cmp_same (by omega) (by omega)
theorem sum_val {d d' : Datum} {n n' : Nat} (h : Val d n) (h' : Val d' n') : ∃ d'', d.sum d' = some d'' ∧ Val d'' (n + n') := by
  obtain ⟨s, m, i, rfl, hs, K, hK, e⟩ := h
  obtain ⟨t, m', j, rfl, ht, K', hK', e'⟩ := h'
  unfold Datum.sum
  simp only
  refine ⟨_, rfl, _, _, _, rfl, ?_, (-(min i j)).toNat, by omega, ?_⟩
  · rw [signed_val hs, signed_val ht]
    intro h
    split at h
    · omega
    · exact absurd (of_decide_eq_true h) (by omega)
  · rw [signed_val hs, signed_val ht]
    have e1 := val_base hK e (min i j) (by omega) (-(min i j)).toNat (by omega)
    have e2 := val_base hK' e' (min i j) (by omega) (-(min i j)).toNat (by omega)
    rw [show (((m * 2 ^ (i - min i j).toNat : Nat) : Int) + ((m' * 2 ^ (j - min i j).toNat : Nat) : Int)).natAbs = m * 2 ^ (i - min i j).toNat + m' * 2 ^ (j - min i j).toNat by omega, Nat.add_mul, Nat.add_mul, e1, e2]
theorem dif_val {d d' : Datum} {n n' : Nat} (h : Val d n) (h' : Val d' n') (hn : n' ≤ n) : ∃ d'', d.sum d'.opposite = some d'' ∧ Val d'' (n - n') := by
  obtain ⟨s, m, i, rfl, hs, K, hK, e⟩ := h
  obtain ⟨t, m', j, rfl, ht, K', hK', e'⟩ := h'
  unfold Datum.sum Datum.opposite
  simp only
  have e1 := val_base hK e (min i j) (by omega) (-(min i j)).toNat (by omega)
  have e2 := val_base hK' e' (min i j) (by omega) (-(min i j)).toNat (by omega)
  have hle : m' * 2 ^ (j - min i j).toNat ≤ m * 2 ^ (i - min i j).toNat := by
    apply Nat.le_of_mul_le_mul_right _ (two_pos (min i j + ((-(min i j)).toNat : Int)).toNat)
    rw [e1, e2]
    exact Nat.mul_le_mul_right _ hn
  refine ⟨_, rfl, _, _, _, rfl, ?_, (-(min i j)).toNat, by omega, ?_⟩
  · rw [signed_val hs, signed_not ht]
    intro h
    split at h
    · omega
    · exact absurd (of_decide_eq_true h) (by omega)
  · rw [signed_val hs, signed_not ht]
    rw [show (((m * 2 ^ (i - min i j).toNat : Nat) : Int) + -((m' * 2 ^ (j - min i j).toNat : Nat) : Int)).natAbs = m * 2 ^ (i - min i j).toNat - m' * 2 ^ (j - min i j).toNat by omega, Nat.sub_mul, Nat.sub_mul, e1, e2]
theorem log_lt {n : Nat} (_h : n ≠ 0) : n < 2 ^ (n.log2 + 1) := Nat.lt_log2_self
theorem log_le {n : Nat} (h : n ≠ 0) : 2 ^ n.log2 ≤ n := Nat.log2_self_le h
theorem log_mul {n k : Nat} (h : n ≠ 0) : (n * 2 ^ k).log2 = n.log2 + k := by
  have h1 := log_le h
  have h2 := log_lt h
  have hp := two_pos k
  refine (Nat.log2_eq_iff (by intro h3; rcases Nat.mul_eq_zero.1 h3 with h4 | h4 <;> omega)).2 ⟨?_, ?_⟩
  · rw [Nat.pow_add]
    exact Nat.mul_le_mul_right _ h1
  · rw [show n.log2 + k + 1 = (n.log2 + 1) + k by omega, Nat.pow_add]
    exact Nat.mul_lt_mul_of_pos_right h2 hp
/-- Cut towards zero. -/
theorem cut_zero (neg : Bool) (N drop : Nat) : Toward.zero.cut neg N drop = N / (1 <<< min drop (N.log2 + 2)) := by
  unfold Toward.cut
  simp
theorem cut_zero_le (neg : Bool) (N drop : Nat) : Toward.zero.cut neg N drop * 2 ^ drop ≤ N := by
  rw [cut_zero, Nat.one_shiftLeft]
  by_cases h : drop ≤ N.log2 + 2
  · rw [Nat.min_eq_left h]
    exact Nat.div_mul_le_self _ _
  · rw [Nat.min_eq_right (by omega)]
    have : N < 2 ^ (N.log2 + 2) := by
      by_cases h0 : N = 0
      · subst h0
        exact two_pos _
      · exact Nat.lt_of_lt_of_le (log_lt h0) (Nat.pow_le_pow_right (by omega) (by omega))
    rw [Nat.div_eq_of_lt this]
    omega
theorem cut_mul (way : Toward) (neg : Bool) (q drop : Nat) : way.cut neg (q * 2 ^ drop) drop = q := by
  unfold Toward.cut
  simp only
  by_cases h0 : q = 0
  · subst h0
    have h1 : ∀ g : Nat, 0 < g → (0 * 2 ^ drop / g + (match way with | .even => decide (g < 2 * (0 * 2 ^ drop % g)) || g == 2 * (0 * 2 ^ drop % g) && 0 * 2 ^ drop / g % 2 == 1 | .down => neg && 0 * 2 ^ drop % g != 0 | .up => !neg && 0 * 2 ^ drop % g != 0 | .zero => false : Bool).toNat) = 0 := by
      intro g hg
      rw [Nat.zero_mul, Nat.zero_div, Nat.zero_mod]
      cases way <;> simp <;> omega
    exact h1 _ (by rw [Nat.one_shiftLeft]; exact two_pos _)
  · rw [log_mul h0, Nat.min_eq_left (by omega), Nat.one_shiftLeft, Nat.mul_div_cancel _ (two_pos _), Nat.mul_mod_left]
    have := two_pos drop
    cases way <;> simp <;> omega
theorem toInt_val {d : Datum} {n : Nat} (h : Val d n) : d.toInt .zero = some (n : Int) := by
  obtain ⟨s, m, i, rfl, hs, K, hK, e⟩ := h
  unfold Datum.toInt Datum.integral
  simp only
  have hc : Toward.zero.cut s (m <<< i.toNat) (-i).toNat = n := by
    rw [Nat.shiftLeft_eq]
    have := val_all hK e (-i).toNat (by omega)
    rw [show (i + ((-i).toNat : Int)).toNat = i.toNat by omega] at this
    rw [this]
    exact cut_mul _ _ _ _
  rw [hc]
  congr 1
  have h0 : s = true → n = 0 := by
    intro h
    have := hs h
    subst this
    rw [Nat.zero_mul] at e
    have := two_pos K
    rcases Nat.mul_eq_zero.1 e.symm with h1 | h1
    · exact h1
    · omega
  rw [signed_val h0]
  simp
theorem read_word (E S : Nat) (hE : E ≤ 1074) (h1 : 2 ^ 52 ≤ S) (h2 : S < 2 ^ 53) : Ieee.double.read (E * 2 ^ 52 + S) = .number false S (-1074 + (E : Int)) := by
  unfold Format.read
  have a1 : Ieee.double.signWeight = 9223372036854775808 := by decide
  have a2 : Ieee.double.binade = 4503599627370496 := by decide
  have a3 : Ieee.double.infRung = 9218868437227405312 := by decide
  have a4 : Ieee.double.leastPlace = -1074 := by decide
  rw [a1, a2, a3, a4]
  have b1 : (2 : Nat) ^ 52 = 4503599627370496 := by decide
  have b2 : (2 : Nat) ^ 53 = 9007199254740992 := by decide
  rw [b1] at h1 ⊢
  rw [b2] at h2
  simp only
  have c1 : (E * 4503599627370496 + S) / 9223372036854775808 = 0 := by omega
  have c2 : (E * 4503599627370496 + S) % 9223372036854775808 = E * 4503599627370496 + S := by omega
  rw [c1, c2, if_neg (by omega), if_pos (by omega)]
  have c3 : 4503599627370496 + (E * 4503599627370496 + S) % 4503599627370496 = S := by omega
  have c4 : (((E * 4503599627370496 + S) / 4503599627370496 - 1 : Nat) : Int) = E := by omega
  rw [c3, c4]
  rfl
theorem write_val {d : Datum} {n : Nat} (h : Val d n) (hn : n < 2 ^ 53) : Val (Ieee.double.read (Ieee.double.write d)) n := by
  obtain ⟨s, m, i, rfl, hs, K, hK, e⟩ := h
  unfold Format.write
  simp only
  unfold Format.nearest
  by_cases hm : m = 0
  · rw [if_pos hm]
    subst hm
    have hn0 : n = 0 := by
      rw [Nat.zero_mul] at e
      have := two_pos K
      rcases Nat.mul_eq_zero.1 e.symm with h1 | h1 <;> omega
    subst hn0
    cases s
    · rw [show Ieee.double.read (Ieee.double.word false 0) = .number false 0 (-1074) by decide]
      exact val_zero _ _ 1074 (by omega)
    · rw [show Ieee.double.read (Ieee.double.word true 0) = .number true 0 (-1074) by decide]
      exact val_zero _ _ 1074 (by omega)
  · rw [if_neg hm]
    obtain rfl : s = false := by
      cases s
      · rfl
      · exact absurd (hs rfl) hm
    have hn0 : n ≠ 0 := by
      intro h0
      subst h0
      rw [Nat.zero_mul] at e
      have := two_pos (i + K).toNat
      rcases Nat.mul_eq_zero.1 e with h1 | h1 <;> omega
    have hl : i + (m.log2 : Int) = (n.log2 : Int) := by
      have := congrArg Nat.log2 e
      rw [log_mul hm, log_mul hn0] at this
      omega
    have hL : n.log2 ≤ 52 := by
      have h1 := log_le hn0
      by_cases h2 : n.log2 ≤ 52
      · exact h2
      · have := Nat.pow_le_pow_right (n := 2) (by omega) (show 53 ≤ n.log2 by omega)
        omega
    simp only
    have a4 : Ieee.double.leastPlace = -1074 := by decide
    have a5 : Ieee.double.fractionBits = 52 := rfl
    rw [a4, a5, hl]
    have hmax : max ((n.log2 : Int) - ((52 : Nat) : Int)) (-1074) = (n.log2 : Int) - 52 := by omega
    rw [hmax]
    have hkept : Toward.even.cut false (m <<< (i - ((n.log2 : Int) - 52)).toNat) ((n.log2 : Int) - 52 - i).toNat = n * 2 ^ (52 - n.log2) := by
      rw [Nat.shiftLeft_eq]
      have h1 := val_all hK e (52 - n.log2 + ((n.log2 : Int) - 52 - i).toNat) (by omega)
      rw [show (i + ((52 - n.log2 + ((n.log2 : Int) - 52 - i).toNat : Nat) : Int)).toNat = (i - ((n.log2 : Int) - 52)).toNat by omega, Nat.pow_add, ← Nat.mul_assoc] at h1
      rw [h1]
      exact cut_mul _ _ _ _
    rw [hkept]
    have hS1 : 2 ^ 52 ≤ n * 2 ^ (52 - n.log2) := by
      have h1 := Nat.mul_le_mul_right (2 ^ (52 - n.log2)) (log_le hn0)
      rw [← Nat.pow_add, show n.log2 + (52 - n.log2) = 52 by omega] at h1
      exact h1
    have hS2 : n * 2 ^ (52 - n.log2) < 2 ^ 53 := by
      have h1 := Nat.mul_lt_mul_of_pos_right (log_lt hn0) (two_pos (52 - n.log2))
      rw [← Nat.pow_add, show n.log2 + 1 + (52 - n.log2) = 53 by omega] at h1
      exact h1
    generalize hSe : n * 2 ^ (52 - n.log2) = S at hS1 hS2
    obtain ⟨E, hE⟩ : ∃ E : Nat, ((n.log2 : Int) - 52 - -1074).toNat = E := ⟨_, rfl⟩
    rw [hE]
    have hE2 : E ≤ 1074 := by omega
    have a2 : Ieee.double.binade = 2 ^ 52 := by decide
    have a3 : Ieee.double.infRung = 9218868437227405312 := by decide
    rw [a2, a3]
    have b1 : (2 : Nat) ^ 52 = 4503599627370496 := by decide
    have b2 : (2 : Nat) ^ 53 = 9007199254740992 := by decide
    rw [Nat.min_eq_left (by rw [b1]; rw [b2] at hS2; omega)]
    unfold Format.word
    rw [if_neg (by decide), read_word E S hE2 hS1 hS2]
    refine ⟨false, S, _, rfl, by simp, 52 - n.log2, by omega, ?_⟩
    rw [show (-1074 + (E : Int) + ((52 - n.log2 : Nat) : Int)).toNat = 0 by omega, ← hSe]
    omega

/-- A word that stands for n. -/
def V (x n : Nat) : Prop := Val (Ieee.double.read x) n
/-- The word of a whole number. -/
def fw (n : Nat) : Nat := Ieee.double.write (.number false n 0)
theorem V_fw {n : Nat} (h : n < 2 ^ 53) : V (fw n) n := write_val ⟨false, n, 0, rfl, by simp, 0, by decide, by simp⟩ h
theorem V_order {x y n m : Nat} (h : V x n) (h' : V y m) : FloatKind.f64.format.order x y = some (compare n m) := order_val h h'
theorem V_add {x y n m : Nat} (h : V x n) (h' : V y m) (hnm : n + m < 2 ^ 53) : ∃ r, floatBits .add .f64 x y = some r ∧ V r (n + m) := by
  obtain ⟨d, h1, h2⟩ := sum_val h h'
  refine ⟨Ieee.double.write d, ?_, write_val h2 hnm⟩
  show Ieee.double.add x y = _
  unfold Format.add
  rw [h1]
  rfl
theorem V_sub {x y n m : Nat} (h : V x n) (h' : V y m) (hnm : m ≤ n) (hn : n < 2 ^ 53) : ∃ r, floatBits .sub .f64 x y = some r ∧ V r (n - m) := by
  obtain ⟨d, h1, h2⟩ := dif_val h h' hnm
  refine ⟨Ieee.double.write d, ?_, write_val h2 (by omega)⟩
  show Ieee.double.sub x y = _
  unfold Format.sub
  rw [h1]
  rfl
theorem V_int {x n : Nat} (h : V x n) (hn : n < 2 ^ 53) : floatToIntVal .f64 x .i64 = some (n : Int) := by
  unfold floatToIntVal
  have : (FloatKind.f64.decode x).toInt .zero = some (n : Int) := toInt_val h
  rw [this]
  simp only
  rw [if_pos]
  have a1 : IntKind.i64.min = -9223372036854775808 := by decide
  have a2 : IntKind.i64.max = 9223372036854775807 := by decide
  have b2 : (2 : Nat) ^ 53 = 9007199254740992 := by decide
  rw [a1, a2]
  omega
theorem V_zero : V 0 0 := by
  unfold V
  rw [show Ieee.double.read 0 = .number false 0 (-1074) by decide]
  exact val_zero _ _ 1074 (by omega)
theorem V_max : V 4832362400168542208 (2 ^ 50) := ⟨false, 4503599627370496, -2, by decide, by simp, 2, by decide, by decide⟩
theorem V_of {n : Nat} : floatOfInt .f64 (n : Int) = fw n := by
  unfold floatOfInt fw FloatKind.nearest
  rw [decide_eq_false (by omega), Int.natAbs_natCast]
  rfl
/-- What count asks of a word. -/
def inR (x : Nat) : Bool := (FloatKind.f64.format.order x 0 == some .gt || FloatKind.f64.format.order x 0 == some .eq) && (FloatKind.f64.format.order x 4832362400168542208 == some .lt || FloatKind.f64.format.order x 4832362400168542208 == some .eq)
theorem V_in {x n : Nat} (h : V x n) : inR x = decide (n ≤ 2 ^ 50) := by
  unfold inR
  rw [V_order h V_zero, V_order h V_max]
  generalize (2 : Nat) ^ 50 = C
  have h1 : compare n 0 = .gt ∨ compare n 0 = .eq := by
    show compareOfLessAndEq n 0 = _ ∨ compareOfLessAndEq n 0 = _
    unfold compareOfLessAndEq
    rw [if_neg (by omega)]
    split
    · exact .inr rfl
    · exact .inl rfl
  have h2 : ((some (compare n C) == some Ordering.lt) || (some (compare n C) == some Ordering.eq)) = decide (n ≤ C) := by
    show ((some (compareOfLessAndEq n C) == some Ordering.lt) || (some (compareOfLessAndEq n C) == some Ordering.eq)) = _
    unfold compareOfLessAndEq
    by_cases h : n < C
    · rw [if_pos h, decide_eq_true (by omega)]
      rfl
    · rw [if_neg h]
      by_cases h' : n = C
      · rw [if_pos h', decide_eq_true (by omega)]
        rfl
      · rw [if_neg h', decide_eq_false (by omega)]
        rfl
  rw [h2]
  rcases h1 with h1 | h1 <;> rw [h1] <;> rfl
/-- A word within the range is cut to a whole number; and where that is the word's own, it stands for it. -/
theorem in_int {x : Nat} (h : inR x = true) : ∃ t : Nat, t ≤ 2 ^ 50 ∧ floatToIntVal .f64 x .i64 = some (t : Int) ∧ (FloatKind.f64.format.order (fw t) x = some .eq → V x t) := by
  unfold inR at h
  simp only [Bool.and_eq_true, Bool.or_eq_true, beq_iff_eq] at h
  obtain ⟨h0, h1⟩ := h
  have h0 : (Ieee.double.read x).order (Ieee.double.read 0) = some .gt ∨ (Ieee.double.read x).order (Ieee.double.read 0) = some .eq := h0
  have h1 : (Ieee.double.read x).order (Ieee.double.read 4832362400168542208) = some .lt ∨ (Ieee.double.read x).order (Ieee.double.read 4832362400168542208) = some .eq := h1
  rw [show Ieee.double.read 0 = .number false 0 (-1074) by decide] at h0
  rw [show Ieee.double.read 4832362400168542208 = .number false 4503599627370496 (-2) by decide] at h1
  unfold V floatToIntVal
  have e : FloatKind.f64.decode x = Ieee.double.read x := rfl
  have e2 : ∀ t, FloatKind.f64.format.order (fw t) x = (Ieee.double.read (fw t)).order (Ieee.double.read x) := fun _ => rfl
  rw [e]
  simp only [e2]
  generalize Ieee.double.read x = d at h0 h1
  rcases d with ⟨s, m, i⟩ | s | ⟨s, f⟩
  · have hs : s = true → m = 0 := by
      intro hs
      subst hs
      simp only [Datum.order, Option.some.injEq] at h0
      have hge : ¬ (signed true m (i - min i (-1074)).toNat < signed false 0 (-1074 - min i (-1074)).toNat) := by
        intro hlt
        have : compare (signed true m (i - min i (-1074)).toNat) (signed false 0 (-1074 - min i (-1074)).toNat) = .lt := by
          show compareOfLessAndEq _ _ = _
          unfold compareOfLessAndEq
          rw [if_pos hlt]
        rw [this] at h0
        rcases h0 with h | h <;> cases h
      unfold signed at hge
      rw [if_pos rfl, if_neg (by decide), Nat.shiftLeft_eq, Nat.shiftLeft_eq, Nat.zero_mul] at hge
      have hp := two_pos (i - min i (-1074)).toNat
      by_cases hm : m = 0
      · exact hm
      · have := Nat.mul_pos (Nat.pos_of_ne_zero hm) hp
        omega
    have hle : signed s m (i - min i (-2)).toNat ≤ signed false 4503599627370496 (-2 - min i (-2)).toNat := by
      simp only [Datum.order, Option.some.injEq] at h1
      apply Int.not_lt.1
      intro hlt
      have : compare (signed s m (i - min i (-2)).toNat) (signed false 4503599627370496 (-2 - min i (-2)).toNat) = .gt := by
        show compareOfLessAndEq _ _ = _
        unfold compareOfLessAndEq
        rw [if_neg (by omega), if_neg (by omega)]
      rw [this] at h1
      rcases h1 with h | h <;> cases h
    rw [signed_val hs, signed_val (by simp)] at hle
    have hle2 : m * 2 ^ (i - min i (-2)).toNat ≤ 4503599627370496 * 2 ^ (-2 - min i (-2)).toNat := by omega
    have hct : (Datum.number s m i).toInt .zero = some ((Toward.zero.cut s (m <<< i.toNat) (-i).toNat : Nat) : Int) := by
      unfold Datum.toInt Datum.integral
      simp only
      rw [signed_val (fun h => by rw [hs h, cut_zero]; simp)]
      simp
    have hcb : Toward.zero.cut s (m <<< i.toNat) (-i).toNat ≤ 2 ^ 50 := by
      have hc := cut_zero_le s (m <<< i.toNat) (-i).toNat
      generalize Toward.zero.cut s (m <<< i.toNat) (-i).toNat = t at hc
      rw [Nat.shiftLeft_eq] at hc
      have k1 := Nat.mul_le_mul_right (2 ^ (-min i (-2) - (-i).toNat).toNat) hc
      rw [Nat.mul_assoc, ← Nat.pow_add, Nat.mul_assoc, ← Nat.pow_add] at k1
      rw [show (-i).toNat + (-min i (-2) - ((-i).toNat : Int)).toNat = (-min i (-2)).toNat by omega, show i.toNat + (-min i (-2) - ((-i).toNat : Int)).toNat = (i - min i (-2)).toNat by omega] at k1
      have k2 := Nat.le_trans k1 hle2
      have k3 : 4503599627370496 * 2 ^ (-2 - min i (-2)).toNat = 2 ^ 50 * 2 ^ (-min i (-2)).toNat := by
        rw [show (-min i (-2)).toNat = 2 + (-2 - min i (-2)).toNat by omega, Nat.pow_add, ← Nat.mul_assoc]
      rw [k3] at k2
      exact Nat.le_of_mul_le_mul_right k2 (two_pos _)
    generalize Toward.zero.cut s (m <<< i.toNat) (-i).toNat = t at hct hcb
    have b1 : (2 : Nat) ^ 50 = 1125899906842624 := by decide
    have b2 : (2 : Nat) ^ 53 = 9007199254740992 := by decide
    refine ⟨t, hcb, ?_, fun heq => ?_⟩
    · rw [hct]
      simp only
      have a1 : IntKind.i64.min = -9223372036854775808 := by decide
      have a2 : IntKind.i64.max = 9223372036854775807 := by decide
      rw [if_pos (by rw [a1, a2]; omega)]
    · obtain ⟨s', m', j, hd, hs', K', hK', e'⟩ := V_fw (n := t) (by omega)
      rw [hd] at heq
      simp only [Datum.order, Option.some.injEq] at heq
      rw [signed_val hs', signed_val hs] at heq
      have heq2 : m' * 2 ^ (j - min j i).toNat = m * 2 ^ (i - min j i).toNat := by
        have h2 : compareOfLessAndEq ((m' * 2 ^ (j - min j i).toNat : Nat) : Int) ((m * 2 ^ (i - min j i).toNat : Nat) : Int) = .eq := heq
        unfold compareOfLessAndEq at h2
        split at h2
        · cases h2
        · split at h2
          · omega
          · cases h2
      refine ⟨s, m, i, rfl, hs, (-(min j i)).toNat, by omega, ?_⟩
      have e1 := val_base hK' e' (min j i) (by omega) (-(min j i)).toNat (by omega)
      rw [heq2] at e1
      rw [show (i + ((-(min j i)).toNat : Int)).toNat = (i - min j i).toNat + (min j i + ((-(min j i)).toNat : Int)).toNat by omega, Nat.pow_add, ← Nat.mul_assoc]
      exact e1
  · cases s <;> simp [Datum.order] at h0 h1
  · simp [Datum.order] at h0
end Go.Proofs.Ytefhadfcipifmaa
