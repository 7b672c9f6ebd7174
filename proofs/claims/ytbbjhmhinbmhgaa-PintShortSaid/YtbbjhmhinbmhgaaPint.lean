/- Integers with a prefix, each call once. -/
import Derived.Test.YtbbjhmhinbmhgaaBytesFn
import Derived.Test.YtbbjhmhinbmhgaaBits
import Derived.WalkMore
import Derived.ScopeJumps
import Derived.Outline
namespace Go.Proofs.Ytbbjhmhinbmhgaa
open Go.RowKit


def onesN (bits : Int) : Int := if 1 ≤ bits ∧ bits ≤ 8 then 2 ^ bits.toNat - 1 else 0

set_option maxHeartbeats 400000 in
set_option maxRecDepth 100000 in
theorem ones_any (bits : Int) (w : World) : Calls Try.prog 14 #[.int .i64 bits] w fun e w' => e = .returned (.int .i64 (onesN bits)) ∧ w = w' := by
  by_cases h : 1 ≤ bits ∧ bits ≤ 8
  · obtain ⟨h1, h2⟩ := h
    have h3 : bits = 1 ∨ bits = 2 ∨ bits = 3 ∨ bits = 4 ∨ bits = 5 ∨ bits = 6 ∨ bits = 7 ∨ bits = 8 := by omega
    clear h1 h2
    rcases h3 with rfl | rfl | rfl | rfl | rfl | rfl | rfl | rfl
    all_goals
      go_enter Try.func14, Try.ntmps14
      go_wp2_with fail
      go_ret
      exact ⟨rfl, rfl⟩
  · have e : onesN bits = 0 := by unfold onesN; rw [if_neg h]
    rw [e]
    clear e
    by_cases hb : bits < 1
    · go_enter Try.func14, Try.ntmps14
      go_wp2_with fail
      go_ret
      exact ⟨rfl, rfl⟩
    · go_enter Try.func14, Try.ntmps14
      go_wp2_with fail
      go_ret
      exact ⟨rfl, rfl⟩

/-- Groups of seven bits, the least first. -/
def groups : Nat → Nat → List UInt8
  | 0, n => [UInt8.ofNat n]
  | q + 1, n => if n < 128 then [UInt8.ofNat n] else UInt8.ofNat (n % 128 + 128) :: groups q (n / 128)
/-- The first byte. -/
def headI (first f v : Int) : Int := Go.bits .or .u8 (Go.bits .andNot .u8 first f) v
/-- What Put answers. -/
def putR (first bits n : Int) : List UInt8 × Int :=
  if onesN bits = 0 ∨ n < 0 ∨ 2147483647 < n then ([], 1)
  else if n < onesN bits then ([UInt8.ofNat (headI first (onesN bits) n).toNat], 0)
  else (UInt8.ofNat (headI first (onesN bits) (onesN bits)).toNat :: groups 5 (n - onesN bits).toNat, 0)

def PutPost (r : List UInt8 × Int) (w : World) (e : Ending) (w' : World) : Prop :=
  ∃ A k c, e = .returned (.tuple #[.slice A k c, .int .i64 r.2]) ∧ w'.ownsRow w.heap.size 5 1 (.slice A k c) k (r.1.map bv) ∧ Below w.heap.size w w'

theorem headI_bounds (first f v : Int) (h0 : 0 ≤ first) (h1 : first < 256) (h2 : 0 ≤ f) (h3 : f < 256) (h4 : 0 ≤ v) (h5 : v < 256) : 0 ≤ Go.bits .andNot .u8 first f ∧ Go.bits .andNot .u8 first f < 256 ∧ 0 ≤ headI first f v ∧ headI first f v < 256 := by
  have k1 := Go.u8_andNot first f h0 h1 h2 h3
  have k2 : first.toNat &&& (255 - f.toNat) < 256 := Nat.lt_of_le_of_lt Nat.and_le_left (by omega)
  have b1 : 0 ≤ Go.bits .andNot .u8 first f ∧ Go.bits .andNot .u8 first f < 256 := by rw [k1]; omega
  have k3 := Go.u8_or _ v b1.1 b1.2 h4 h5
  have k4 : (Go.bits .andNot .u8 first f).toNat ||| v.toNat < 2 ^ 8 := Nat.or_lt_two_pow (by omega) (by omega)
  refine ⟨b1.1, b1.2, ?_⟩
  unfold headI
  rw [k3]
  omega

theorem or128 (m : Nat) : Go.bits .or .i64 ((m : Int) % 128) 128 = (m : Int) % 128 + 128 := by
  have h := or_add 1 ((m : Int) % 128) 7 (by omega) (by omega) (by omega) (by omega) (by omega)
  have e : Go.bits .or .i64 ((m : Int) % 128) 128 = Go.bits .or .i64 128 ((m : Int) % 128) := by
    have h1 := i64_or (m % 128) 128 (by omega) (by omega)
    have h2 := i64_or 128 (m % 128) (by omega) (by omega)
    rw [show ((m : Int) % 128) = ((m % 128 : Nat) : Int) by omega]
    rw [show (128 : Int) = ((128 : Nat) : Int) by omega]
    rw [h1, h2, Nat.or_comm]
  rw [e]
  simp at h
  rw [h]
  omega

theorem byte_of (n : Nat) (h : n < 256) : Value.int .u8 (n : Int) = bv (UInt8.ofNat n) := by
  have := bv_mk n (by omega) (by omega)
  simpa using this

theorem byte_cell {n : Int} (h0 : 0 ≤ n) (h1 : n < 256) : [Value.int .u8 n] = [UInt8.ofNat n.toNat].map bv := by
  rw [bv_mk n h0 h1]; rfl

/-- A frame in which some slots hold whatever. -/
theorem frame_any {F : (Nat → Value) → Act} (a : Act) (h : a = F (fun i => a.tmps.getD i undef)) : ∃ us, a = F us := ⟨_, h⟩

theorem groups_last {q m : Nat} (h : m < 128) : groups q m = [UInt8.ofNat m] := by
  cases q with
  | zero => rfl
  | succ q => unfold groups; rw [if_pos h]
theorem groups_more {q m : Nat} (h : ¬ m < 128) (hq : m < 128 ^ (q + 1)) : ∃ q', q = q' + 1 ∧ groups q m = UInt8.ofNat (m % 128 + 128) :: groups q' (m / 128) ∧ m / 128 < 128 ^ (q' + 1) := by
  cases q with
  | zero => exfalso; simp at hq; omega
  | succ q' =>
    refine ⟨q', rfl, ?_, ?_⟩
    · rw [groups, if_neg h]
    · rw [Nat.pow_succ] at hq
      exact Nat.div_lt_of_lt_mul (by rw [Nat.mul_comm]; exact hq)

def PutJ (w : World) (T : List UInt8) (k c q m : Nat) (A : Option Addr) (w' : World) : Prop :=
  ∃ L : List UInt8, w'.ownsRow w.heap.size 5 1 (.slice A k c) k (L.map bv) ∧ Below w.heap.size w w' ∧ k + q ≤ 6 ∧ m < 128 ^ (q + 1) ∧ L ++ groups q m = T

theorem PutJ.last {w w' w2 : World} {T : List UInt8} {k c q m : Nat} {A : Option Addr} (h : PutJ w T k c q m A w') (hm : m < 128) {A' : Option Addr} {c' : Nat}
    (ho : ∀ L : List UInt8, w'.ownsRow w.heap.size 5 1 (.slice A k c) k (L.map bv) → w2.ownsRow w.heap.size 5 1 (.slice A' (k + 1) c') (k + 1) ((L ++ [UInt8.ofNat m]).map bv)) (hb : ∀ L : List UInt8, w'.ownsRow w.heap.size 5 1 (.slice A k c) k (L.map bv) → Below w.heap.size w w' → Below w.heap.size w w2) :
    w2.ownsRow w.heap.size 5 1 (.slice A' (k + 1) c') (k + 1) (T.map bv) ∧ Below w.heap.size w w2 := by
  obtain ⟨L, h1, h2, h3, h4, h5⟩ := h
  rw [groups_last hm] at h5
  rw [← h5]
  exact ⟨ho L h1, hb L h1 h2⟩

set_option maxHeartbeats 1000000 in
set_option maxRecDepth 100000 in
theorem put_any (first bits n : Int) (w : World) (h0 : 0 ≤ first) (h1 : first < 256) (hf : 1 ≤ onesN bits) (hf1 : onesN bits < 256) (hn : 0 ≤ n) (hn1 : n ≤ 2147483647) :
    Calls Try.prog 8 #[.int .u8 first, .int .i64 bits, .int .i64 n] w (PutPost (putR first bits n) w) := by
  have hR : Hid (putR first bits n = if n < onesN bits then ([UInt8.ofNat (headI first (onesN bits) n).toNat], 0) else (UInt8.ofNat (headI first (onesN bits) (onesN bits)).toNat :: groups 5 (n - onesN bits).toNat, 0)) := hid (by unfold putR; rw [if_neg (by omega)])
  generalize hff : onesN bits = f at hf hf1 hR
  have HF := hid hff
  clear hff
  have hf0 : (f == 0) = false := by
    rw [beq_eq_false_iff_ne]
    omega
  have hg1 : decide (n < 0) = false := decide_eq_false (by omega)
  have hg2 : decide (2147483647 < n) = false := decide_eq_false (by omega)
  obtain ⟨i0, hi0, hz0, hz1, hz2⟩ := info_parts u8_info
  have hi := hid hi0
  have hz := hid hz0
  have hsz := hid hz1
  have hby := hid hz2
  clear hi0 hz0 hz1 hz2
  by_cases hnf : n < f
  · have hb := hid (headI_bounds first f n h0 h1 (by omega) (by omega) (by omega) (by omega))
    go_enter Try.func8, Try.ntmps8
    go_wp2_with fail
    refine wp_scope_jumps 0 (fun _ _ => False) (fun _ _ => 0) rfl ?_ (fun _ _ h => h.elim)
    go_wp2_with fail
    refine (ones_any bits w).mono ?_
    rw [HF.out]
    rintro e w' ⟨rfl, rfl⟩
    go_wp2_with fail
    all_goals
      simp only [Exit.jump]
      go_ret2
      rw [hR.out, if_pos hnf]
      refine ⟨_, 1, 1, rfl, ?_, (Below.refl _ _).alloc (Nat.le_refl _) _⟩
      rw [← byte_cell hb.out.2.2.1 hb.out.2.2.2]
      exact World.ownsRow_lit (base := w.heap.size) (e := 5) (size := 1) w #[_] 1 (Nat.le_refl _) (by decide) rfl
  · have hb := hid (headI_bounds first f f h0 h1 (by omega) (by omega) (by omega) (by omega))
    go_enter Try.func8, Try.ntmps8
    go_wp2_with fail
    refine wp_scope_jumps 0 (fun a' w' => ∃ (m k c q : Nat) (A : Option Addr), (∃ us : Nat → Value, a' = { tmps := #[.int .u8 first, .int .i64 bits, .int .i64 (m : Nat), us 3, us 4, us 5, .slice none 0 0, .int .i64 0, .int .i64 f, .int .u8 (Go.bits .andNot .u8 first f), .slice A k c, us 11, us 12, us 13, us 14, us 15, us 16, us 17, us 18, us 19, us 20, us 21, us 22, us 23, us 24, us 25, us 26, us 27, us 28, us 29, us 30, us 31, us 32, us 33, us 34, us 35, us 36, us 37, us 38, us 39, us 40, us 41, us 42, us 43, us 44, us 45, us 46, us 47, us 48, us 49, us 50, us 51, us 52, us 53, us 54, us 55, us 56, us 57, us 58], defers := [] }) ∧
      (m : Int) ≤ 2147483647 ∧ PutJ w (UInt8.ofNat (headI first f f).toNat :: groups 5 (n - f).toNat) k c q m A w') (fun a' _ => (intOf (a'.tmps.getD 2 undef)).toNat) rfl ?_ ?_
    · obtain ⟨m0, hm0⟩ : ∃ m0 : Nat, n - f = m0 := ⟨(n - f).toNat, by omega⟩
      have HO := hid (World.ownsRow_lit (base := w.heap.size) (e := 5) (size := 1) w #[.int .u8 (headI first f f)] 1 (Nat.le_refl _) (by decide) rfl)
      have hor := or128 m0
      go_wp2_with fail
      refine (ones_any bits w).mono ?_
      rw [HF.out]
      rintro e w' ⟨rfl, rfl⟩
      go_wp2_with fail
      go_step3
      go_wp2_with ((at_builtin; go_loud (refine wpList_app _ rfl _ _ _ rfl w.heap.size 5 i0 _ 1 1 Try.underlying22 hi.out hz.out hsz.out hby.out rfl (by omega) _ 1 _ rfl (HO.out.alloc _) _ 1 1 _ rfl (rd_one (by simp)) (by simp [Value.oneCell']) (by omega) (by omega) (by simp; omega) ?_; intro A' c' w2 hown' hg hat; have HO' := hid hown'; have HG := hid hg; clear hown' hg hat)))
      · simp only [Exit.jump]
        go_ret2
        rw [hR.out, if_neg (by omega)]
        have h5 := HO'.out
        rw [byte_cell hb.out.2.2.1 hb.out.2.2.2, byte_of m0 (by omega)] at h5
        refine ⟨A', _, c', rfl, ?_, below_app (((Below.refl _ _).alloc (Nat.le_refl _) _).alloc (by simp) _) (HO.out.alloc _) HG.out (Nat.le_refl _) (by simp; omega)⟩
        rw [show (n - f).toNat = m0 by omega, groups_last (by omega)]
        exact h5
      · go_step3
        have h5 := HO'.out
        rw [byte_cell hb.out.2.2.1 hb.out.2.2.2, show ((m0 : Int) % 128 + 128) = ((m0 % 128 + 128 : Nat) : Int) by omega, byte_of (m0 % 128 + 128) (by omega)] at h5
        have hg := groups_more (q := 5) (m := m0) (by omega) (by omega)
        obtain ⟨q', hq', hg1, hg2⟩ := hg
        obtain rfl : q' = 4 := by omega
        refine ⟨rfl, m0 / 128, 1 + 1, c', 4, A', frame_any _ rfl, by omega, [UInt8.ofNat (headI first f f).toNat, UInt8.ofNat (m0 % 128 + 128)], h5, below_app (((Below.refl _ _).alloc (Nat.le_refl _) _).alloc (by simp) _) (HO.out.alloc _) HG.out (Nat.le_refl _) (by simp; omega), by omega, hg2, ?_⟩
        rw [show (n - f).toNat = m0 by omega, hg1]
        rfl
    · rintro a' w' ⟨m, k, c, q, A, ⟨us, rfl⟩, hm, hj⟩
      obtain ⟨L, hown, hb2, hkq, hmq, hL⟩ := hj
      have HO := hid hown
      have HB := hid hb2
      have HQ := hid hmq
      have HL := hid hL
      have hbw := hb2.size
      clear hown hb2 hmq hL
      have hor := or128 m
      go_wp2_with ((at_builtin; go_loud (refine wpList_app _ rfl _ _ _ rfl w.heap.size 5 i0 _ 1 1 Try.underlying22 hi.out hz.out hsz.out hby.out rfl (by omega) _ k _ rfl (HO.out.alloc _) _ 1 1 _ rfl (rd_one (by simp)) (by simp [Value.oneCell']) (by omega) (by omega) (by simp; omega) ?_; intro A' c' w2 hown' hg hat; have HO' := hid hown'; have HG := hid hg; clear hown' hg hat)))
      · simp only [Exit.jump]
        go_ret2
        rw [hR.out, if_neg (by omega)]
        have h5 := HO'.out
        rw [byte_of m (by omega)] at h5
        refine ⟨A', _, c', rfl, ?_, below_app (HB.out.alloc HB.out.size _) (HO.out.alloc _) HG.out (Nat.le_refl _) (by simp; omega)⟩
        have h6 := HL.out
        rw [groups_last (by omega)] at h6
        rw [← h6, List.map_append]
        exact h5
      · go_step3
        have h5 := HO'.out
        rw [show ((m : Int) % 128 + 128) = ((m % 128 + 128 : Nat) : Int) by omega, byte_of (m % 128 + 128) (by omega)] at h5
        obtain ⟨q', rfl, hg1, hg2⟩ := groups_more (q := q) (m := m) (by omega) HQ.out
        have h6 := HL.out
        rw [hg1] at h6
        refine ⟨rfl, ⟨m / 128, k + 1, c', q', A', frame_any _ rfl, by omega, L ++ [UInt8.ofNat (m % 128 + 128)], by rw [List.map_append]; exact h5, below_app (HB.out.alloc HB.out.size _) (HO.out.alloc _) HG.out (Nat.le_refl _) (by simp; omega), by omega, hg2, ?_⟩, ?_⟩
        · rw [← h6, List.append_assoc]; rfl
        · simp [intOf]; omega

set_option maxHeartbeats 1000000 in
set_option maxRecDepth 100000 in
theorem put_bad (first bits n : Int) (w : World) (h : onesN bits = 0 ∨ n < 0 ∨ 2147483647 < n) :
    Calls Try.prog 8 #[.int .u8 first, .int .i64 bits, .int .i64 n] w (PutPost (putR first bits n) w) := by
  have hR : Hid (putR first bits n = ([], 1)) := hid (by unfold putR; rw [if_pos h])
  go_enter Try.func8, Try.ntmps8
  go_wp2_with fail
  refine wp_scope_jumps 0 (fun _ _ => False) (fun _ _ => 0) rfl ?_ (fun _ _ h => h.elim)
  go_wp2_with fail
  refine (ones_any bits w).mono ?_
  generalize hff : onesN bits = f at h ⊢
  have HF := hid hff
  clear hff
  rintro e w' ⟨rfl, rfl⟩
  by_cases hf : f = 0
  · subst hf
    clear h
    go_wp2_with fail
    simp only [Exit.jump]
    go_ret2
    rw [hR.out]
    exact ⟨none, 0, 0, rfl, World.ownsRow_nil _ _ _ _, Below.refl _ _⟩
  · have hf0 : (f == 0) = false := by
      rw [beq_eq_false_iff_ne]
      exact hf
    by_cases hn : n < 0
    · have hn0 : decide (n < 0) = true := decide_eq_true hn
      clear h
      go_wp2_with fail
      simp only [Exit.jump]
      go_ret2
      rw [hR.out]
      exact ⟨none, 0, 0, rfl, World.ownsRow_nil _ _ _ _, Below.refl _ _⟩
    · have hn1 : 2147483647 < n := by omega
      have hn0 : decide (n < 0) = false := decide_eq_false hn
      have hn2 : decide (2147483647 < n) = true := decide_eq_true hn1
      clear h
      go_wp2_with fail
      simp only [Exit.jump]
      go_ret2
      rw [hR.out]
      exact ⟨none, 0, 0, rfl, World.ownsRow_nil _ _ _ _, Below.refl _ _⟩

theorem ones_pow {bits : Int} (h1 : 1 ≤ bits) (h2 : bits ≤ 8) : wrap64 (2 ^ bits.toNat) = onesN bits + 1 := by
  have h3 : bits = 1 ∨ bits = 2 ∨ bits = 3 ∨ bits = 4 ∨ bits = 5 ∨ bits = 6 ∨ bits = 7 ∨ bits = 8 := by omega
  rcases h3 with rfl | rfl | rfl | rfl | rfl | rfl | rfl | rfl <;> simp [wrap64, onesN]
theorem ones_some {bits : Int} (h1 : 1 ≤ bits) (h2 : bits ≤ 8) : 1 ≤ onesN bits ∧ onesN bits < 256 := by
  have h3 : bits = 1 ∨ bits = 2 ∨ bits = 3 ∨ bits = 4 ∨ bits = 5 ∨ bits = 6 ∨ bits = 7 ∨ bits = 8 := by omega
  rcases h3 with rfl | rfl | rfl | rfl | rfl | rfl | rfl | rfl <;> decide
theorem ones_none {bits : Int} (h : ¬ (1 ≤ bits ∧ bits ≤ 8)) : onesN bits = 0 := by
  unfold onesN
  rw [if_neg h]
theorem and127 (m : Nat) (h : m < 9223372036854775808) : Go.bits .and .i64 (m : Int) 127 = (m : Int) % 128 := by
  have h1 := i64_and m 127 h (by omega)
  rw [show (127 : Int) = ((127 : Nat) : Int) by omega, h1, Nat.and_two_pow_sub_one_eq_mod m 7]
  omega

set_option maxHeartbeats 1000000 in
set_option maxRecDepth 100000 in
theorem rput_any (first bits n : Int) (w : World) (h0 : 0 ≤ first) (h1 : first < 256) (hb0 : 1 ≤ bits) (hb1 : bits ≤ 8) (hn : 0 ≤ n) (hn1 : n ≤ 2147483647) :
    Calls Try.prog 9 #[.int .u8 first, .int .i64 bits, .int .i64 n] w (PutPost (putR first bits n) w) := by
  obtain ⟨hf, hf1⟩ := ones_some hb0 hb1
  have hpw := ones_pow hb0 hb1
  have hR : Hid (putR first bits n = if n < onesN bits then ([UInt8.ofNat (headI first (onesN bits) n).toNat], 0) else (UInt8.ofNat (headI first (onesN bits) (onesN bits)).toNat :: groups 5 (n - onesN bits).toNat, 0)) := hid (by unfold putR; rw [if_neg (by omega)])
  generalize onesN bits = f at hf hf1 hR hpw
  have hg0 : decide (bits < 1) = false := decide_eq_false (by omega)
  have hg3 : decide (8 < bits) = false := decide_eq_false (by omega)
  have hg1 : decide (n < 0) = false := decide_eq_false (by omega)
  have hg2 : decide (2147483647 < n) = false := decide_eq_false (by omega)
  obtain ⟨i0, hi0, hz0, hz1, hz2⟩ := info_parts u8_info
  have hi := hid hi0
  have hz := hid hz0
  have hsz := hid hz1
  have hby := hid hz2
  clear hi0 hz0 hz1 hz2
  by_cases hnf : n < f
  · have hb := hid (headI_bounds first f n h0 h1 (by omega) (by omega) (by omega) (by omega))
    go_enter Try.func9, Try.ntmps9
    go_wp2_with fail
    go_ret2
    rw [hR.out, if_pos hnf]
    refine ⟨_, 1, 1, rfl, ?_, (Below.refl _ _).alloc (Nat.le_refl _) _⟩
    rw [← byte_cell hb.out.2.2.1 hb.out.2.2.2]
    exact World.ownsRow_lit (base := w.heap.size) (e := 5) (size := 1) w #[_] 1 (Nat.le_refl _) (by decide) rfl
  · have hb := hid (headI_bounds first f f h0 h1 (by omega) (by omega) (by omega) (by omega))
    obtain ⟨m0, hm0⟩ : ∃ m0 : Nat, n - f = m0 := ⟨(n - f).toNat, by omega⟩
    have hmb : (m0 : Int) ≤ 2147483647 := by omega
    go_enter Try.func9, Try.ntmps9
    go_wp2_with fail
    go_loopw [2, 10] (fun x y wr => ∃ (m k c q : Nat) (A : Option Addr), x = .int .i64 m ∧ y = .slice A k c ∧ (m : Int) ≤ 2147483647 ∧ PutJ w (UInt8.ofNat (headI first f f).toNat :: groups 5 (n - f).toNat) k c q m A wr) (fun x _ _ => (intOf x).toNat)
    case atStart =>
      refine ⟨m0, 1, 1, 5, _, rfl, rfl, by omega, [UInt8.ofNat (headI first f f).toNat], ?_, (Below.refl _ _).alloc (Nat.le_refl _) _, by omega, by omega, ?_⟩
      · rw [← byte_cell hb.out.2.2.1 hb.out.2.2.2]
        exact World.ownsRow_lit (base := w.heap.size) (e := 5) (size := 1) w #[_] 1 (Nat.le_refl _) (by decide) rfl
      · rw [show (n - f).toNat = m0 by omega]
        rfl
    case round =>
      obtain ⟨m, k, c, q, A, rfl, rfl, hm, hj⟩ := hrel
      obtain ⟨L, hown, hb2, hkq, hmq, hL⟩ := hj
      have HO := hid hown
      have HB := hid hb2
      have HQ := hid hmq
      have HL := hid hL
      have hbw := hb2.size
      clear hown hb2 hmq hL
      have hor := or128 m
      have han := and127 m (by omega)
      by_cases hlt : m < 128
      · go_wp2_with ((at_builtin; go_loud (refine wpList_app _ rfl _ _ _ rfl w.heap.size 5 i0 _ 1 1 Try.underlying22 hi.out hz.out hsz.out hby.out rfl (by omega) _ k _ rfl (HO.out.alloc _) _ 1 1 _ rfl (rd_one (by simp)) (by simp [Value.oneCell']) (by omega) (by omega) (by simp; omega) ?_; intro A' c' w2 hown' hg hat; have HO' := hid hown'; have HG := hid hg; clear hown' hg hat)))
        go_ret2
        rw [hR.out, if_neg (by omega)]
        have h5 := HO'.out
        rw [byte_of m (by omega)] at h5
        refine ⟨A', _, c', rfl, ?_, below_app (HB.out.alloc HB.out.size _) (HO.out.alloc _) HG.out (Nat.le_refl _) (by simp; omega)⟩
        have h6 := HL.out
        rw [groups_last (by omega)] at h6
        rw [← h6, List.map_append]
        exact h5
      · go_wp2_with ((at_builtin; go_loud (refine wpList_app _ rfl _ _ _ rfl w.heap.size 5 i0 _ 1 1 Try.underlying22 hi.out hz.out hsz.out hby.out rfl (by omega) _ k _ rfl (HO.out.alloc _) _ 1 1 _ rfl (rd_one (by simp)) (by simp [Value.oneCell']) (by omega) (by omega) (by simp; omega) ?_; intro A' c' w2 hown' hg hat; have HO' := hid hown'; have HG := hid hg; clear hown' hg hat)))
        have h5 := HO'.out
        rw [show ((m : Int) % 128 + 128) = ((m % 128 + 128 : Nat) : Int) by omega, byte_of (m % 128 + 128) (by omega)] at h5
        obtain ⟨q', rfl, hg1, hg2⟩ := groups_more (q := q) (m := m) (by omega) HQ.out
        have h6 := HL.out
        rw [hg1] at h6
        go_roundw
        case rel =>
          refine ⟨m / 128, k + 1, c', q', A', by go_num, rfl, by omega, L ++ [UInt8.ofNat (m % 128 + 128)], by rw [List.map_append]; exact h5, below_app (HB.out.alloc HB.out.size _) (HO.out.alloc _) HG.out (Nat.le_refl _) (by simp; omega), by omega, hg2, ?_⟩
          rw [← h6, List.append_assoc]; rfl
        case measure => simp [intOf]; omega

set_option maxHeartbeats 1000000 in
set_option maxRecDepth 100000 in
theorem rput_bad (first bits n : Int) (w : World) (h : ¬ (1 ≤ bits ∧ bits ≤ 8 ∧ 0 ≤ n ∧ n ≤ 2147483647)) :
    Calls Try.prog 9 #[.int .u8 first, .int .i64 bits, .int .i64 n] w (PutPost (putR first bits n) w) := by
  have hR : Hid (putR first bits n = ([], 1)) := hid (by
    unfold putR
    rw [if_pos]
    by_cases hb : 1 ≤ bits ∧ bits ≤ 8
    · omega
    · exact .inl (ones_none hb))
  have hx : Hid _ := hid h
  go_enter Try.func9, Try.ntmps9
  go_wp2_with fail
  all_goals first | (exfalso; have := hx.out; omega) | skip
  all_goals
    go_ret2
    rw [hR.out]
    exact ⟨none, 0, 0, rfl, World.ownsRow_nil _ _ _ _, Below.refl _ _⟩
end Go.Proofs.Ytbbjhmhinbmhgaa
