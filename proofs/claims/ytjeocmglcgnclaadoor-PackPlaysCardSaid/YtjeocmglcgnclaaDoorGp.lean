/- Joined texts: Pint PintGet PintMath PintAll. Each names its own conditions. -/
import Derived.Test.YtjeocmglcgnclaaDoorGa
import Derived.WalkMore
import Derived.ScopeJumps
import Derived.Outline

/- Integers with a prefix, each call once. -/
namespace Go.Proofs.YtjeocmglcgnclaaDoor
open Go.RowKit


def onesN (bits : Int) : Int := if 1 ≤ bits ∧ bits ≤ 8 then 2 ^ bits.toNat - 1 else 0

set_option maxHeartbeats 400000 in
set_option maxRecDepth 100000 in
theorem ones_any (bits : Int) (w : World) : Calls Tryd.prog 71 #[.int .i64 bits] w fun e w' => e = .returned (.int .i64 (onesN bits)) ∧ w = w' := by
  by_cases h : 1 ≤ bits ∧ bits ≤ 8
  · obtain ⟨h1, h2⟩ := h
    have h3 : bits = 1 ∨ bits = 2 ∨ bits = 3 ∨ bits = 4 ∨ bits = 5 ∨ bits = 6 ∨ bits = 7 ∨ bits = 8 := by omega
    clear h1 h2
    rcases h3 with rfl | rfl | rfl | rfl | rfl | rfl | rfl | rfl
    all_goals
      go_enter Tryd.func71, Tryd.ntmps71
      go_wp2_with fail
      go_ret
      exact ⟨rfl, rfl⟩
  · have e : onesN bits = 0 := by unfold onesN; rw [if_neg h]
    rw [e]
    clear e
    by_cases hb : bits < 1
    · go_enter Tryd.func71, Tryd.ntmps71
      go_wp2_with fail
      go_ret
      exact ⟨rfl, rfl⟩
    · go_enter Tryd.func71, Tryd.ntmps71
      go_wp2_with fail
      go_ret
      exact ⟨rfl, rfl⟩

/-- Groups of seven bits, the least first. -/
def groups : Nat → Nat → List UInt8
  | 0, n => [UInt8.ofNat n]
  | q + 1, n => if n < 128 then [UInt8.ofNat n] else UInt8.ofNat (n % 128 + 128) :: groups q (n / 128)
/-- The first byte. -/
def headI (first f v : Int) : Int := Go.bits .or .u8 (Go.bits .andNot .u8 first f) v
/-- What Put answers. -/
def putR (first bits n : Int) : List UInt8 × Int :=
  if onesN bits = 0 ∨ n < 0 ∨ 2147483647 < n then ([], 1)
  else if n < onesN bits then ([UInt8.ofNat (headI first (onesN bits) n).toNat], 0)
  else (UInt8.ofNat (headI first (onesN bits) (onesN bits)).toNat :: groups 5 (n - onesN bits).toNat, 0)

def PutPost (r : List UInt8 × Int) (w : World) (e : Ending) (w' : World) : Prop :=
  ∃ A k c, e = .returned (.tuple #[.slice A k c, .int .i64 r.2]) ∧ w'.ownsRow w.heap.size 5 1 (.slice A k c) k (r.1.map bv) ∧ Below w.heap.size w w'

theorem headI_bounds (first f v : Int) (h0 : 0 ≤ first) (h1 : first < 256) (h2 : 0 ≤ f) (h3 : f < 256) (h4 : 0 ≤ v) (h5 : v < 256) : 0 ≤ Go.bits .andNot .u8 first f ∧ Go.bits .andNot .u8 first f < 256 ∧ 0 ≤ headI first f v ∧ headI first f v < 256 := by
  have k1 := Go.u8_andNot first f h0 h1 h2 h3
  have k2 : first.toNat &&& (255 - f.toNat) < 256 := Nat.lt_of_le_of_lt Nat.and_le_left (by omega)
  have b1 : 0 ≤ Go.bits .andNot .u8 first f ∧ Go.bits .andNot .u8 first f < 256 := by rw [k1]; omega
  have k3 := Go.u8_or _ v b1.1 b1.2 h4 h5
  have k4 : (Go.bits .andNot .u8 first f).toNat ||| v.toNat < 2 ^ 8 := Nat.or_lt_two_pow (by omega) (by omega)
  refine ⟨b1.1, b1.2, ?_⟩
  unfold headI
  rw [k3]
  omega

theorem or128 (m : Nat) : Go.bits .or .i64 ((m : Int) % 128) 128 = (m : Int) % 128 + 128 := by
  have h := or_add 1 ((m : Int) % 128) 7 (by omega) (by omega) (by omega) (by omega) (by omega)
  have e : Go.bits .or .i64 ((m : Int) % 128) 128 = Go.bits .or .i64 128 ((m : Int) % 128) := by
    have h1 := i64_or (m % 128) 128 (by omega) (by omega)
    have h2 := i64_or 128 (m % 128) (by omega) (by omega)
    rw [show ((m : Int) % 128) = ((m % 128 : Nat) : Int) by omega]
    rw [show (128 : Int) = ((128 : Nat) : Int) by omega]
    rw [h1, h2, Nat.or_comm]
  rw [e]
  simp at h
  rw [h]
  omega

theorem byte_of (n : Nat) (h : n < 256) : Value.int .u8 (n : Int) = bv (UInt8.ofNat n) := by
  have := bv_mk n (by omega) (by omega)
  simpa using this

theorem byte_cell {n : Int} (h0 : 0 ≤ n) (h1 : n < 256) : [Value.int .u8 n] = [UInt8.ofNat n.toNat].map bv := by
  rw [bv_mk n h0 h1]; rfl

/-- A frame in which some slots hold whatever. -/
theorem frame_any {F : (Nat → Value) → Act} (a : Act) (h : a = F (fun i => a.tmps.getD i undef)) : ∃ us, a = F us := ⟨_, h⟩

theorem groups_last {q m : Nat} (h : m < 128) : groups q m = [UInt8.ofNat m] := by
  cases q with
  | zero => rfl
  | succ q => unfold groups; rw [if_pos h]
theorem groups_more {q m : Nat} (h : ¬ m < 128) (hq : m < 128 ^ (q + 1)) : ∃ q', q = q' + 1 ∧ groups q m = UInt8.ofNat (m % 128 + 128) :: groups q' (m / 128) ∧ m / 128 < 128 ^ (q' + 1) := by
  cases q with
  | zero => exfalso; simp at hq; omega
  | succ q' =>
    refine ⟨q', rfl, ?_, ?_⟩
    · rw [groups, if_neg h]
    · rw [Nat.pow_succ] at hq
      exact Nat.div_lt_of_lt_mul (by rw [Nat.mul_comm]; exact hq)

def PutJ (w : World) (T : List UInt8) (k c q m : Nat) (A : Option Addr) (w' : World) : Prop :=
  ∃ L : List UInt8, w'.ownsRow w.heap.size 5 1 (.slice A k c) k (L.map bv) ∧ Below w.heap.size w w' ∧ k + q ≤ 6 ∧ m < 128 ^ (q + 1) ∧ L ++ groups q m = T

theorem PutJ.last {w w' w2 : World} {T : List UInt8} {k c q m : Nat} {A : Option Addr} (h : PutJ w T k c q m A w') (hm : m < 128) {A' : Option Addr} {c' : Nat}
    (ho : ∀ L : List UInt8, w'.ownsRow w.heap.size 5 1 (.slice A k c) k (L.map bv) → w2.ownsRow w.heap.size 5 1 (.slice A' (k + 1) c') (k + 1) ((L ++ [UInt8.ofNat m]).map bv)) (hb : ∀ L : List UInt8, w'.ownsRow w.heap.size 5 1 (.slice A k c) k (L.map bv) → Below w.heap.size w w' → Below w.heap.size w w2) :
    w2.ownsRow w.heap.size 5 1 (.slice A' (k + 1) c') (k + 1) (T.map bv) ∧ Below w.heap.size w w2 := by
  obtain ⟨L, h1, h2, h3, h4, h5⟩ := h
  rw [groups_last hm] at h5
  rw [← h5]
  exact ⟨ho L h1, hb L h1 h2⟩

set_option maxHeartbeats 1000000 in
set_option maxRecDepth 100000 in
theorem put_any (first bits n : Int) (w : World) (h0 : 0 ≤ first) (h1 : first < 256) (hf : 1 ≤ onesN bits) (hf1 : onesN bits < 256) (hn : 0 ≤ n) (hn1 : n ≤ 2147483647) :
    Calls Tryd.prog 58 #[.int .u8 first, .int .i64 bits, .int .i64 n] w (PutPost (putR first bits n) w) := by
  have hR : Hid (putR first bits n = if n < onesN bits then ([UInt8.ofNat (headI first (onesN bits) n).toNat], 0) else (UInt8.ofNat (headI first (onesN bits) (onesN bits)).toNat :: groups 5 (n - onesN bits).toNat, 0)) := hid (by unfold putR; rw [if_neg (by omega)])
  generalize hff : onesN bits = f at hf hf1 hR
  have HF := hid hff
  clear hff
  have hf0 : (f == 0) = false := by
    rw [beq_eq_false_iff_ne]
    omega
  have hg1 : decide (n < 0) = false := decide_eq_false (by omega)
  have hg2 : decide (2147483647 < n) = false := decide_eq_false (by omega)
  obtain ⟨i0, hi0, hz0, hz1, hz2⟩ := info_parts u8_info
  have hi := hid hi0
  have hz := hid hz0
  have hsz := hid hz1
  have hby := hid hz2
  clear hi0 hz0 hz1 hz2
  by_cases hnf : n < f
  · have hb := hid (headI_bounds first f n h0 h1 (by omega) (by omega) (by omega) (by omega))
    go_enter Tryd.func58, Tryd.ntmps58
    go_wp2_with fail
    refine wp_scope_jumps 0 (fun _ _ => False) (fun _ _ => 0) rfl ?_ (fun _ _ h => h.elim)
    go_wp2_with fail
    refine (ones_any bits w).mono ?_
    rw [HF.out]
    rintro e w' ⟨rfl, rfl⟩
    go_wp2_with fail
    all_goals
      simp only [Exit.jump]
      go_ret2
      rw [hR.out, if_pos hnf]
      refine ⟨_, 1, 1, rfl, ?_, (Below.refl _ _).alloc (Nat.le_refl _) _⟩
      rw [← byte_cell hb.out.2.2.1 hb.out.2.2.2]
      exact World.ownsRow_lit (base := w.heap.size) (e := 5) (size := 1) w #[_] 1 (Nat.le_refl _) (by decide) rfl
  · have hb := hid (headI_bounds first f f h0 h1 (by omega) (by omega) (by omega) (by omega))
    go_enter Tryd.func58, Tryd.ntmps58
    go_wp2_with fail
    refine wp_scope_jumps 0 (fun a' w' => ∃ (m k c q : Nat) (A : Option Addr), (∃ us : Nat → Value, a' = { tmps := #[.int .u8 first, .int .i64 bits, .int .i64 (m : Nat), us 3, us 4, us 5, .slice none 0 0, .int .i64 0, .int .i64 f, .int .u8 (Go.bits .andNot .u8 first f), .slice A k c, us 11, us 12, us 13, us 14, us 15, us 16, us 17, us 18, us 19, us 20, us 21, us 22, us 23, us 24, us 25, us 26, us 27, us 28, us 29, us 30, us 31, us 32, us 33, us 34, us 35, us 36, us 37, us 38, us 39, us 40, us 41, us 42, us 43, us 44, us 45, us 46, us 47, us 48, us 49, us 50, us 51, us 52, us 53, us 54, us 55, us 56, us 57, us 58], defers := [] }) ∧
      (m : Int) ≤ 2147483647 ∧ PutJ w (UInt8.ofNat (headI first f f).toNat :: groups 5 (n - f).toNat) k c q m A w') (fun a' _ => (intOf (a'.tmps.getD 2 undef)).toNat) rfl ?_ ?_
    · obtain ⟨m0, hm0⟩ : ∃ m0 : Nat, n - f = m0 := ⟨(n - f).toNat, by omega⟩
      have HO := hid (World.ownsRow_lit (base := w.heap.size) (e := 5) (size := 1) w #[.int .u8 (headI first f f)] 1 (Nat.le_refl _) (by decide) rfl)
      have hor := or128 m0
      go_wp2_with fail
      refine (ones_any bits w).mono ?_
      rw [HF.out]
      rintro e w' ⟨rfl, rfl⟩
      go_wp2_with fail
      go_step3
      go_wp2_with ((at_builtin; go_loud (refine wpList_app _ rfl _ _ _ rfl w.heap.size 5 i0 _ 1 1 Tryd.underlying29 hi.out hz.out hsz.out hby.out rfl (by omega) _ 1 _ rfl (HO.out.alloc _) _ 1 1 _ rfl (rd_one (by simp)) (by simp [Value.oneCell']) (by omega) (by omega) (by simp; omega) ?_; intro A' c' w2 hown' hg hat; have HO' := hid hown'; have HG := hid hg; clear hown' hg hat)))
      · simp only [Exit.jump]
        go_ret2
        rw [hR.out, if_neg (by omega)]
        have h5 := HO'.out
        rw [byte_cell hb.out.2.2.1 hb.out.2.2.2, byte_of m0 (by omega)] at h5
        refine ⟨A', _, c', rfl, ?_, below_app (((Below.refl _ _).alloc (Nat.le_refl _) _).alloc (by simp) _) (HO.out.alloc _) HG.out (Nat.le_refl _) (by simp; omega)⟩
        rw [show (n - f).toNat = m0 by omega, groups_last (by omega)]
        exact h5
      · go_step3
        have h5 := HO'.out
        rw [byte_cell hb.out.2.2.1 hb.out.2.2.2, show ((m0 : Int) % 128 + 128) = ((m0 % 128 + 128 : Nat) : Int) by omega, byte_of (m0 % 128 + 128) (by omega)] at h5
        have hg := groups_more (q := 5) (m := m0) (by omega) (by omega)
        obtain ⟨q', hq', hg1, hg2⟩ := hg
        obtain rfl : q' = 4 := by omega
        refine ⟨rfl, m0 / 128, 1 + 1, c', 4, A', frame_any _ rfl, by omega, [UInt8.ofNat (headI first f f).toNat, UInt8.ofNat (m0 % 128 + 128)], h5, below_app (((Below.refl _ _).alloc (Nat.le_refl _) _).alloc (by simp) _) (HO.out.alloc _) HG.out (Nat.le_refl _) (by simp; omega), by omega, hg2, ?_⟩
        rw [show (n - f).toNat = m0 by omega, hg1]
        rfl
    · rintro a' w' ⟨m, k, c, q, A, ⟨us, rfl⟩, hm, hj⟩
      obtain ⟨L, hown, hb2, hkq, hmq, hL⟩ := hj
      have HO := hid hown
      have HB := hid hb2
      have HQ := hid hmq
      have HL := hid hL
      have hbw := hb2.size
      clear hown hb2 hmq hL
      have hor := or128 m
      go_wp2_with ((at_builtin; go_loud (refine wpList_app _ rfl _ _ _ rfl w.heap.size 5 i0 _ 1 1 Tryd.underlying29 hi.out hz.out hsz.out hby.out rfl (by omega) _ k _ rfl (HO.out.alloc _) _ 1 1 _ rfl (rd_one (by simp)) (by simp [Value.oneCell']) (by omega) (by omega) (by simp; omega) ?_; intro A' c' w2 hown' hg hat; have HO' := hid hown'; have HG := hid hg; clear hown' hg hat)))
      · simp only [Exit.jump]
        go_ret2
        rw [hR.out, if_neg (by omega)]
        have h5 := HO'.out
        rw [byte_of m (by omega)] at h5
        refine ⟨A', _, c', rfl, ?_, below_app (HB.out.alloc HB.out.size _) (HO.out.alloc _) HG.out (Nat.le_refl _) (by simp; omega)⟩
        have h6 := HL.out
        rw [groups_last (by omega)] at h6
        rw [← h6, List.map_append]
        exact h5
      · go_step3
        have h5 := HO'.out
        rw [show ((m : Int) % 128 + 128) = ((m % 128 + 128 : Nat) : Int) by omega, byte_of (m % 128 + 128) (by omega)] at h5
        obtain ⟨q', rfl, hg1, hg2⟩ := groups_more (q := q) (m := m) (by omega) HQ.out
        have h6 := HL.out
        rw [hg1] at h6
        refine ⟨rfl, ⟨m / 128, k + 1, c', q', A', frame_any _ rfl, by omega, L ++ [UInt8.ofNat (m % 128 + 128)], by rw [List.map_append]; exact h5, below_app (HB.out.alloc HB.out.size _) (HO.out.alloc _) HG.out (Nat.le_refl _) (by simp; omega), by omega, hg2, ?_⟩, ?_⟩
        · rw [← h6, List.append_assoc]; rfl
        · simp [intOf]; omega

set_option maxHeartbeats 1000000 in
set_option maxRecDepth 100000 in
theorem put_bad (first bits n : Int) (w : World) (h : onesN bits = 0 ∨ n < 0 ∨ 2147483647 < n) :
    Calls Tryd.prog 58 #[.int .u8 first, .int .i64 bits, .int .i64 n] w (PutPost (putR first bits n) w) := by
  have hR : Hid (putR first bits n = ([], 1)) := hid (by unfold putR; rw [if_pos h])
  go_enter Tryd.func58, Tryd.ntmps58
  go_wp2_with fail
  refine wp_scope_jumps 0 (fun _ _ => False) (fun _ _ => 0) rfl ?_ (fun _ _ h => h.elim)
  go_wp2_with fail
  refine (ones_any bits w).mono ?_
  generalize hff : onesN bits = f at h ⊢
  have HF := hid hff
  clear hff
  rintro e w' ⟨rfl, rfl⟩
  by_cases hf : f = 0
  · subst hf
    clear h
    go_wp2_with fail
    simp only [Exit.jump]
    go_ret2
    rw [hR.out]
    exact ⟨none, 0, 0, rfl, World.ownsRow_nil _ _ _ _, Below.refl _ _⟩
  · have hf0 : (f == 0) = false := by
      rw [beq_eq_false_iff_ne]
      exact hf
    by_cases hn : n < 0
    · have hn0 : decide (n < 0) = true := decide_eq_true hn
      clear h
      go_wp2_with fail
      simp only [Exit.jump]
      go_ret2
      rw [hR.out]
      exact ⟨none, 0, 0, rfl, World.ownsRow_nil _ _ _ _, Below.refl _ _⟩
    · have hn1 : 2147483647 < n := by omega
      have hn0 : decide (n < 0) = false := decide_eq_false hn
      have hn2 : decide (2147483647 < n) = true := decide_eq_true hn1
      clear h
      go_wp2_with fail
      simp only [Exit.jump]
      go_ret2
      rw [hR.out]
      exact ⟨none, 0, 0, rfl, World.ownsRow_nil _ _ _ _, Below.refl _ _⟩

theorem ones_pow {bits : Int} (h1 : 1 ≤ bits) (h2 : bits ≤ 8) : wrap64 (2 ^ bits.toNat) = onesN bits + 1 := by
  have h3 : bits = 1 ∨ bits = 2 ∨ bits = 3 ∨ bits = 4 ∨ bits = 5 ∨ bits = 6 ∨ bits = 7 ∨ bits = 8 := by omega
  rcases h3 with rfl | rfl | rfl | rfl | rfl | rfl | rfl | rfl <;> simp [wrap64, onesN]
theorem ones_some {bits : Int} (h1 : 1 ≤ bits) (h2 : bits ≤ 8) : 1 ≤ onesN bits ∧ onesN bits < 256 := by
  have h3 : bits = 1 ∨ bits = 2 ∨ bits = 3 ∨ bits = 4 ∨ bits = 5 ∨ bits = 6 ∨ bits = 7 ∨ bits = 8 := by omega
  rcases h3 with rfl | rfl | rfl | rfl | rfl | rfl | rfl | rfl <;> decide
theorem ones_none {bits : Int} (h : ¬ (1 ≤ bits ∧ bits ≤ 8)) : onesN bits = 0 := by
  unfold onesN
  rw [if_neg h]
theorem and127 (m : Nat) (h : m < 9223372036854775808) : Go.bits .and .i64 (m : Int) 127 = (m : Int) % 128 := by
  have h1 := i64_and m 127 h (by omega)
  rw [show (127 : Int) = ((127 : Nat) : Int) by omega, h1, Nat.and_two_pow_sub_one_eq_mod m 7]
  omega

set_option maxHeartbeats 1000000 in
set_option maxRecDepth 100000 in
theorem rput_any (first bits n : Int) (w : World) (h0 : 0 ≤ first) (h1 : first < 256) (hb0 : 1 ≤ bits) (hb1 : bits ≤ 8) (hn : 0 ≤ n) (hn1 : n ≤ 2147483647) :
    Calls Tryd.prog 35 #[.int .u8 first, .int .i64 bits, .int .i64 n] w (PutPost (putR first bits n) w) := by
  obtain ⟨hf, hf1⟩ := ones_some hb0 hb1
  have hpw := ones_pow hb0 hb1
  have hR : Hid (putR first bits n = if n < onesN bits then ([UInt8.ofNat (headI first (onesN bits) n).toNat], 0) else (UInt8.ofNat (headI first (onesN bits) (onesN bits)).toNat :: groups 5 (n - onesN bits).toNat, 0)) := hid (by unfold putR; rw [if_neg (by omega)])
  generalize onesN bits = f at hf hf1 hR hpw
  have hg0 : decide (bits < 1) = false := decide_eq_false (by omega)
  have hg3 : decide (8 < bits) = false := decide_eq_false (by omega)
  have hg1 : decide (n < 0) = false := decide_eq_false (by omega)
  have hg2 : decide (2147483647 < n) = false := decide_eq_false (by omega)
  obtain ⟨i0, hi0, hz0, hz1, hz2⟩ := info_parts u8_info
  have hi := hid hi0
  have hz := hid hz0
  have hsz := hid hz1
  have hby := hid hz2
  clear hi0 hz0 hz1 hz2
  by_cases hnf : n < f
  · have hb := hid (headI_bounds first f n h0 h1 (by omega) (by omega) (by omega) (by omega))
    go_enter Tryd.func35, Tryd.ntmps35
    go_wp2_with fail
    go_ret2
    rw [hR.out, if_pos hnf]
    refine ⟨_, 1, 1, rfl, ?_, (Below.refl _ _).alloc (Nat.le_refl _) _⟩
    rw [← byte_cell hb.out.2.2.1 hb.out.2.2.2]
    exact World.ownsRow_lit (base := w.heap.size) (e := 5) (size := 1) w #[_] 1 (Nat.le_refl _) (by decide) rfl
  · have hb := hid (headI_bounds first f f h0 h1 (by omega) (by omega) (by omega) (by omega))
    obtain ⟨m0, hm0⟩ : ∃ m0 : Nat, n - f = m0 := ⟨(n - f).toNat, by omega⟩
    have hmb : (m0 : Int) ≤ 2147483647 := by omega
    go_enter Tryd.func35, Tryd.ntmps35
    go_wp2_with fail
    go_loopw [2, 10] (fun x y wr => ∃ (m k c q : Nat) (A : Option Addr), x = .int .i64 m ∧ y = .slice A k c ∧ (m : Int) ≤ 2147483647 ∧ PutJ w (UInt8.ofNat (headI first f f).toNat :: groups 5 (n - f).toNat) k c q m A wr) (fun x _ _ => (intOf x).toNat)
    case atStart =>
      refine ⟨m0, 1, 1, 5, _, rfl, rfl, by omega, [UInt8.ofNat (headI first f f).toNat], ?_, (Below.refl _ _).alloc (Nat.le_refl _) _, by omega, by omega, ?_⟩
      · rw [← byte_cell hb.out.2.2.1 hb.out.2.2.2]
        exact World.ownsRow_lit (base := w.heap.size) (e := 5) (size := 1) w #[_] 1 (Nat.le_refl _) (by decide) rfl
      · rw [show (n - f).toNat = m0 by omega]
        rfl
    case round =>
      obtain ⟨m, k, c, q, A, rfl, rfl, hm, hj⟩ := hrel
      obtain ⟨L, hown, hb2, hkq, hmq, hL⟩ := hj
      have HO := hid hown
      have HB := hid hb2
      have HQ := hid hmq
      have HL := hid hL
      have hbw := hb2.size
      clear hown hb2 hmq hL
      have hor := or128 m
      have han := and127 m (by omega)
      by_cases hlt : m < 128
      · go_wp2_with ((at_builtin; go_loud (refine wpList_app _ rfl _ _ _ rfl w.heap.size 5 i0 _ 1 1 Tryd.underlying29 hi.out hz.out hsz.out hby.out rfl (by omega) _ k _ rfl (HO.out.alloc _) _ 1 1 _ rfl (rd_one (by simp)) (by simp [Value.oneCell']) (by omega) (by omega) (by simp; omega) ?_; intro A' c' w2 hown' hg hat; have HO' := hid hown'; have HG := hid hg; clear hown' hg hat)))
        go_ret2
        rw [hR.out, if_neg (by omega)]
        have h5 := HO'.out
        rw [byte_of m (by omega)] at h5
        refine ⟨A', _, c', rfl, ?_, below_app (HB.out.alloc HB.out.size _) (HO.out.alloc _) HG.out (Nat.le_refl _) (by simp; omega)⟩
        have h6 := HL.out
        rw [groups_last (by omega)] at h6
        rw [← h6, List.map_append]
        exact h5
      · go_wp2_with ((at_builtin; go_loud (refine wpList_app _ rfl _ _ _ rfl w.heap.size 5 i0 _ 1 1 Tryd.underlying29 hi.out hz.out hsz.out hby.out rfl (by omega) _ k _ rfl (HO.out.alloc _) _ 1 1 _ rfl (rd_one (by simp)) (by simp [Value.oneCell']) (by omega) (by omega) (by simp; omega) ?_; intro A' c' w2 hown' hg hat; have HO' := hid hown'; have HG := hid hg; clear hown' hg hat)))
        have h5 := HO'.out
        rw [show ((m : Int) % 128 + 128) = ((m % 128 + 128 : Nat) : Int) by omega, byte_of (m % 128 + 128) (by omega)] at h5
        obtain ⟨q', rfl, hg1, hg2⟩ := groups_more (q := q) (m := m) (by omega) HQ.out
        have h6 := HL.out
        rw [hg1] at h6
        go_roundw
        case rel =>
          refine ⟨m / 128, k + 1, c', q', A', by go_num, rfl, by omega, L ++ [UInt8.ofNat (m % 128 + 128)], by rw [List.map_append]; exact h5, below_app (HB.out.alloc HB.out.size _) (HO.out.alloc _) HG.out (Nat.le_refl _) (by simp; omega), by omega, hg2, ?_⟩
          rw [← h6, List.append_assoc]; rfl
        case measure => simp [intOf]; omega

set_option maxHeartbeats 1000000 in
set_option maxRecDepth 100000 in
theorem rput_bad (first bits n : Int) (w : World) (h : ¬ (1 ≤ bits ∧ bits ≤ 8 ∧ 0 ≤ n ∧ n ≤ 2147483647)) :
    Calls Tryd.prog 35 #[.int .u8 first, .int .i64 bits, .int .i64 n] w (PutPost (putR first bits n) w) := by
  have hR : Hid (putR first bits n = ([], 1)) := hid (by
    unfold putR
    rw [if_pos]
    by_cases hb : 1 ≤ bits ∧ bits ≤ 8
    · omega
    · exact .inl (ones_none hb))
  have hx : Hid _ := hid h
  go_enter Tryd.func35, Tryd.ntmps35
  go_wp2_with fail
  all_goals first | (exfalso; have := hx.out; omega) | skip
  all_goals
    go_ret2
    rw [hR.out]
    exact ⟨none, 0, 0, rfl, World.ownsRow_nil _ _ _ _, Below.refl _ _⟩
end Go.Proofs.YtjeocmglcgnclaaDoor

/- Integers with a prefix, read: each call once. -/
namespace Go.Proofs.YtjeocmglcgnclaaDoor
open Go.RowKit

/-- Get behind the first byte. -/
def getG : Nat → List UInt8 → Nat → Nat → Nat × Nat × Int
  | 0, _, _, _ => (0, 0, 1)
  | q + 1, l, i, m =>
    match l[i]? with
    | none => (0, 0, 4)
    | some x => if 2147483647 < m + x.toNat % 128 * 128 ^ (i - 1) then (0, 0, 1) else if x.toNat < 128 then (m + x.toNat % 128 * 128 ^ (i - 1), i + 1, 0) else getG q l (i + 1) (m + x.toNat % 128 * 128 ^ (i - 1))
/-- What Get answers. -/
def getR (l : List UInt8) (bits : Int) : Nat × Nat × Int :=
  if onesN bits = 0 then (0, 0, 1)
  else match l[0]? with
    | none => (0, 0, 4)
    | some x => if x.toNat % ((onesN bits).toNat + 1) < (onesN bits).toNat then (x.toNat % ((onesN bits).toNat + 1), 1, 0) else getG 5 l 1 (x.toNat % ((onesN bits).toNat + 1))
def GetPost (r : Nat × Nat × Int) (w : World) (e : Ending) (w' : World) : Prop := e = .returned (.tuple #[.int .i64 (r.1 : Nat), .int .i64 (r.2.1 : Nat), .int .i64 r.2.2]) ∧ w = w'

theorem getG_none {q i m : Nat} {l : List UInt8} (h : l[i]? = none) : getG (q + 1) l i m = (0, 0, 4) := by unfold getG; rw [h]
theorem getG_some {q i m : Nat} {l : List UInt8} {x : UInt8} (h : l[i]? = some x) : getG (q + 1) l i m = if 2147483647 < m + x.toNat % 128 * 128 ^ (i - 1) then (0, 0, 1) else if x.toNat < 128 then (m + x.toNat % 128 * 128 ^ (i - 1), i + 1, 0) else getG q l (i + 1) (m + x.toNat % 128 * 128 ^ (i - 1)) := by
  rw [getG, h]
theorem u8_and127 (x : UInt8) : Go.bits .and .u8 (x.toNat : Int) 127 = (x.toNat : Int) % 128 := by
  have hx := x.toNat_lt
  have h1 := Go.u8_and_nat x.toNat 127 hx (by omega)
  rw [show (127 : Int) = ((127 : Nat) : Int) by omega, h1, Nat.and_two_pow_sub_one_eq_mod _ 7]
  omega
theorem and_ones (x : UInt8) {bits : Int} (h1 : 1 ≤ bits) (h2 : bits ≤ 8) : Go.bits .and .i64 (x.toNat : Int) (onesN bits) = ((x.toNat % ((onesN bits).toNat + 1) : Nat) : Int) := by
  have hx := x.toNat_lt
  have h3 : bits = 1 ∨ bits = 2 ∨ bits = 3 ∨ bits = 4 ∨ bits = 5 ∨ bits = 6 ∨ bits = 7 ∨ bits = 8 := by omega
  have key : ∀ k : Nat, k ≤ 8 → Go.bits .and .i64 (x.toNat : Int) ((2 ^ k - 1 : Nat) : Int) = ((x.toNat % 2 ^ k : Nat) : Int) := fun k hk => by
    have h4 : 2 ^ k ≤ 2 ^ 8 := Nat.pow_le_pow_right (by omega) hk
    rw [i64_and _ _ (by omega) (by omega), Nat.and_two_pow_sub_one_eq_mod]
  rcases h3 with rfl | rfl | rfl | rfl | rfl | rfl | rfl | rfl
  · exact key 1 (by omega)
  · exact key 2 (by omega)
  · exact key 3 (by omega)
  · exact key 4 (by omega)
  · exact key 5 (by omega)
  · exact key 6 (by omega)
  · exact key 7 (by omega)
  · exact key 8 (by omega)

set_option maxHeartbeats 1000000 in
set_option maxRecDepth 100000 in
theorem get_any (A : Option Addr) (n c : Nat) (l : List UInt8) (bits : Int) (w : World) (h : Bs w A n l) (hn : n ≤ 9223372036854775807) (hb1 : 1 ≤ bits) (hb2 : bits ≤ 8) :
    Calls Tryd.prog 69 #[.slice A n c, .int .i64 bits] w (GetPost (getR l bits) w) := by
  obtain ⟨hf1, hf2⟩ := ones_some hb1 hb2
  have hand := fun x : UInt8 => and_ones x hb1 hb2
  have HAND := hid hand
  have HR : Hid (getR l bits = match l[0]? with | none => (0, 0, 4) | some x => if x.toNat % ((onesN bits).toNat + 1) < (onesN bits).toNat then (x.toNat % ((onesN bits).toNat + 1), 1, 0) else getG 5 l 1 (x.toNat % ((onesN bits).toNat + 1))) := hid (by unfold getR; rw [if_neg (by omega)])
  generalize hff : onesN bits = f at hf1 hf2 HAND HR
  have HF := hid hff
  clear hff hand
  have hf0 : (f == 0) = false := by
    rw [beq_eq_false_iff_ne]
    omega
  have H := hid h
  clear h
  have HL := hid H.out.len
  rcases n with _ | n
  · go_enter Tryd.func69, Tryd.ntmps69
    go_wp2_with fail
    refine wp_scope_jumps 0 (fun _ _ => False) (fun _ _ => 0) rfl ?_ (fun _ _ h => h.elim)
    go_wp2_with fail
    refine (ones_any bits w).mono ?_
    rw [HF.out]
    rintro e w' ⟨rfl, rfl⟩
    go_wp2_with fail
    simp only [Exit.jump]
    go_ret3
    rw [HR.out, H.out.zero]
    exact ⟨rfl, rfl⟩
  · obtain ⟨b, o, x, rfl, hx, hc⟩ := H.out.at_ (i := 0) (by omega)
    have HX := hid hx
    clear hx
    unfold bv at hc
    rw [Nat.add_zero] at hc
    have hxl := x.toNat_lt
    have hv := HAND.out x
    have HR2 : Hid (getR l bits = if x.toNat % (f.toNat + 1) < f.toNat then (x.toNat % (f.toNat + 1), 1, 0) else getG 5 l 1 (x.toNat % (f.toNat + 1))) := hid (by rw [HR.out, HX.out])
    have hvb : x.toNat % (f.toNat + 1) < 256 := Nat.lt_of_le_of_lt (Nat.mod_le _ _) (by omega)
    generalize x.toNat % (f.toNat + 1) = v at hv HR2 hvb
    have hn0 : (((n + 1 : Nat) : Int) == 0) = false := by
      rw [beq_eq_false_iff_ne]
      omega
    by_cases hvf : v < f.toNat
    · have hvi : (v : Int) < f := by omega
      go_enter Tryd.func69, Tryd.ntmps69
      go_wp2_with fail
      refine wp_scope_jumps 0 (fun _ _ => False) (fun _ _ => 0) rfl ?_ (fun _ _ h => h.elim)
      go_wp2_with fail
      refine (ones_any bits w).mono ?_
      rw [HF.out]
      rintro e w' ⟨rfl, rfl⟩
      go_wp2_with fail
      simp only [Exit.jump]
      go_ret3
      rw [HR2.out, if_pos hvf]
      exact ⟨rfl, rfl⟩
    · have hvi : ¬ (v : Int) < f := by omega
      go_enter Tryd.func69, Tryd.ntmps69
      go_wp2_with fail
      refine wp_scope_jumps 0 (fun a' w' => ∃ (m i : Nat), (∃ us : Nat → Value, a' = { tmps := #[.slice (some ⟨b, o, none⟩) (n + 1) c, .int .i64 bits, us 2, us 3, .int .i64 0, .int .i64 0, .int .i64 0, .int .i64 f, .int .i64 m, .int .i64 (i : Nat), us 10, us 11, us 12, us 13, us 14, us 15, us 16, us 17, us 18, us 19, us 20, us 21, us 22, us 23, us 24, us 25, us 26, us 27, us 28, us 29, us 30, us 31, us 32, us 33, us 34, us 35, us 36, us 37, us 38, us 39, us 40, us 41, us 42, us 43, us 44, us 45, us 46, us 47, us 48, us 49, us 50, us 51, us 52, us 53, us 54, us 55, us 56, us 57, us 58, us 59, us 60, us 61, us 62, us 63, us 64, us 65, us 66, us 67], defers := [] }) ∧
        w = w' ∧ m ≤ 2147483647 ∧ 1 ≤ i ∧ i ≤ 5 ∧ i ≤ n + 1 ∧ getG (6 - i) l i m = getR l bits) (fun a' _ => (6 - intOf (a'.tmps.getD 9 undef)).toNat) rfl ?_ ?_
      · go_wp2_with fail
        refine (ones_any bits w).mono ?_
        rw [HF.out]
        rintro e w' ⟨rfl, rfl⟩
        go_wp2_with fail
        go_step3
        have HG : getR l bits = getG (6 - 1) l 1 v := by rw [HR2.out, if_neg hvf]
        replace HG := hid HG
        rcases hl : l[1]? with _ | y
        · obtain rfl : n = 0 := by
            have := List.getElem?_eq_none_iff.1 hl
            have := HL.out
            omega
          have e1 : Hid (getG (6 - 1) l 1 v = (0, 0, 4)) := hid (getG_none (q := 4) hl)
          clear hl
          go_wp2_with fail
          simp only [Exit.jump]
          go_ret3
          rw [HG.out, e1.out]
          exact ⟨rfl, rfl⟩
        · have hin : 1 < n + 1 := by
            have := (List.getElem?_eq_some_iff.1 hl).1
            have := HL.out
            omega
          obtain ⟨b', o', y', hA, hy, hcy⟩ := H.out.at_ (i := 1) hin
          injection hA with hA
          injection hA with hA1 hA2
          subst hA1 hA2
          rw [hl] at hy
          injection hy with hy
          subst hy
          unfold bv at hcy
          have hyl := y.toNat_lt
          have hand := u8_and127 y
          have e0 := getG_some (q := 4) (m := v) hl
          rw [show 128 ^ (1 - 1) = 1 by rfl] at e0
          obtain ⟨m', hm'⟩ : ∃ m' : Nat, v + y.toNat % 128 * 1 = m' := ⟨_, rfl⟩
          rw [hm'] at e0
          have hmi : ((v : Nat) : Int) + (y.toNat : Int) % 128 = (m' : Int) := by omega
          have E0 := hid e0
          have hne : (((n : Nat) : Int) + 1 == 1) = false := by
            rw [beq_eq_false_iff_ne]
            omega
          have hne2 : ((1 : Int) == (n : Int) + 1) = false := by
            rw [beq_eq_false_iff_ne]
            omega
          clear hl e0 hm'
          by_cases h1 : 2147483647 < m'
          · have h1i : decide (2147483647 < (m' : Int)) = true := decide_eq_true (by omega)
            have e1 : Hid (getG (6 - 1) l 1 v = (0, 0, 1)) := hid (by rw [show 6 - 1 = 4 + 1 by rfl, E0.out, if_pos h1])
            go_wp2_with fail
            simp only [Exit.jump]
            go_ret3
            rw [HG.out, e1.out]
            exact ⟨rfl, rfl⟩
          · have h1i : decide (2147483647 < (m' : Int)) = false := decide_eq_false (by omega)
            by_cases h2 : y.toNat < 128
            · have h2i : decide (128 ≤ y.toNat) = false := decide_eq_false (by omega)
              have e1 : Hid (getG (6 - 1) l 1 v = (m', 2, 0)) := hid (by rw [show 6 - 1 = 4 + 1 by rfl, E0.out, if_neg h1, if_pos h2])
              go_wp2_with fail
              simp only [Exit.jump]
              go_ret3
              rw [HG.out, e1.out]
              exact ⟨rfl, rfl⟩
            · have h2i : decide (128 ≤ y.toNat) = true := decide_eq_true (by omega)
              have e1 : Hid (getG (6 - 1) l 1 v = getG (6 - 2) l 2 m') := hid (by rw [show 6 - 1 = 4 + 1 by rfl, E0.out, if_neg h1, if_neg h2])
              go_wp2_with fail
              go_step3
              exact ⟨rfl, m', 2, frame_any _ rfl, rfl, by omega, by omega, by omega, by omega, by rw [← e1.out]; exact HG.out.symm⟩
      · rintro a' w' ⟨m, i, ⟨us, rfl⟩, rfl, hm, hi1, hi5, hin, hg⟩
        have hi : i = 1 ∨ i = 2 ∨ i = 3 ∨ i = 4 ∨ i = 5 := by omega
        rcases hi with rfl | rfl | rfl | rfl | rfl
        · have HG := hid hg.symm
          have hin0 := hin
          clear hg hin
          rcases hl : l[1]? with _ | y
          · obtain rfl : n = 0 := by
              have := List.getElem?_eq_none_iff.1 hl
              have := HL.out
              omega
            have e1 : Hid (getG (6 - 1) l 1 m = (0, 0, 4)) := hid (getG_none (q := 4) hl)
            clear hl
            go_wp2_with fail
            simp only [Exit.jump]
            go_ret3
            rw [HG.out, e1.out]
            exact ⟨rfl, rfl⟩
          · have hin : 1 < n + 1 := by
              have := (List.getElem?_eq_some_iff.1 hl).1
              have := HL.out
              omega
            obtain ⟨b', o', y', hA, hy, hcy⟩ := H.out.at_ (i := 1) hin
            injection hA with hA
            injection hA with hA1 hA2
            subst hA1 hA2
            rw [hl] at hy
            injection hy with hy
            subst hy
            unfold bv at hcy
            have hyl := y.toNat_lt
            have hand := u8_and127 y
            have e0 := getG_some (q := 4) (m := m) hl
            rw [show 128 ^ (1 - 1) = 1 by rfl] at e0
            obtain ⟨m', hm'⟩ : ∃ m' : Nat, m + y.toNat % 128 * 1 = m' := ⟨_, rfl⟩
            rw [hm'] at e0
            have hmi : ((m : Nat) : Int) + (y.toNat : Int) % 128 = (m' : Int) := by omega
            have E0 := hid e0
            have hne : (((n : Nat) : Int) + 1 == 1) = false := by
              rw [beq_eq_false_iff_ne]
              omega
            have hne2 : ((1 : Int) == (n : Int) + 1) = false := by
              rw [beq_eq_false_iff_ne]
              omega
            clear hl e0 hm'
            by_cases h1 : 2147483647 < m'
            · have h1i : decide (2147483647 < (m' : Int)) = true := decide_eq_true (by omega)
              have e1 : Hid (getG (6 - 1) l 1 m = (0, 0, 1)) := hid (by rw [show 6 - 1 = 4 + 1 by rfl, E0.out, if_pos h1])
              go_wp2_with fail
              simp only [Exit.jump]
              go_ret3
              rw [HG.out, e1.out]
              exact ⟨rfl, rfl⟩
            · have h1i : decide (2147483647 < (m' : Int)) = false := decide_eq_false (by omega)
              by_cases h2 : y.toNat < 128
              · have h2i : decide (128 ≤ y.toNat) = false := decide_eq_false (by omega)
                have e1 : Hid (getG (6 - 1) l 1 m = (m', 2, 0)) := hid (by rw [show 6 - 1 = 4 + 1 by rfl, E0.out, if_neg h1, if_pos h2])
                go_wp2_with fail
                simp only [Exit.jump]
                go_ret3
                rw [HG.out, e1.out]
                exact ⟨rfl, rfl⟩
              · have h2i : decide (128 ≤ y.toNat) = true := decide_eq_true (by omega)
                have e1 : Hid (getG (6 - 1) l 1 m = getG (6 - 2) l 2 m') := hid (by rw [show 6 - 1 = 4 + 1 by rfl, E0.out, if_neg h1, if_neg h2])
                go_wp2_with fail
                go_step3
                exact ⟨rfl, ⟨m', 2, frame_any _ rfl, rfl, by omega, by omega, by omega, by omega, by rw [← e1.out]; exact HG.out.symm⟩, by simp [intOf]⟩
        · have HG := hid hg.symm
          have hin0 := hin
          clear hg hin
          rcases hl : l[2]? with _ | y
          · obtain rfl : n = 1 := by
              have := List.getElem?_eq_none_iff.1 hl
              have := HL.out
              omega
            have e1 : Hid (getG (6 - 2) l 2 m = (0, 0, 4)) := hid (getG_none (q := 3) hl)
            clear hl
            go_wp2_with fail
            simp only [Exit.jump]
            go_ret3
            rw [HG.out, e1.out]
            exact ⟨rfl, rfl⟩
          · have hin : 2 < n + 1 := by
              have := (List.getElem?_eq_some_iff.1 hl).1
              have := HL.out
              omega
            obtain ⟨b', o', y', hA, hy, hcy⟩ := H.out.at_ (i := 2) hin
            injection hA with hA
            injection hA with hA1 hA2
            subst hA1 hA2
            rw [hl] at hy
            injection hy with hy
            subst hy
            unfold bv at hcy
            have hyl := y.toNat_lt
            have hand := u8_and127 y
            have e0 := getG_some (q := 3) (m := m) hl
            rw [show 128 ^ (2 - 1) = 128 by rfl] at e0
            obtain ⟨m', hm'⟩ : ∃ m' : Nat, m + y.toNat % 128 * 128 = m' := ⟨_, rfl⟩
            rw [hm'] at e0
            have hmi : ((m : Nat) : Int) + (y.toNat : Int) % 128 * 128 = (m' : Int) := by omega
            have E0 := hid e0
            have hne : (((n : Nat) : Int) + 1 == 2) = false := by
              rw [beq_eq_false_iff_ne]
              omega
            have hne2 : ((2 : Int) == (n : Int) + 1) = false := by
              rw [beq_eq_false_iff_ne]
              omega
            clear hl e0 hm'
            by_cases h1 : 2147483647 < m'
            · have h1i : decide (2147483647 < (m' : Int)) = true := decide_eq_true (by omega)
              have e1 : Hid (getG (6 - 2) l 2 m = (0, 0, 1)) := hid (by rw [show 6 - 2 = 3 + 1 by rfl, E0.out, if_pos h1])
              go_wp2_with fail
              simp only [Exit.jump]
              go_ret3
              rw [HG.out, e1.out]
              exact ⟨rfl, rfl⟩
            · have h1i : decide (2147483647 < (m' : Int)) = false := decide_eq_false (by omega)
              by_cases h2 : y.toNat < 128
              · have h2i : decide (128 ≤ y.toNat) = false := decide_eq_false (by omega)
                have e1 : Hid (getG (6 - 2) l 2 m = (m', 3, 0)) := hid (by rw [show 6 - 2 = 3 + 1 by rfl, E0.out, if_neg h1, if_pos h2])
                go_wp2_with fail
                simp only [Exit.jump]
                go_ret3
                rw [HG.out, e1.out]
                exact ⟨rfl, rfl⟩
              · have h2i : decide (128 ≤ y.toNat) = true := decide_eq_true (by omega)
                have e1 : Hid (getG (6 - 2) l 2 m = getG (6 - 3) l 3 m') := hid (by rw [show 6 - 2 = 3 + 1 by rfl, E0.out, if_neg h1, if_neg h2])
                go_wp2_with fail
                go_step3
                exact ⟨rfl, ⟨m', 3, frame_any _ rfl, rfl, by omega, by omega, by omega, by omega, by rw [← e1.out]; exact HG.out.symm⟩, by simp [intOf]⟩
        · have HG := hid hg.symm
          have hin0 := hin
          clear hg hin
          rcases hl : l[3]? with _ | y
          · obtain rfl : n = 2 := by
              have := List.getElem?_eq_none_iff.1 hl
              have := HL.out
              omega
            have e1 : Hid (getG (6 - 3) l 3 m = (0, 0, 4)) := hid (getG_none (q := 2) hl)
            clear hl
            go_wp2_with fail
            simp only [Exit.jump]
            go_ret3
            rw [HG.out, e1.out]
            exact ⟨rfl, rfl⟩
          · have hin : 3 < n + 1 := by
              have := (List.getElem?_eq_some_iff.1 hl).1
              have := HL.out
              omega
            obtain ⟨b', o', y', hA, hy, hcy⟩ := H.out.at_ (i := 3) hin
            injection hA with hA
            injection hA with hA1 hA2
            subst hA1 hA2
            rw [hl] at hy
            injection hy with hy
            subst hy
            unfold bv at hcy
            have hyl := y.toNat_lt
            have hand := u8_and127 y
            have e0 := getG_some (q := 2) (m := m) hl
            rw [show 128 ^ (3 - 1) = 16384 by rfl] at e0
            obtain ⟨m', hm'⟩ : ∃ m' : Nat, m + y.toNat % 128 * 16384 = m' := ⟨_, rfl⟩
            rw [hm'] at e0
            have hmi : ((m : Nat) : Int) + (y.toNat : Int) % 128 * 16384 = (m' : Int) := by omega
            have E0 := hid e0
            have hne : (((n : Nat) : Int) + 1 == 3) = false := by
              rw [beq_eq_false_iff_ne]
              omega
            have hne2 : ((3 : Int) == (n : Int) + 1) = false := by
              rw [beq_eq_false_iff_ne]
              omega
            clear hl e0 hm'
            by_cases h1 : 2147483647 < m'
            · have h1i : decide (2147483647 < (m' : Int)) = true := decide_eq_true (by omega)
              have e1 : Hid (getG (6 - 3) l 3 m = (0, 0, 1)) := hid (by rw [show 6 - 3 = 2 + 1 by rfl, E0.out, if_pos h1])
              go_wp2_with fail
              simp only [Exit.jump]
              go_ret3
              rw [HG.out, e1.out]
              exact ⟨rfl, rfl⟩
            · have h1i : decide (2147483647 < (m' : Int)) = false := decide_eq_false (by omega)
              by_cases h2 : y.toNat < 128
              · have h2i : decide (128 ≤ y.toNat) = false := decide_eq_false (by omega)
                have e1 : Hid (getG (6 - 3) l 3 m = (m', 4, 0)) := hid (by rw [show 6 - 3 = 2 + 1 by rfl, E0.out, if_neg h1, if_pos h2])
                go_wp2_with fail
                simp only [Exit.jump]
                go_ret3
                rw [HG.out, e1.out]
                exact ⟨rfl, rfl⟩
              · have h2i : decide (128 ≤ y.toNat) = true := decide_eq_true (by omega)
                have e1 : Hid (getG (6 - 3) l 3 m = getG (6 - 4) l 4 m') := hid (by rw [show 6 - 3 = 2 + 1 by rfl, E0.out, if_neg h1, if_neg h2])
                go_wp2_with fail
                go_step3
                exact ⟨rfl, ⟨m', 4, frame_any _ rfl, rfl, by omega, by omega, by omega, by omega, by rw [← e1.out]; exact HG.out.symm⟩, by simp [intOf]⟩
        · have HG := hid hg.symm
          have hin0 := hin
          clear hg hin
          rcases hl : l[4]? with _ | y
          · obtain rfl : n = 3 := by
              have := List.getElem?_eq_none_iff.1 hl
              have := HL.out
              omega
            have e1 : Hid (getG (6 - 4) l 4 m = (0, 0, 4)) := hid (getG_none (q := 1) hl)
            clear hl
            go_wp2_with fail
            simp only [Exit.jump]
            go_ret3
            rw [HG.out, e1.out]
            exact ⟨rfl, rfl⟩
          · have hin : 4 < n + 1 := by
              have := (List.getElem?_eq_some_iff.1 hl).1
              have := HL.out
              omega
            obtain ⟨b', o', y', hA, hy, hcy⟩ := H.out.at_ (i := 4) hin
            injection hA with hA
            injection hA with hA1 hA2
            subst hA1 hA2
            rw [hl] at hy
            injection hy with hy
            subst hy
            unfold bv at hcy
            have hyl := y.toNat_lt
            have hand := u8_and127 y
            have e0 := getG_some (q := 1) (m := m) hl
            rw [show 128 ^ (4 - 1) = 2097152 by rfl] at e0
            obtain ⟨m', hm'⟩ : ∃ m' : Nat, m + y.toNat % 128 * 2097152 = m' := ⟨_, rfl⟩
            rw [hm'] at e0
            have hmi : ((m : Nat) : Int) + (y.toNat : Int) % 128 * 2097152 = (m' : Int) := by omega
            have E0 := hid e0
            have hne : (((n : Nat) : Int) + 1 == 4) = false := by
              rw [beq_eq_false_iff_ne]
              omega
            have hne2 : ((4 : Int) == (n : Int) + 1) = false := by
              rw [beq_eq_false_iff_ne]
              omega
            clear hl e0 hm'
            by_cases h1 : 2147483647 < m'
            · have h1i : decide (2147483647 < (m' : Int)) = true := decide_eq_true (by omega)
              have e1 : Hid (getG (6 - 4) l 4 m = (0, 0, 1)) := hid (by rw [show 6 - 4 = 1 + 1 by rfl, E0.out, if_pos h1])
              go_wp2_with fail
              simp only [Exit.jump]
              go_ret3
              rw [HG.out, e1.out]
              exact ⟨rfl, rfl⟩
            · have h1i : decide (2147483647 < (m' : Int)) = false := decide_eq_false (by omega)
              by_cases h2 : y.toNat < 128
              · have h2i : decide (128 ≤ y.toNat) = false := decide_eq_false (by omega)
                have e1 : Hid (getG (6 - 4) l 4 m = (m', 5, 0)) := hid (by rw [show 6 - 4 = 1 + 1 by rfl, E0.out, if_neg h1, if_pos h2])
                go_wp2_with fail
                simp only [Exit.jump]
                go_ret3
                rw [HG.out, e1.out]
                exact ⟨rfl, rfl⟩
              · have h2i : decide (128 ≤ y.toNat) = true := decide_eq_true (by omega)
                have e1 : Hid (getG (6 - 4) l 4 m = getG (6 - 5) l 5 m') := hid (by rw [show 6 - 4 = 1 + 1 by rfl, E0.out, if_neg h1, if_neg h2])
                go_wp2_with fail
                go_step3
                exact ⟨rfl, ⟨m', 5, frame_any _ rfl, rfl, by omega, by omega, by omega, by omega, by rw [← e1.out]; exact HG.out.symm⟩, by simp [intOf]⟩
        · have HG := hid hg.symm
          have hin0 := hin
          clear hg hin
          rcases hl : l[5]? with _ | y
          · obtain rfl : n = 4 := by
              have := List.getElem?_eq_none_iff.1 hl
              have := HL.out
              omega
            have e1 : Hid (getG (6 - 5) l 5 m = (0, 0, 4)) := hid (getG_none (q := 0) hl)
            clear hl
            go_wp2_with fail
            simp only [Exit.jump]
            go_ret3
            rw [HG.out, e1.out]
            exact ⟨rfl, rfl⟩
          · have hin : 5 < n + 1 := by
              have := (List.getElem?_eq_some_iff.1 hl).1
              have := HL.out
              omega
            obtain ⟨b', o', y', hA, hy, hcy⟩ := H.out.at_ (i := 5) hin
            injection hA with hA
            injection hA with hA1 hA2
            subst hA1 hA2
            rw [hl] at hy
            injection hy with hy
            subst hy
            unfold bv at hcy
            have hyl := y.toNat_lt
            have hand := u8_and127 y
            have e0 := getG_some (q := 0) (m := m) hl
            rw [show 128 ^ (5 - 1) = 268435456 by rfl] at e0
            obtain ⟨m', hm'⟩ : ∃ m' : Nat, m + y.toNat % 128 * 268435456 = m' := ⟨_, rfl⟩
            rw [hm'] at e0
            have hmi : ((m : Nat) : Int) + (y.toNat : Int) % 128 * 268435456 = (m' : Int) := by omega
            have E0 := hid e0
            have hne : (((n : Nat) : Int) + 1 == 5) = false := by
              rw [beq_eq_false_iff_ne]
              omega
            have hne2 : ((5 : Int) == (n : Int) + 1) = false := by
              rw [beq_eq_false_iff_ne]
              omega
            clear hl e0 hm'
            by_cases h1 : 2147483647 < m'
            · have h1i : decide (2147483647 < (m' : Int)) = true := decide_eq_true (by omega)
              have e1 : Hid (getG (6 - 5) l 5 m = (0, 0, 1)) := hid (by rw [show 6 - 5 = 0 + 1 by rfl, E0.out, if_pos h1])
              go_wp2_with fail
              simp only [Exit.jump]
              go_ret3
              rw [HG.out, e1.out]
              exact ⟨rfl, rfl⟩
            · have h1i : decide (2147483647 < (m' : Int)) = false := decide_eq_false (by omega)
              by_cases h2 : y.toNat < 128
              · have h2i : decide (128 ≤ y.toNat) = false := decide_eq_false (by omega)
                have e1 : Hid (getG (6 - 5) l 5 m = (m', 6, 0)) := hid (by rw [show 6 - 5 = 0 + 1 by rfl, E0.out, if_neg h1, if_pos h2])
                go_wp2_with fail
                simp only [Exit.jump]
                go_ret3
                rw [HG.out, e1.out]
                exact ⟨rfl, rfl⟩
              · have h2i : decide (128 ≤ y.toNat) = true := decide_eq_true (by omega)
                have e1 : Hid (getG (6 - 5) l 5 m = (0, 0, 1)) := hid (by rw [show 6 - 5 = 0 + 1 by rfl, E0.out, if_neg h1, if_neg h2]; rfl)
                go_wp2_with fail
                simp only [Exit.jump]
                go_ret3
                rw [HG.out, e1.out]
                exact ⟨rfl, rfl⟩

end Go.Proofs.YtjeocmglcgnclaaDoor

/- The plain law of integers with a prefix: Get takes back what Put wrote. -/
namespace Go.Proofs.YtjeocmglcgnclaaDoor
open Go.RowKit

/-- The number that groups stand for. -/
def valOf : List UInt8 → Nat
  | [] => 0
  | x :: t => x.toNat % 128 + 128 * valOf t
/-- All groups but the last say that more comes. -/
def chain : List UInt8 → Prop
  | [] => False
  | x :: t => if t = [] then x.toNat < 128 else 128 ≤ x.toNat ∧ chain t

theorem chain_one {x : UInt8} : chain [x] ↔ x.toNat < 128 := by simp [chain]
theorem chain_more {x y : UInt8} {t : List UInt8} : chain (x :: y :: t) ↔ 128 ≤ x.toNat ∧ chain (y :: t) := by
  rw [chain, if_neg (by simp)]

theorem groups_ne (q m : Nat) : groups q m ≠ [] := by
  cases q with
  | zero => simp [groups]
  | succ q => unfold groups; split <;> simp
theorem byteN (n : Nat) (h : n < 256) : (UInt8.ofNat n).toNat = n := by
  rw [UInt8.toNat_ofNat']; omega

theorem groups_chain : ∀ (q m : Nat), m < 128 ^ (q + 1) → chain (groups q m) ∧ valOf (groups q m) = m
  | 0, m, h => by
    simp at h
    simp only [groups, chain_one, valOf]
    rw [byteN m (by omega)]
    omega
  | q + 1, m, h => by
    unfold groups
    by_cases hm : m < 128
    · rw [if_pos hm]
      simp only [chain_one, valOf]
      rw [byteN m (by omega)]
      omega
    · rw [if_neg hm]
      have h2 : m / 128 < 128 ^ (q + 1) := by
        rw [Nat.pow_succ] at h
        exact Nat.div_lt_of_lt_mul (by rw [Nat.mul_comm]; exact h)
      obtain ⟨k1, k2⟩ := groups_chain q (m / 128) h2
      refine ⟨?_, ?_⟩
      · rw [chain, if_neg (groups_ne _ _), byteN _ (by omega)]
        exact ⟨by omega, k1⟩
      · rw [valOf, k2, byteN _ (by omega)]
        omega
theorem groups_len : ∀ (q m Q : Nat), m < 128 ^ Q → 1 ≤ Q → m < 128 ^ (q + 1) → (groups q m).length ≤ Q
  | 0, m, Q, _, h1, _ => by simpa [groups] using h1
  | q + 1, m, Q, h, h1, h2 => by
    unfold groups
    by_cases hm : m < 128
    · rw [if_pos hm]; simpa using h1
    · rw [if_neg hm]
      cases Q with
      | zero => omega
      | succ Q =>
        have k1 : m / 128 < 128 ^ Q := by
          rw [Nat.pow_succ] at h
          exact Nat.div_lt_of_lt_mul (by rw [Nat.mul_comm]; exact h)
        have k2 : m / 128 < 128 ^ (q + 1) := by
          rw [Nat.pow_succ] at h2
          exact Nat.div_lt_of_lt_mul (by rw [Nat.mul_comm]; exact h2)
        have hQ : 1 ≤ Q := by
          rcases Q with _ | Q
          · simp at k1; omega
          · omega
        have := groups_len q (m / 128) Q k1 hQ k2
        simp only [List.length_cons]
        omega
theorem groups_mono : ∀ (q m m' : Nat), m ≤ m' → (groups q m).length ≤ (groups q m').length
  | 0, _, _, _ => by simp [groups]
  | q + 1, m, m', h => by
    unfold groups
    by_cases hm : m < 128
    · rw [if_pos hm]
      split <;> simp
    · rw [if_neg hm, if_neg (by omega)]
      have := groups_mono q (m / 128) (m' / 128) (Nat.div_le_div_right h)
      simp only [List.length_cons]
      omega

theorem getE (pre t : List UInt8) {i : Nat} (h : pre.length = i) : (pre ++ t)[i]? = t[0]? := by
  subst h
  rw [List.getElem?_append_right (Nat.le_refl _), Nat.sub_self]

theorem pow_step (i : Nat) (h : 1 ≤ i) : 128 ^ (i + 1 - 1) = 128 * 128 ^ (i - 1) := by
  obtain ⟨k, rfl⟩ : ∃ k, i = k + 1 := ⟨i - 1, by omega⟩
  simp [Nat.pow_succ, Nat.mul_comm]

theorem mul_part (a x v P : Nat) : a + x * P + v * (128 * P) = a + (x + 128 * v) * P := by
  rw [Nat.add_mul, Nat.add_assoc]
  congr 2
  rw [← Nat.mul_assoc, Nat.mul_comm v 128]

/-- Groups are read back, whatever follows. -/
theorem getG_chain : ∀ (t : List UInt8) (Q i acc : Nat) (pre more : List UInt8), pre.length = i → 1 ≤ i → chain t → t.length ≤ Q → acc + valOf t * 128 ^ (i - 1) ≤ 2147483647 →
    getG Q (pre ++ t ++ more) i acc = (acc + valOf t * 128 ^ (i - 1), i + t.length, 0)
  | [], _, _, _, _, _, _, _, h, _, _ => h.elim
  | x :: t, 0, _, _, _, _, _, _, _, h, _ => by simp at h
  | x :: t, Q + 1, i, acc, pre, more, hp, hi, hc, hl, hv => by
    have hx : (pre ++ (x :: t) ++ more)[i]? = some x := by
      rw [List.append_assoc, getE pre _ hp]
      rfl
    rw [getG_some hx]
    rw [valOf] at hv ⊢
    generalize hP : 128 ^ (i - 1) = P at hv ⊢
    have hxv : x.toNat % 128 * P ≤ (x.toNat % 128 + 128 * valOf t) * P := Nat.mul_le_mul_right _ (by omega)
    rw [if_neg (by omega)]
    cases t with
    | nil =>
      rw [chain_one] at hc
      rw [if_pos hc]
      simp [valOf]
    | cons y t =>
      rw [chain_more] at hc
      rw [if_neg (by omega)]
      have hps := pow_step i hi
      rw [hP] at hps
      have ih := getG_chain (y :: t) Q (i + 1) (acc + x.toNat % 128 * P) (pre ++ [x]) more (by simp [hp]) (by omega) hc.2 (by simp at hl ⊢; omega) (by rw [hps, mul_part]; exact hv)
      rw [hps, mul_part] at ih
      rw [show pre ++ x :: y :: t ++ more = pre ++ [x] ++ (y :: t) ++ more by simp, ih]
      simp [Nat.add_assoc, Nat.add_comm 1]

/-- Cut anywhere, they are too short. -/
theorem getG_cut : ∀ (t : List UInt8) (Q i acc j : Nat) (pre : List UInt8), pre.length = i → 1 ≤ i → chain t → t.length ≤ Q → acc + valOf t * 128 ^ (i - 1) ≤ 2147483647 → j < t.length →
    getG Q (pre ++ t.take j) i acc = (0, 0, 4)
  | [], _, _, _, _, _, _, _, h, _, _, _ => h.elim
  | x :: t, 0, _, _, _, _, _, _, _, h, _, _ => by simp at h
  | x :: t, Q + 1, i, acc, 0, pre, hp, hi, hc, hl, hv, hj => by
    apply getG_none
    rw [List.take_zero, getE pre _ hp]
    rfl
  | x :: t, Q + 1, i, acc, j + 1, pre, hp, hi, hc, hl, hv, hj => by
    have hx : (pre ++ (x :: t).take (j + 1))[i]? = some x := by
      rw [getE pre _ hp]
      rfl
    rw [getG_some hx]
    rw [valOf] at hv
    generalize hP : 128 ^ (i - 1) = P at hv ⊢
    have hxv : x.toNat % 128 * P ≤ (x.toNat % 128 + 128 * valOf t) * P := Nat.mul_le_mul_right _ (by omega)
    rw [if_neg (by omega)]
    cases t with
    | nil => simp at hj
    | cons y t =>
      rw [chain_more] at hc
      rw [if_neg (by omega)]
      have hps := pow_step i hi
      rw [hP] at hps
      have ih := getG_cut (y :: t) Q (i + 1) (acc + x.toNat % 128 * P) j (pre ++ [x]) (by simp [hp]) (by omega) hc.2 (by simp at hl ⊢; omega) (by rw [hps, mul_part]; exact hv) (by simp at hj ⊢; omega)
      rw [show pre ++ (x :: y :: t).take (j + 1) = pre ++ [x] ++ (y :: t).take j by simp, ih]

/-- Where every group says that more comes, there are too many. -/
theorem getG_over : ∀ (Q : Nat) (t : List UInt8) (i acc : Nat) (pre : List UInt8), pre.length = i → Q ≤ t.length → (∀ x ∈ t.take Q, 128 ≤ x.toNat) → getG Q (pre ++ t) i acc = (0, 0, 1)
  | 0, _, _, _, _, _, _, _ => rfl
  | Q + 1, [], _, _, _, _, h, _ => by simp at h
  | Q + 1, x :: t, i, acc, pre, hp, hl, ha => by
    have hx : (pre ++ (x :: t))[i]? = some x := by
      rw [getE pre _ hp]
      rfl
    rw [getG_some hx]
    have h1 := ha x (by simp)
    split
    · rfl
    · rw [if_neg (by omega)]
      rw [show pre ++ x :: t = pre ++ [x] ++ t by simp]
      exact getG_over Q t (i + 1) _ (pre ++ [x]) (by simp [hp]) (by simp at hl; omega) (fun z hz => ha z (by simp [hz]))

/-! The first byte. -/
theorem head_val (first : Int) (bits v : Int) (h0 : 0 ≤ first) (h1 : first < 256) (hb1 : 1 ≤ bits) (hb2 : bits ≤ 8) (hv : 0 ≤ v) (hv1 : v ≤ onesN bits) :
    headI first (onesN bits) v = first / (onesN bits + 1) * (onesN bits + 1) + v := by
  obtain ⟨a, rfl⟩ : ∃ a : Nat, first = a := ⟨first.toNat, by omega⟩
  obtain ⟨u, rfl⟩ : ∃ u : Nat, v = u := ⟨v.toNat, by omega⟩
  have ha : a < 256 := by omega
  have h3 : bits = 1 ∨ bits = 2 ∨ bits = 3 ∨ bits = 4 ∨ bits = 5 ∨ bits = 6 ∨ bits = 7 ∨ bits = 8 := by omega
  have key : ∀ k : Nat, 1 ≤ k → k ≤ 8 → (u : Int) ≤ ((2 ^ k - 1 : Nat) : Int) → headI (a : Int) ((2 ^ k - 1 : Nat) : Int) (u : Int) = (a : Int) / (((2 ^ k - 1 : Nat) : Int) + 1) * (((2 ^ k - 1 : Nat) : Int) + 1) + (u : Int) := fun k hk1 hk2 hu => by
    have h4 : 2 ^ k ≤ 2 ^ 8 := Nat.pow_le_pow_right (by omega) hk2
    have h5 : 1 ≤ 2 ^ k := Nat.one_le_two_pow
    have hu' : u < 2 ^ k := by omega
    have e1 : a &&& (255 - (2 ^ k - 1)) = 2 ^ k * (a / 2 ^ k) := by
      apply Nat.eq_of_testBit_eq
      intro i
      rw [Nat.testBit_and, show (255 : Nat) = 2 ^ 8 - 1 by rfl, show 2 ^ 8 - 1 - (2 ^ k - 1) = 2 ^ 8 - ((2 ^ k - 1) + 1) by omega, Nat.testBit_two_pow_sub_succ (by omega), Nat.testBit_two_pow_sub_one, Nat.testBit_two_pow_mul, Nat.testBit_div_two_pow]
      by_cases hik : i < k
      · simp [hik]
        omega
      · by_cases hi8 : i < 8
        · have e2 : i - k + k = i := by omega
          simp [hik, hi8, e2]
          intro _
          omega
        · have e2 : i - k + k = i := by omega
          have e3 : a.testBit i = false := Nat.testBit_lt_two_pow (Nat.lt_of_lt_of_le (show a < 2 ^ 8 by omega) (Nat.pow_le_pow_right (by omega) (by omega)))
          simp [e3, e2]
    unfold headI
    rw [Go.u8_andNot_nat a _ ha (by omega), e1]
    have h6 : 2 ^ k * (a / 2 ^ k) ≤ a := Nat.mul_div_le a (2 ^ k)
    rw [Go.u8_or_nat _ _ (by omega) (by omega), ← Nat.two_pow_add_eq_or_of_lt hu']
    have e7 : (((2 ^ k - 1 : Nat) : Int) + 1) = ((2 ^ k : Nat) : Int) := by omega
    rw [e7, ← Int.natCast_ediv, ← Int.natCast_mul, ← Int.natCast_add, Nat.mul_comm (a / 2 ^ k)]
  rcases h3 with rfl | rfl | rfl | rfl | rfl | rfl | rfl | rfl
  · exact key 1 (by omega) (by omega) hv1
  · exact key 2 (by omega) (by omega) hv1
  · exact key 3 (by omega) (by omega) hv1
  · exact key 4 (by omega) (by omega) hv1
  · exact key 5 (by omega) (by omega) hv1
  · exact key 6 (by omega) (by omega) hv1
  · exact key 7 (by omega) (by omega) hv1
  · exact key 8 (by omega) (by omega) hv1

/-- What Put's bytes are, as Get sees them. -/
structure Coded (first bits n : Int) (L : List UInt8) : Prop where
  form : ∃ (hd : UInt8) (t : List UInt8), L = hd :: t ∧ (hd.toNat : Int) = first / (onesN bits + 1) * (onesN bits + 1) + min n (onesN bits) ∧
    (n < onesN bits → t = []) ∧ (onesN bits ≤ n → chain t ∧ (valOf t : Int) = n - onesN bits ∧ t.length ≤ 5)

theorem coded_of {first bits n : Int} (h0 : 0 ≤ first) (h1 : first < 256) (hb1 : 1 ≤ bits) (hb2 : bits ≤ 8) (hn : 0 ≤ n) (hn1 : n ≤ 2147483647) :
    Coded first bits n (putR first bits n).1 ∧ (putR first bits n).2 = 0 := by
  obtain ⟨hf, hf1⟩ := ones_some hb1 hb2
  have hv1 := head_val first bits (min n (onesN bits)) h0 h1 hb1 hb2 (by omega) (by omega)
  unfold putR
  rw [if_neg (by omega)]
  have hbd := headI_bounds first (onesN bits) (min n (onesN bits)) h0 h1 (by omega) (by omega) (by omega) (by omega)
  by_cases hnf : n < onesN bits
  · rw [if_pos hnf]
    rw [show min n (onesN bits) = n by omega] at hv1 hbd
    refine ⟨⟨_, [], rfl, ?_, fun _ => rfl, fun h => by omega⟩, rfl⟩
    rw [byteN _ (by omega), show min n (onesN bits) = n by omega, ← hv1]
    omega
  · rw [if_neg hnf]
    rw [show min n (onesN bits) = onesN bits by omega] at hv1 hbd
    obtain ⟨k1, k2⟩ := groups_chain 5 (n - onesN bits).toNat (by omega)
    have k3 := groups_len 5 (n - onesN bits).toNat 5 (by omega) (by omega) (by omega)
    refine ⟨⟨_, _, rfl, ?_, fun h => by omega, fun _ => ⟨k1, by omega, k3⟩⟩, rfl⟩
    rw [byteN _ (by omega), show min n (onesN bits) = onesN bits by omega, ← hv1]
    omega

theorem mod_of (a f v : Int) (hv : 0 ≤ v) (hvf : v ≤ f) : (a * (f + 1) + v) % (f + 1) = v := by
  rw [Int.add_comm, Int.add_mul_emod_self_right]
  exact Int.emod_eq_of_lt hv (by omega)

theorem coded_mod {first bits n : Int} (hb1 : 1 ≤ bits) (hb2 : bits ≤ 8) (hn : 0 ≤ n) {hd : UInt8} (h : (hd.toNat : Int) = first / (onesN bits + 1) * (onesN bits + 1) + min n (onesN bits)) :
    ((hd.toNat % ((onesN bits).toNat + 1) : Nat) : Int) = min n (onesN bits) := by
  obtain ⟨hf, hf1⟩ := ones_some hb1 hb2
  rw [Int.natCast_emod, h, show (((onesN bits).toNat + 1 : Nat) : Int) = onesN bits + 1 by omega]
  exact mod_of _ _ _ (by omega) (by omega)

theorem coded_get {first bits n : Int} {L : List UInt8} (h : Coded first bits n L) (hb1 : 1 ≤ bits) (hb2 : bits ≤ 8) (hn : 0 ≤ n) (hn1 : n ≤ 2147483647) (more : List UInt8) :
    getR (L ++ more) bits = (n.toNat, L.length, 0) := by
  obtain ⟨hd, t, rfl, e1, e2, e3⟩ := h
  obtain ⟨hf, hf1⟩ := ones_some hb1 hb2
  have hm := coded_mod hb1 hb2 hn e1
  unfold getR
  rw [if_neg (by omega)]
  show (if hd.toNat % ((onesN bits).toNat + 1) < (onesN bits).toNat then (hd.toNat % ((onesN bits).toNat + 1), 1, 0) else getG 5 (hd :: t ++ more) 1 (hd.toNat % ((onesN bits).toNat + 1))) = _
  by_cases hnf : n < onesN bits
  · rw [if_pos (by omega), e2 hnf]
    simp only [List.length_singleton]
    congr 1
    omega
  · rw [if_neg (by omega)]
    obtain ⟨k1, k2, k3⟩ := e3 (by omega)
    have hg := getG_chain t 5 1 (hd.toNat % ((onesN bits).toNat + 1)) [hd] more rfl (by omega) k1 k3 (by simp; omega)
    rw [show hd :: t ++ more = [hd] ++ t ++ more by simp, hg]
    simp only [Nat.sub_self, Nat.pow_zero, Nat.mul_one]
    congr 1
    · omega
    · simp [Nat.add_comm]

theorem coded_cut {first bits n : Int} {L : List UInt8} (h : Coded first bits n L) (hb1 : 1 ≤ bits) (hb2 : bits ≤ 8) (hn : 0 ≤ n) (hn1 : n ≤ 2147483647) {j : Nat} (hj : j < L.length) :
    getR (L.take j) bits = (0, 0, 4) := by
  obtain ⟨hd, t, rfl, e1, e2, e3⟩ := h
  obtain ⟨hf, hf1⟩ := ones_some hb1 hb2
  have hm := coded_mod hb1 hb2 hn e1
  unfold getR
  rw [if_neg (by omega)]
  cases j with
  | zero => rfl
  | succ j =>
    show (if hd.toNat % ((onesN bits).toNat + 1) < (onesN bits).toNat then (hd.toNat % ((onesN bits).toNat + 1), 1, 0) else getG 5 (hd :: t.take j) 1 (hd.toNat % ((onesN bits).toNat + 1))) = _
    by_cases hnf : n < onesN bits
    · rw [e2 hnf] at hj; simp at hj
    · rw [if_neg (by omega)]
      obtain ⟨k1, k2, k3⟩ := e3 (by omega)
      exact getG_cut t 5 1 (hd.toNat % ((onesN bits).toNat + 1)) j [hd] rfl (by omega) k1 k3 (by simp; omega) (by simpa using hj)

theorem coded_len {first bits n : Int} {L : List UInt8} (h : Coded first bits n L) : 1 ≤ L.length ∧ L.length ≤ 6 ∧ (L.length = 1 ↔ n < onesN bits) := by
  obtain ⟨hd, t, rfl, e1, e2, e3⟩ := h
  by_cases hnf : n < onesN bits
  · rw [e2 hnf]; simp [hnf]
  · obtain ⟨k1, k2, k3⟩ := e3 (by omega)
    have : t ≠ [] := by rintro rfl; exact k1
    have := List.length_pos_iff.2 this
    simp only [List.length_cons]
    omega

theorem coded_eq {f1 f2 bits n m : Int} {L : List UInt8} (h : Coded f1 bits n L) (h' : Coded f2 bits m L) (hb1 : 1 ≤ bits) (hb2 : bits ≤ 8) (hn : 0 ≤ n) (hn1 : n ≤ 2147483647) (hm : 0 ≤ m) (hm1 : m ≤ 2147483647) : n = m := by
  have k1 := coded_get h hb1 hb2 hn hn1 []
  have k2 := coded_get h' hb1 hb2 hm hm1 []
  rw [k1] at k2
  injection k2 with k2
  omega

theorem put_len (f1 f2 bits n : Int) : (putR f1 bits n).1.length = (putR f2 bits n).1.length := by
  unfold putR
  split
  · rfl
  · split <;> simp
theorem put_mono {f bits n m : Int} (hn : 0 ≤ n) (hm : m ≤ 2147483647) (h : n ≤ m) : (putR f bits n).1.length ≤ (putR f bits m).1.length := by
  unfold putR
  by_cases h0 : onesN bits = 0
  · rw [if_pos (.inl h0), if_pos (.inl h0)]; exact Nat.le_refl _
  · rw [if_neg (show ¬(onesN bits = 0 ∨ n < 0 ∨ 2147483647 < n) by omega), if_neg (show ¬(onesN bits = 0 ∨ m < 0 ∨ 2147483647 < m) by omega)]
    by_cases h1 : n < onesN bits
    · rw [if_pos h1]
      split <;> simp
    · rw [if_neg h1, if_neg (by omega)]
      have := groups_mono 5 (n - onesN bits).toNat (m - onesN bits).toNat (by omega)
      simp only [List.length_cons]
      omega
end Go.Proofs.YtjeocmglcgnclaaDoor

/- Integers with a prefix: each call once, for whatever comes in; what the chapter's examples fix. -/
namespace Go.Proofs.YtjeocmglcgnclaaDoor
open Go.RowKit

theorem put_all (first bits n : Int) (w : World) (h0 : 0 ≤ first) (h1 : first < 256) :
    Calls Tryd.prog 58 #[.int .u8 first, .int .i64 bits, .int .i64 n] w (PutPost (putR first bits n) w) := by
  by_cases h : onesN bits = 0 ∨ n < 0 ∨ 2147483647 < n
  · exact put_bad first bits n w h
  · have hb : 1 ≤ bits ∧ bits ≤ 8 := by
      by_cases hb : 1 ≤ bits ∧ bits ≤ 8
      · exact hb
      · exact absurd (.inl (ones_none hb)) h
    obtain ⟨h2, h3⟩ := ones_some hb.1 hb.2
    exact put_any first bits n w h0 h1 h2 h3 (by omega) (by omega)

theorem rput_all (first bits n : Int) (w : World) (h0 : 0 ≤ first) (h1 : first < 256) :
    Calls Tryd.prog 35 #[.int .u8 first, .int .i64 bits, .int .i64 n] w (PutPost (putR first bits n) w) := by
  by_cases h : 1 ≤ bits ∧ bits ≤ 8 ∧ 0 ≤ n ∧ n ≤ 2147483647
  · exact rput_any first bits n w h0 h1 h.1 h.2.1 h.2.2.1 h.2.2.2
  · exact rput_bad first bits n w h

set_option maxHeartbeats 1000000 in
set_option maxRecDepth 100000 in
theorem get_all (A : Option Addr) (n c : Nat) (l : List UInt8) (bits : Int) (w : World) (h : Bs w A n l) (hn : n ≤ 9223372036854775807) :
    Calls Tryd.prog 69 #[.slice A n c, .int .i64 bits] w (GetPost (getR l bits) w) := by
  by_cases hb : 1 ≤ bits ∧ bits ≤ 8
  · exact get_any A n c l bits w h hn hb.1 hb.2
  · have hR : Hid (getR l bits = (0, 0, 1)) := hid (by unfold getR; rw [if_pos (ones_none hb)])
    have HO := hid (ones_none hb)
    clear hb h
    go_enter Tryd.func69, Tryd.ntmps69
    go_wp2_with fail
    refine wp_scope_jumps 0 (fun _ _ => False) (fun _ _ => 0) rfl ?_ (fun _ _ h => h.elim)
    go_wp2_with fail
    refine (ones_any bits w).mono ?_
    rw [HO.out]
    rintro e w' ⟨rfl, rfl⟩
    go_wp2_with fail
    simp only [Exit.jump]
    go_ret3
    rw [hR.out]
    exact ⟨rfl, rfl⟩


theorem put_1337 : putR 0 5 1337 = ([0x1f, 0x9a, 0x0a], 0) := by decide +kernel

end Go.Proofs.YtjeocmglcgnclaaDoor
