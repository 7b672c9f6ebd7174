/- Integers with a prefix, read: each call once. -/
import Derived.Test.YtbbjhmhinbmhgaaPint
namespace Go.Proofs.Ytbbjhmhinbmhgaa
open Go.RowKit

/-- Get behind the first byte. -/
def getG : Nat → List UInt8 → Nat → Nat → Nat × Nat × Int
  | 0, _, _, _ => (0, 0, 1)
  | q + 1, l, i, m =>
    match l[i]? with
    | none => (0, 0, 4)
    | some x => if 2147483647 < m + x.toNat % 128 * 128 ^ (i - 1) then (0, 0, 1) else if x.toNat < 128 then (m + x.toNat % 128 * 128 ^ (i - 1), i + 1, 0) else getG q l (i + 1) (m + x.toNat % 128 * 128 ^ (i - 1))
/-- What Get answers. -/
def getR (l : List UInt8) (bits : Int) : Nat × Nat × Int :=
  if onesN bits = 0 then (0, 0, 1)
  else match l[0]? with
    | none => (0, 0, 4)
    | some x => if x.toNat % ((onesN bits).toNat + 1) < (onesN bits).toNat then (x.toNat % ((onesN bits).toNat + 1), 1, 0) else getG 5 l 1 (x.toNat % ((onesN bits).toNat + 1))
def GetPost (r : Nat × Nat × Int) (w : World) (e : Ending) (w' : World) : Prop := e = .returned (.tuple #[.int .i64 (r.1 : Nat), .int .i64 (r.2.1 : Nat), .int .i64 r.2.2]) ∧ w = w'

theorem getG_none {q i m : Nat} {l : List UInt8} (h : l[i]? = none) : getG (q + 1) l i m = (0, 0, 4) := by unfold getG; rw [h]
theorem getG_some {q i m : Nat} {l : List UInt8} {x : UInt8} (h : l[i]? = some x) : getG (q + 1) l i m = if 2147483647 < m + x.toNat % 128 * 128 ^ (i - 1) then (0, 0, 1) else if x.toNat < 128 then (m + x.toNat % 128 * 128 ^ (i - 1), i + 1, 0) else getG q l (i + 1) (m + x.toNat % 128 * 128 ^ (i - 1)) := by
  rw [getG, h]
theorem u8_and127 (x : UInt8) : Go.bits .and .u8 (x.toNat : Int) 127 = (x.toNat : Int) % 128 := by
  have hx := x.toNat_lt
  have h1 := Go.u8_and_nat x.toNat 127 hx (by omega)
  rw [show (127 : Int) = ((127 : Nat) : Int) by omega, h1, Nat.and_two_pow_sub_one_eq_mod _ 7]
  omega
theorem and_ones (x : UInt8) {bits : Int} (h1 : 1 ≤ bits) (h2 : bits ≤ 8) : Go.bits .and .i64 (x.toNat : Int) (onesN bits) = ((x.toNat % ((onesN bits).toNat + 1) : Nat) : Int) := by
  have hx := x.toNat_lt
  have h3 : bits = 1 ∨ bits = 2 ∨ bits = 3 ∨ bits = 4 ∨ bits = 5 ∨ bits = 6 ∨ bits = 7 ∨ bits = 8 := by omega
  have key : ∀ k : Nat, k ≤ 8 → Go.bits .and .i64 (x.toNat : Int) ((2 ^ k - 1 : Nat) : Int) = ((x.toNat % 2 ^ k : Nat) : Int) := fun k hk => by
    have h4 : 2 ^ k ≤ 2 ^ 8 := Nat.pow_le_pow_right (by omega) hk
    rw [i64_and _ _ (by omega) (by omega), Nat.and_two_pow_sub_one_eq_mod]
  rcases h3 with rfl | rfl | rfl | rfl | rfl | rfl | rfl | rfl
  · exact key 1 (by omega)
  · exact key 2 (by omega)
  · exact key 3 (by omega)
  · exact key 4 (by omega)
  · exact key 5 (by omega)
  · exact key 6 (by omega)
  · exact key 7 (by omega)
  · exact key 8 (by omega)

set_option maxHeartbeats 1000000 in
set_option maxRecDepth 100000 in
theorem get_any (A : Option Addr) (n c : Nat) (l : List UInt8) (bits : Int) (w : World) (h : Bs w A n l) (hn : n ≤ 9223372036854775807) (hb1 : 1 ≤ bits) (hb2 : bits ≤ 8) :
    Calls Try.prog 10 #[.slice A n c, .int .i64 bits] w (GetPost (getR l bits) w) := by
  obtain ⟨hf1, hf2⟩ := ones_some hb1 hb2
  have hand := fun x : UInt8 => and_ones x hb1 hb2
  have HAND := hid hand
  have HR : Hid (getR l bits = match l[0]? with | none => (0, 0, 4) | some x => if x.toNat % ((onesN bits).toNat + 1) < (onesN bits).toNat then (x.toNat % ((onesN bits).toNat + 1), 1, 0) else getG 5 l 1 (x.toNat % ((onesN bits).toNat + 1))) := hid (by unfold getR; rw [if_neg (by omega)])
  generalize hff : onesN bits = f at hf1 hf2 HAND HR
  have HF := hid hff
  clear hff hand
  have hf0 : (f == 0) = false := by
    rw [beq_eq_false_iff_ne]
    omega
  have H := hid h
  clear h
  have HL := hid H.out.len
  rcases n with _ | n
  · go_enter Try.func10, Try.ntmps10
    go_wp2_with fail
    refine wp_scope_jumps 0 (fun _ _ => False) (fun _ _ => 0) rfl ?_ (fun _ _ h => h.elim)
    go_wp2_with fail
    refine (ones_any bits w).mono ?_
    rw [HF.out]
    rintro e w' ⟨rfl, rfl⟩
    go_wp2_with fail
    simp only [Exit.jump]
    go_ret3
    rw [HR.out, H.out.zero]
    exact ⟨rfl, rfl⟩
  · obtain ⟨b, o, x, rfl, hx, hc⟩ := H.out.at_ (i := 0) (by omega)
    have HX := hid hx
    clear hx
    unfold bv at hc
    rw [Nat.add_zero] at hc
    have hxl := x.toNat_lt
    have hv := HAND.out x
    have HR2 : Hid (getR l bits = if x.toNat % (f.toNat + 1) < f.toNat then (x.toNat % (f.toNat + 1), 1, 0) else getG 5 l 1 (x.toNat % (f.toNat + 1))) := hid (by rw [HR.out, HX.out])
    have hvb : x.toNat % (f.toNat + 1) < 256 := Nat.lt_of_le_of_lt (Nat.mod_le _ _) (by omega)
    generalize x.toNat % (f.toNat + 1) = v at hv HR2 hvb
    have hn0 : (((n + 1 : Nat) : Int) == 0) = false := by
      rw [beq_eq_false_iff_ne]
      omega
    by_cases hvf : v < f.toNat
    · have hvi : (v : Int) < f := by omega
      go_enter Try.func10, Try.ntmps10
      go_wp2_with fail
      refine wp_scope_jumps 0 (fun _ _ => False) (fun _ _ => 0) rfl ?_ (fun _ _ h => h.elim)
      go_wp2_with fail
      refine (ones_any bits w).mono ?_
      rw [HF.out]
      rintro e w' ⟨rfl, rfl⟩
      go_wp2_with fail
      simp only [Exit.jump]
      go_ret3
      rw [HR2.out, if_pos hvf]
      exact ⟨rfl, rfl⟩
    · have hvi : ¬ (v : Int) < f := by omega
      go_enter Try.func10, Try.ntmps10
      go_wp2_with fail
      refine wp_scope_jumps 0 (fun a' w' => ∃ (m i : Nat), (∃ us : Nat → Value, a' = { tmps := #[.slice (some ⟨b, o, none⟩) (n + 1) c, .int .i64 bits, us 2, us 3, .int .i64 0, .int .i64 0, .int .i64 0, .int .i64 f, .int .i64 m, .int .i64 (i : Nat), us 10, us 11, us 12, us 13, us 14, us 15, us 16, us 17, us 18, us 19, us 20, us 21, us 22, us 23, us 24, us 25, us 26, us 27, us 28, us 29, us 30, us 31, us 32, us 33, us 34, us 35, us 36, us 37, us 38, us 39, us 40, us 41, us 42, us 43, us 44, us 45, us 46, us 47, us 48, us 49, us 50, us 51, us 52, us 53, us 54, us 55, us 56, us 57, us 58, us 59, us 60, us 61, us 62, us 63, us 64, us 65, us 66, us 67], defers := [] }) ∧
        w = w' ∧ m ≤ 2147483647 ∧ 1 ≤ i ∧ i ≤ 5 ∧ i ≤ n + 1 ∧ getG (6 - i) l i m = getR l bits) (fun a' _ => (6 - intOf (a'.tmps.getD 9 undef)).toNat) rfl ?_ ?_
      · go_wp2_with fail
        refine (ones_any bits w).mono ?_
        rw [HF.out]
        rintro e w' ⟨rfl, rfl⟩
        go_wp2_with fail
        go_step3
        have HG : getR l bits = getG (6 - 1) l 1 v := by rw [HR2.out, if_neg hvf]
        replace HG := hid HG
        rcases hl : l[1]? with _ | y
        · obtain rfl : n = 0 := by
            have := List.getElem?_eq_none_iff.1 hl
            have := HL.out
            omega
          have e1 : Hid (getG (6 - 1) l 1 v = (0, 0, 4)) := hid (getG_none (q := 4) hl)
          clear hl
          go_wp2_with fail
          simp only [Exit.jump]
          go_ret3
          rw [HG.out, e1.out]
          exact ⟨rfl, rfl⟩
        · have hin : 1 < n + 1 := by
            have := (List.getElem?_eq_some_iff.1 hl).1
            have := HL.out
            omega
          obtain ⟨b', o', y', hA, hy, hcy⟩ := H.out.at_ (i := 1) hin
          injection hA with hA
          injection hA with hA1 hA2
          subst hA1 hA2
          rw [hl] at hy
          injection hy with hy
          subst hy
          unfold bv at hcy
          have hyl := y.toNat_lt
          have hand := u8_and127 y
          have e0 := getG_some (q := 4) (m := v) hl
          rw [show 128 ^ (1 - 1) = 1 by rfl] at e0
          obtain ⟨m', hm'⟩ : ∃ m' : Nat, v + y.toNat % 128 * 1 = m' := ⟨_, rfl⟩
          rw [hm'] at e0
          have hmi : ((v : Nat) : Int) + (y.toNat : Int) % 128 = (m' : Int) := by omega
          have E0 := hid e0
          have hne : (((n : Nat) : Int) + 1 == 1) = false := by
            rw [beq_eq_false_iff_ne]
            omega
          have hne2 : ((1 : Int) == (n : Int) + 1) = false := by
            rw [beq_eq_false_iff_ne]
            omega
          clear hl e0 hm'
          by_cases h1 : 2147483647 < m'
          · have h1i : decide (2147483647 < (m' : Int)) = true := decide_eq_true (by omega)
            have e1 : Hid (getG (6 - 1) l 1 v = (0, 0, 1)) := hid (by rw [show 6 - 1 = 4 + 1 by rfl, E0.out, if_pos h1])
            go_wp2_with fail
            simp only [Exit.jump]
            go_ret3
            rw [HG.out, e1.out]
            exact ⟨rfl, rfl⟩
          · have h1i : decide (2147483647 < (m' : Int)) = false := decide_eq_false (by omega)
            by_cases h2 : y.toNat < 128
            · have h2i : decide (128 ≤ y.toNat) = false := decide_eq_false (by omega)
              have e1 : Hid (getG (6 - 1) l 1 v = (m', 2, 0)) := hid (by rw [show 6 - 1 = 4 + 1 by rfl, E0.out, if_neg h1, if_pos h2])
              go_wp2_with fail
              simp only [Exit.jump]
              go_ret3
              rw [HG.out, e1.out]
              exact ⟨rfl, rfl⟩
            · have h2i : decide (128 ≤ y.toNat) = true := decide_eq_true (by omega)
              have e1 : Hid (getG (6 - 1) l 1 v = getG (6 - 2) l 2 m') := hid (by rw [show 6 - 1 = 4 + 1 by rfl, E0.out, if_neg h1, if_neg h2])
              go_wp2_with fail
              go_step3
              exact ⟨rfl, m', 2, frame_any _ rfl, rfl, by omega, by omega, by omega, by omega, by rw [← e1.out]; exact HG.out.symm⟩
      · rintro a' w' ⟨m, i, ⟨us, rfl⟩, rfl, hm, hi1, hi5, hin, hg⟩
        have hi : i = 1 ∨ i = 2 ∨ i = 3 ∨ i = 4 ∨ i = 5 := by omega
        rcases hi with rfl | rfl | rfl | rfl | rfl
        · have HG := hid hg.symm
          have hin0 := hin
          clear hg hin
          rcases hl : l[1]? with _ | y
          · obtain rfl : n = 0 := by
              have := List.getElem?_eq_none_iff.1 hl
              have := HL.out
              omega
            have e1 : Hid (getG (6 - 1) l 1 m = (0, 0, 4)) := hid (getG_none (q := 4) hl)
            clear hl
            go_wp2_with fail
            simp only [Exit.jump]
            go_ret3
            rw [HG.out, e1.out]
            exact ⟨rfl, rfl⟩
          · have hin : 1 < n + 1 := by
              have := (List.getElem?_eq_some_iff.1 hl).1
              have := HL.out
              omega
            obtain ⟨b', o', y', hA, hy, hcy⟩ := H.out.at_ (i := 1) hin
            injection hA with hA
            injection hA with hA1 hA2
            subst hA1 hA2
            rw [hl] at hy
            injection hy with hy
            subst hy
            unfold bv at hcy
            have hyl := y.toNat_lt
            have hand := u8_and127 y
            have e0 := getG_some (q := 4) (m := m) hl
            rw [show 128 ^ (1 - 1) = 1 by rfl] at e0
            obtain ⟨m', hm'⟩ : ∃ m' : Nat, m + y.toNat % 128 * 1 = m' := ⟨_, rfl⟩
            rw [hm'] at e0
            have hmi : ((m : Nat) : Int) + (y.toNat : Int) % 128 = (m' : Int) := by omega
            have E0 := hid e0
            have hne : (((n : Nat) : Int) + 1 == 1) = false := by
              rw [beq_eq_false_iff_ne]
              omega
            have hne2 : ((1 : Int) == (n : Int) + 1) = false := by
              rw [beq_eq_false_iff_ne]
              omega
            clear hl e0 hm'
            by_cases h1 : 2147483647 < m'
            · have h1i : decide (2147483647 < (m' : Int)) = true := decide_eq_true (by omega)
              have e1 : Hid (getG (6 - 1) l 1 m = (0, 0, 1)) := hid (by rw [show 6 - 1 = 4 + 1 by rfl, E0.out, if_pos h1])
              go_wp2_with fail
              simp only [Exit.jump]
              go_ret3
              rw [HG.out, e1.out]
              exact ⟨rfl, rfl⟩
            · have h1i : decide (2147483647 < (m' : Int)) = false := decide_eq_false (by omega)
              by_cases h2 : y.toNat < 128
              · have h2i : decide (128 ≤ y.toNat) = false := decide_eq_false (by omega)
                have e1 : Hid (getG (6 - 1) l 1 m = (m', 2, 0)) := hid (by rw [show 6 - 1 = 4 + 1 by rfl, E0.out, if_neg h1, if_pos h2])
                go_wp2_with fail
                simp only [Exit.jump]
                go_ret3
                rw [HG.out, e1.out]
                exact ⟨rfl, rfl⟩
              · have h2i : decide (128 ≤ y.toNat) = true := decide_eq_true (by omega)
                have e1 : Hid (getG (6 - 1) l 1 m = getG (6 - 2) l 2 m') := hid (by rw [show 6 - 1 = 4 + 1 by rfl, E0.out, if_neg h1, if_neg h2])
                go_wp2_with fail
                go_step3
                exact ⟨rfl, ⟨m', 2, frame_any _ rfl, rfl, by omega, by omega, by omega, by omega, by rw [← e1.out]; exact HG.out.symm⟩, by simp [intOf]⟩
        · have HG := hid hg.symm
          have hin0 := hin
          clear hg hin
          rcases hl : l[2]? with _ | y
          · obtain rfl : n = 1 := by
              have := List.getElem?_eq_none_iff.1 hl
              have := HL.out
              omega
            have e1 : Hid (getG (6 - 2) l 2 m = (0, 0, 4)) := hid (getG_none (q := 3) hl)
            clear hl
            go_wp2_with fail
            simp only [Exit.jump]
            go_ret3
            rw [HG.out, e1.out]
            exact ⟨rfl, rfl⟩
          · have hin : 2 < n + 1 := by
              have := (List.getElem?_eq_some_iff.1 hl).1
              have := HL.out
              omega
            obtain ⟨b', o', y', hA, hy, hcy⟩ := H.out.at_ (i := 2) hin
            injection hA with hA
            injection hA with hA1 hA2
            subst hA1 hA2
            rw [hl] at hy
            injection hy with hy
            subst hy
            unfold bv at hcy
            have hyl := y.toNat_lt
            have hand := u8_and127 y
            have e0 := getG_some (q := 3) (m := m) hl
            rw [show 128 ^ (2 - 1) = 128 by rfl] at e0
            obtain ⟨m', hm'⟩ : ∃ m' : Nat, m + y.toNat % 128 * 128 = m' := ⟨_, rfl⟩
            rw [hm'] at e0
            have hmi : ((m : Nat) : Int) + (y.toNat : Int) % 128 * 128 = (m' : Int) := by omega
            have E0 := hid e0
            have hne : (((n : Nat) : Int) + 1 == 2) = false := by
              rw [beq_eq_false_iff_ne]
              omega
            have hne2 : ((2 : Int) == (n : Int) + 1) = false := by
              rw [beq_eq_false_iff_ne]
              omega
            clear hl e0 hm'
            by_cases h1 : 2147483647 < m'
            · have h1i : decide (2147483647 < (m' : Int)) = true := decide_eq_true (by omega)
              have e1 : Hid (getG (6 - 2) l 2 m = (0, 0, 1)) := hid (by rw [show 6 - 2 = 3 + 1 by rfl, E0.out, if_pos h1])
              go_wp2_with fail
              simp only [Exit.jump]
              go_ret3
              rw [HG.out, e1.out]
              exact ⟨rfl, rfl⟩
            · have h1i : decide (2147483647 < (m' : Int)) = false := decide_eq_false (by omega)
              by_cases h2 : y.toNat < 128
              · have h2i : decide (128 ≤ y.toNat) = false := decide_eq_false (by omega)
                have e1 : Hid (getG (6 - 2) l 2 m = (m', 3, 0)) := hid (by rw [show 6 - 2 = 3 + 1 by rfl, E0.out, if_neg h1, if_pos h2])
                go_wp2_with fail
                simp only [Exit.jump]
                go_ret3
                rw [HG.out, e1.out]
                exact ⟨rfl, rfl⟩
              · have h2i : decide (128 ≤ y.toNat) = true := decide_eq_true (by omega)
                have e1 : Hid (getG (6 - 2) l 2 m = getG (6 - 3) l 3 m') := hid (by rw [show 6 - 2 = 3 + 1 by rfl, E0.out, if_neg h1, if_neg h2])
                go_wp2_with fail
                go_step3
                exact ⟨rfl, ⟨m', 3, frame_any _ rfl, rfl, by omega, by omega, by omega, by omega, by rw [← e1.out]; exact HG.out.symm⟩, by simp [intOf]⟩
        · have HG := hid hg.symm
          have hin0 := hin
          clear hg hin
          rcases hl : l[3]? with _ | y
          · obtain rfl : n = 2 := by
              have := List.getElem?_eq_none_iff.1 hl
              have := HL.out
              omega
            have e1 : Hid (getG (6 - 3) l 3 m = (0, 0, 4)) := hid (getG_none (q := 2) hl)
            clear hl
            go_wp2_with fail
            simp only [Exit.jump]
            go_ret3
            rw [HG.out, e1.out]
            exact ⟨rfl, rfl⟩
          · have hin : 3 < n + 1 := by
              have := (List.getElem?_eq_some_iff.1 hl).1
              have := HL.out
              omega
            obtain ⟨b', o', y', hA, hy, hcy⟩ := H.out.at_ (i := 3) hin
            injection hA with hA
            injection hA with hA1 hA2
            subst hA1 hA2
            rw [hl] at hy
            injection hy with hy
            subst hy
            unfold bv at hcy
            have hyl := y.toNat_lt
            have hand := u8_and127 y
            have e0 := getG_some (q := 2) (m := m) hl
            rw [show 128 ^ (3 - 1) = 16384 by rfl] at e0
            obtain ⟨m', hm'⟩ : ∃ m' : Nat, m + y.toNat % 128 * 16384 = m' := ⟨_, rfl⟩
            rw [hm'] at e0
            have hmi : ((m : Nat) : Int) + (y.toNat : Int) % 128 * 16384 = (m' : Int) := by omega
            have E0 := hid e0
            have hne : (((n : Nat) : Int) + 1 == 3) = false := by
              rw [beq_eq_false_iff_ne]
              omega
            have hne2 : ((3 : Int) == (n : Int) + 1) = false := by
              rw [beq_eq_false_iff_ne]
              omega
            clear hl e0 hm'
            by_cases h1 : 2147483647 < m'
            · have h1i : decide (2147483647 < (m' : Int)) = true := decide_eq_true (by omega)
              have e1 : Hid (getG (6 - 3) l 3 m = (0, 0, 1)) := hid (by rw [show 6 - 3 = 2 + 1 by rfl, E0.out, if_pos h1])
              go_wp2_with fail
              simp only [Exit.jump]
              go_ret3
              rw [HG.out, e1.out]
              exact ⟨rfl, rfl⟩
            · have h1i : decide (2147483647 < (m' : Int)) = false := decide_eq_false (by omega)
              by_cases h2 : y.toNat < 128
              · have h2i : decide (128 ≤ y.toNat) = false := decide_eq_false (by omega)
                have e1 : Hid (getG (6 - 3) l 3 m = (m', 4, 0)) := hid (by rw [show 6 - 3 = 2 + 1 by rfl, E0.out, if_neg h1, if_pos h2])
                go_wp2_with fail
                simp only [Exit.jump]
                go_ret3
                rw [HG.out, e1.out]
                exact ⟨rfl, rfl⟩
              · have h2i : decide (128 ≤ y.toNat) = true := decide_eq_true (by omega)
                have e1 : Hid (getG (6 - 3) l 3 m = getG (6 - 4) l 4 m') := hid (by rw [show 6 - 3 = 2 + 1 by rfl, E0.out, if_neg h1, if_neg h2])
                go_wp2_with fail
                go_step3
                exact ⟨rfl, ⟨m', 4, frame_any _ rfl, rfl, by omega, by omega, by omega, by omega, by rw [← e1.out]; exact HG.out.symm⟩, by simp [intOf]⟩
        · have HG := hid hg.symm
          have hin0 := hin
          clear hg hin
          rcases hl : l[4]? with _ | y
          · obtain rfl : n = 3 := by
              have := List.getElem?_eq_none_iff.1 hl
              have := HL.out
              omega
            have e1 : Hid (getG (6 - 4) l 4 m = (0, 0, 4)) := hid (getG_none (q := 1) hl)
            clear hl
            go_wp2_with fail
            simp only [Exit.jump]
            go_ret3
            rw [HG.out, e1.out]
            exact ⟨rfl, rfl⟩
          · have hin : 4 < n + 1 := by
              have := (List.getElem?_eq_some_iff.1 hl).1
              have := HL.out
              omega
            obtain ⟨b', o', y', hA, hy, hcy⟩ := H.out.at_ (i := 4) hin
            injection hA with hA
            injection hA with hA1 hA2
            subst hA1 hA2
            rw [hl] at hy
            injection hy with hy
            subst hy
            unfold bv at hcy
            have hyl := y.toNat_lt
            have hand := u8_and127 y
            have e0 := getG_some (q := 1) (m := m) hl
            rw [show 128 ^ (4 - 1) = 2097152 by rfl] at e0
            obtain ⟨m', hm'⟩ : ∃ m' : Nat, m + y.toNat % 128 * 2097152 = m' := ⟨_, rfl⟩
            rw [hm'] at e0
            have hmi : ((m : Nat) : Int) + (y.toNat : Int) % 128 * 2097152 = (m' : Int) := by omega
            have E0 := hid e0
            have hne : (((n : Nat) : Int) + 1 == 4) = false := by
              rw [beq_eq_false_iff_ne]
              omega
            have hne2 : ((4 : Int) == (n : Int) + 1) = false := by
              rw [beq_eq_false_iff_ne]
              omega
            clear hl e0 hm'
            by_cases h1 : 2147483647 < m'
            · have h1i : decide (2147483647 < (m' : Int)) = true := decide_eq_true (by omega)
              have e1 : Hid (getG (6 - 4) l 4 m = (0, 0, 1)) := hid (by rw [show 6 - 4 = 1 + 1 by rfl, E0.out, if_pos h1])
              go_wp2_with fail
              simp only [Exit.jump]
              go_ret3
              rw [HG.out, e1.out]
              exact ⟨rfl, rfl⟩
            · have h1i : decide (2147483647 < (m' : Int)) = false := decide_eq_false (by omega)
              by_cases h2 : y.toNat < 128
              · have h2i : decide (128 ≤ y.toNat) = false := decide_eq_false (by omega)
                have e1 : Hid (getG (6 - 4) l 4 m = (m', 5, 0)) := hid (by rw [show 6 - 4 = 1 + 1 by rfl, E0.out, if_neg h1, if_pos h2])
                go_wp2_with fail
                simp only [Exit.jump]
                go_ret3
                rw [HG.out, e1.out]
                exact ⟨rfl, rfl⟩
              · have h2i : decide (128 ≤ y.toNat) = true := decide_eq_true (by omega)
                have e1 : Hid (getG (6 - 4) l 4 m = getG (6 - 5) l 5 m') := hid (by rw [show 6 - 4 = 1 + 1 by rfl, E0.out, if_neg h1, if_neg h2])
                go_wp2_with fail
                go_step3
                exact ⟨rfl, ⟨m', 5, frame_any _ rfl, rfl, by omega, by omega, by omega, by omega, by rw [← e1.out]; exact HG.out.symm⟩, by simp [intOf]⟩
        · have HG := hid hg.symm
          have hin0 := hin
          clear hg hin
          rcases hl : l[5]? with _ | y
          · obtain rfl : n = 4 := by
              have := List.getElem?_eq_none_iff.1 hl
              have := HL.out
              omega
            have e1 : Hid (getG (6 - 5) l 5 m = (0, 0, 4)) := hid (getG_none (q := 0) hl)
            clear hl
            go_wp2_with fail
            simp only [Exit.jump]
            go_ret3
            rw [HG.out, e1.out]
            exact ⟨rfl, rfl⟩
          · have hin : 5 < n + 1 := by
              have := (List.getElem?_eq_some_iff.1 hl).1
              have := HL.out
              omega
            obtain ⟨b', o', y', hA, hy, hcy⟩ := H.out.at_ (i := 5) hin
            injection hA with hA
            injection hA with hA1 hA2
            subst hA1 hA2
            rw [hl] at hy
            injection hy with hy
            subst hy
            unfold bv at hcy
            have hyl := y.toNat_lt
            have hand := u8_and127 y
            have e0 := getG_some (q := 0) (m := m) hl
            rw [show 128 ^ (5 - 1) = 268435456 by rfl] at e0
            obtain ⟨m', hm'⟩ : ∃ m' : Nat, m + y.toNat % 128 * 268435456 = m' := ⟨_, rfl⟩
            rw [hm'] at e0
            have hmi : ((m : Nat) : Int) + (y.toNat : Int) % 128 * 268435456 = (m' : Int) := by omega
            have E0 := hid e0
            have hne : (((n : Nat) : Int) + 1 == 5) = false := by
              rw [beq_eq_false_iff_ne]
              omega
            have hne2 : ((5 : Int) == (n : Int) + 1) = false := by
              rw [beq_eq_false_iff_ne]
              omega
            clear hl e0 hm'
            by_cases h1 : 2147483647 < m'
            · have h1i : decide (2147483647 < (m' : Int)) = true := decide_eq_true (by omega)
              have e1 : Hid (getG (6 - 5) l 5 m = (0, 0, 1)) := hid (by rw [show 6 - 5 = 0 + 1 by rfl, E0.out, if_pos h1])
              go_wp2_with fail
              simp only [Exit.jump]
              go_ret3
              rw [HG.out, e1.out]
              exact ⟨rfl, rfl⟩
            · have h1i : decide (2147483647 < (m' : Int)) = false := decide_eq_false (by omega)
              by_cases h2 : y.toNat < 128
              · have h2i : decide (128 ≤ y.toNat) = false := decide_eq_false (by omega)
                have e1 : Hid (getG (6 - 5) l 5 m = (m', 6, 0)) := hid (by rw [show 6 - 5 = 0 + 1 by rfl, E0.out, if_neg h1, if_pos h2])
                go_wp2_with fail
                simp only [Exit.jump]
                go_ret3
                rw [HG.out, e1.out]
                exact ⟨rfl, rfl⟩
              · have h2i : decide (128 ≤ y.toNat) = true := decide_eq_true (by omega)
                have e1 : Hid (getG (6 - 5) l 5 m = (0, 0, 1)) := hid (by rw [show 6 - 5 = 0 + 1 by rfl, E0.out, if_neg h1, if_neg h2]; rfl)
                go_wp2_with fail
                simp only [Exit.jump]
                go_ret3
                rw [HG.out, e1.out]
                exact ⟨rfl, rfl⟩

set_option maxHeartbeats 1000000 in
set_option maxRecDepth 100000 in
theorem rget_any (A : Option Addr) (n c : Nat) (l : List UInt8) (bits : Int) (w : World) (h : Bs w A n l) (hn : n ≤ 9223372036854775807) (hb1 : 1 ≤ bits) (hb2 : bits ≤ 8) :
    Calls Try.prog 11 #[.slice A n c, .int .i64 bits] w (GetPost (getR l bits) w) := by
  obtain ⟨hf1, hf2⟩ := ones_some hb1 hb2
  have hpw := ones_pow hb1 hb2
  have hand := fun x : UInt8 => and_ones x hb1 hb2
  have HAND := hid hand
  have HR : Hid (getR l bits = match l[0]? with | none => (0, 0, 4) | some x => if x.toNat % ((onesN bits).toNat + 1) < (onesN bits).toNat then (x.toNat % ((onesN bits).toNat + 1), 1, 0) else getG 5 l 1 (x.toNat % ((onesN bits).toNat + 1))) := hid (by unfold getR; rw [if_neg (by omega)])
  generalize hff : onesN bits = f at hf1 hf2 HAND HR hpw
  clear hff hand
  have H := hid h
  clear h
  have HL := hid H.out.len
  have hg0 : decide (bits < 1) = false := decide_eq_false (by omega)
  have hg3 : decide (8 < bits) = false := decide_eq_false (by omega)
  rcases n with _ | n
  · go_enter Try.func11, Try.ntmps11
    go_wp2_with fail
    go_ret3
    rw [HR.out, H.out.zero]
    exact ⟨rfl, rfl⟩
  · obtain ⟨b, o, x, rfl, hx, hc⟩ := H.out.at_ (i := 0) (by omega)
    have HX := hid hx
    clear hx
    unfold bv at hc
    rw [Nat.add_zero] at hc
    have hxl := x.toNat_lt
    have hv := HAND.out x
    have HR2 : Hid (getR l bits = if x.toNat % (f.toNat + 1) < f.toNat then (x.toNat % (f.toNat + 1), 1, 0) else getG 5 l 1 (x.toNat % (f.toNat + 1))) := hid (by rw [HR.out, HX.out])
    have hvb : x.toNat % (f.toNat + 1) < 256 := Nat.lt_of_le_of_lt (Nat.mod_le _ _) (by omega)
    generalize x.toNat % (f.toNat + 1) = v at hv HR2 hvb
    have hn0 : (((n + 1 : Nat) : Int) == 0) = false := by
      rw [beq_eq_false_iff_ne]
      omega
    by_cases hvf : v < f.toNat
    · have hvi : (v : Int) < f := by omega
      go_enter Try.func11, Try.ntmps11
      go_wp2_with fail
      go_ret3
      rw [HR2.out, if_pos hvf]
      exact ⟨rfl, rfl⟩
    · have hvi : ¬ (v : Int) < f := by omega
      go_enter Try.func11, Try.ntmps11
      go_wp2_with fail
      have hGG : getG (6 - 1) l 1 v = getR l bits := by rw [HR2.out, if_neg hvf]
      have HGG := hid hGG
      clear hGG
      go_loop [8, 9] (fun s t => ∃ (m i : Nat), s = .int .i64 m ∧ t = .int .i64 i ∧ m ≤ 2147483647 ∧ 1 ≤ i ∧ i ≤ 6 ∧ i ≤ n + 1 ∧ getG (6 - i) l i m = getR l bits) (fun _ t => (6 - intOf t).toNat)
      case atStart => exact ⟨v, 1, rfl, rfl, by omega, by omega, by omega, by omega, HGG.out⟩
      case round =>
        obtain ⟨m, i, rfl, rfl, hm, hi1, hi5, hin, hg⟩ := hrel
        have hi : i = 1 ∨ i = 2 ∨ i = 3 ∨ i = 4 ∨ i = 5 ∨ i = 6 := by omega
        rcases hi with rfl | rfl | rfl | rfl | rfl | rfl
        · have HG := hid hg.symm
          have hin0 := hin
          clear hg hin
          rcases hl : l[1]? with _ | y
          · have hlt : ((n : Nat) : Int) + 1 ≤ 1 := by
              have := List.getElem?_eq_none_iff.1 hl
              have := HL.out
              omega
            have e1 : Hid (getG (6 - 1) l 1 m = (0, 0, 4)) := hid (getG_none (q := 4) hl)
            clear hl
            go_wp2_with fail
            go_ret3
            rw [HG.out, e1.out]
            exact ⟨rfl, rfl⟩
          · have hin : 1 < n + 1 := by
              have := (List.getElem?_eq_some_iff.1 hl).1
              have := HL.out
              omega
            obtain ⟨b', o', y', hA, hy, hcy⟩ := H.out.at_ (i := 1) hin
            injection hA with hA
            injection hA with hA1 hA2
            subst hA1 hA2
            rw [hl] at hy
            injection hy with hy
            subst hy
            unfold bv at hcy
            have hyl := y.toNat_lt
            have hand := u8_and127 y
            have e0 := getG_some (q := 4) (m := m) hl
            rw [show 128 ^ (1 - 1) = 1 by rfl] at e0
            obtain ⟨m', hm'⟩ : ∃ m' : Nat, m + y.toNat % 128 * 1 = m' := ⟨_, rfl⟩
            rw [hm'] at e0
            have hmi : ((m : Nat) : Int) + (y.toNat : Int) % 128 = (m' : Int) := by omega
            have E0 := hid e0
            clear hl e0 hm'
            by_cases h1 : 2147483647 < m'
            · have h1i : decide (2147483647 < (m' : Int)) = true := decide_eq_true (by omega)
              have e1 : Hid (getG (6 - 1) l 1 m = (0, 0, 1)) := hid (by rw [show 6 - 1 = 4 + 1 by rfl, E0.out, if_pos h1])
              go_wp2_with fail
              go_ret3
              rw [HG.out, e1.out]
              exact ⟨rfl, rfl⟩
            · have h1i : decide (2147483647 < (m' : Int)) = false := decide_eq_false (by omega)
              by_cases h2 : y.toNat < 128
              · have e1 : Hid (getG (6 - 1) l 1 m = (m', 2, 0)) := hid (by rw [show 6 - 1 = 4 + 1 by rfl, E0.out, if_neg h1, if_pos h2])
                go_wp2_with fail
                go_ret3
                rw [HG.out, e1.out]
                exact ⟨rfl, rfl⟩
              · have e1 : Hid (getG (6 - 1) l 1 m = getG (6 - 2) l 2 m') := hid (by rw [show 6 - 1 = 4 + 1 by rfl, E0.out, if_neg h1, if_neg h2])
                go_wp2_with fail
                go_round
                case rel => exact ⟨m', 2, rfl, rfl, by omega, by omega, by omega, by omega, by rw [← e1.out]; exact HG.out.symm⟩
                case measure => simp [intOf]
        · have HG := hid hg.symm
          have hin0 := hin
          clear hg hin
          rcases hl : l[2]? with _ | y
          · have hlt : ((n : Nat) : Int) + 1 ≤ 2 := by
              have := List.getElem?_eq_none_iff.1 hl
              have := HL.out
              omega
            have e1 : Hid (getG (6 - 2) l 2 m = (0, 0, 4)) := hid (getG_none (q := 3) hl)
            clear hl
            go_wp2_with fail
            go_ret3
            rw [HG.out, e1.out]
            exact ⟨rfl, rfl⟩
          · have hin : 2 < n + 1 := by
              have := (List.getElem?_eq_some_iff.1 hl).1
              have := HL.out
              omega
            obtain ⟨b', o', y', hA, hy, hcy⟩ := H.out.at_ (i := 2) hin
            injection hA with hA
            injection hA with hA1 hA2
            subst hA1 hA2
            rw [hl] at hy
            injection hy with hy
            subst hy
            unfold bv at hcy
            have hyl := y.toNat_lt
            have hand := u8_and127 y
            have e0 := getG_some (q := 3) (m := m) hl
            rw [show 128 ^ (2 - 1) = 128 by rfl] at e0
            obtain ⟨m', hm'⟩ : ∃ m' : Nat, m + y.toNat % 128 * 128 = m' := ⟨_, rfl⟩
            rw [hm'] at e0
            have hmi : ((m : Nat) : Int) + (y.toNat : Int) % 128 * 128 = (m' : Int) := by omega
            have E0 := hid e0
            clear hl e0 hm'
            by_cases h1 : 2147483647 < m'
            · have h1i : decide (2147483647 < (m' : Int)) = true := decide_eq_true (by omega)
              have e1 : Hid (getG (6 - 2) l 2 m = (0, 0, 1)) := hid (by rw [show 6 - 2 = 3 + 1 by rfl, E0.out, if_pos h1])
              go_wp2_with fail
              go_ret3
              rw [HG.out, e1.out]
              exact ⟨rfl, rfl⟩
            · have h1i : decide (2147483647 < (m' : Int)) = false := decide_eq_false (by omega)
              by_cases h2 : y.toNat < 128
              · have e1 : Hid (getG (6 - 2) l 2 m = (m', 3, 0)) := hid (by rw [show 6 - 2 = 3 + 1 by rfl, E0.out, if_neg h1, if_pos h2])
                go_wp2_with fail
                go_ret3
                rw [HG.out, e1.out]
                exact ⟨rfl, rfl⟩
              · have e1 : Hid (getG (6 - 2) l 2 m = getG (6 - 3) l 3 m') := hid (by rw [show 6 - 2 = 3 + 1 by rfl, E0.out, if_neg h1, if_neg h2])
                go_wp2_with fail
                go_round
                case rel => exact ⟨m', 3, rfl, rfl, by omega, by omega, by omega, by omega, by rw [← e1.out]; exact HG.out.symm⟩
                case measure => simp [intOf]
        · have HG := hid hg.symm
          have hin0 := hin
          clear hg hin
          rcases hl : l[3]? with _ | y
          · have hlt : ((n : Nat) : Int) + 1 ≤ 3 := by
              have := List.getElem?_eq_none_iff.1 hl
              have := HL.out
              omega
            have e1 : Hid (getG (6 - 3) l 3 m = (0, 0, 4)) := hid (getG_none (q := 2) hl)
            clear hl
            go_wp2_with fail
            go_ret3
            rw [HG.out, e1.out]
            exact ⟨rfl, rfl⟩
          · have hin : 3 < n + 1 := by
              have := (List.getElem?_eq_some_iff.1 hl).1
              have := HL.out
              omega
            obtain ⟨b', o', y', hA, hy, hcy⟩ := H.out.at_ (i := 3) hin
            injection hA with hA
            injection hA with hA1 hA2
            subst hA1 hA2
            rw [hl] at hy
            injection hy with hy
            subst hy
            unfold bv at hcy
            have hyl := y.toNat_lt
            have hand := u8_and127 y
            have e0 := getG_some (q := 2) (m := m) hl
            rw [show 128 ^ (3 - 1) = 16384 by rfl] at e0
            obtain ⟨m', hm'⟩ : ∃ m' : Nat, m + y.toNat % 128 * 16384 = m' := ⟨_, rfl⟩
            rw [hm'] at e0
            have hmi : ((m : Nat) : Int) + (y.toNat : Int) % 128 * 16384 = (m' : Int) := by omega
            have E0 := hid e0
            clear hl e0 hm'
            by_cases h1 : 2147483647 < m'
            · have h1i : decide (2147483647 < (m' : Int)) = true := decide_eq_true (by omega)
              have e1 : Hid (getG (6 - 3) l 3 m = (0, 0, 1)) := hid (by rw [show 6 - 3 = 2 + 1 by rfl, E0.out, if_pos h1])
              go_wp2_with fail
              go_ret3
              rw [HG.out, e1.out]
              exact ⟨rfl, rfl⟩
            · have h1i : decide (2147483647 < (m' : Int)) = false := decide_eq_false (by omega)
              by_cases h2 : y.toNat < 128
              · have e1 : Hid (getG (6 - 3) l 3 m = (m', 4, 0)) := hid (by rw [show 6 - 3 = 2 + 1 by rfl, E0.out, if_neg h1, if_pos h2])
                go_wp2_with fail
                go_ret3
                rw [HG.out, e1.out]
                exact ⟨rfl, rfl⟩
              · have e1 : Hid (getG (6 - 3) l 3 m = getG (6 - 4) l 4 m') := hid (by rw [show 6 - 3 = 2 + 1 by rfl, E0.out, if_neg h1, if_neg h2])
                go_wp2_with fail
                go_round
                case rel => exact ⟨m', 4, rfl, rfl, by omega, by omega, by omega, by omega, by rw [← e1.out]; exact HG.out.symm⟩
                case measure => simp [intOf]
        · have HG := hid hg.symm
          have hin0 := hin
          clear hg hin
          rcases hl : l[4]? with _ | y
          · have hlt : ((n : Nat) : Int) + 1 ≤ 4 := by
              have := List.getElem?_eq_none_iff.1 hl
              have := HL.out
              omega
            have e1 : Hid (getG (6 - 4) l 4 m = (0, 0, 4)) := hid (getG_none (q := 1) hl)
            clear hl
            go_wp2_with fail
            go_ret3
            rw [HG.out, e1.out]
            exact ⟨rfl, rfl⟩
          · have hin : 4 < n + 1 := by
              have := (List.getElem?_eq_some_iff.1 hl).1
              have := HL.out
              omega
            obtain ⟨b', o', y', hA, hy, hcy⟩ := H.out.at_ (i := 4) hin
            injection hA with hA
            injection hA with hA1 hA2
            subst hA1 hA2
            rw [hl] at hy
            injection hy with hy
            subst hy
            unfold bv at hcy
            have hyl := y.toNat_lt
            have hand := u8_and127 y
            have e0 := getG_some (q := 1) (m := m) hl
            rw [show 128 ^ (4 - 1) = 2097152 by rfl] at e0
            obtain ⟨m', hm'⟩ : ∃ m' : Nat, m + y.toNat % 128 * 2097152 = m' := ⟨_, rfl⟩
            rw [hm'] at e0
            have hmi : ((m : Nat) : Int) + (y.toNat : Int) % 128 * 2097152 = (m' : Int) := by omega
            have E0 := hid e0
            clear hl e0 hm'
            by_cases h1 : 2147483647 < m'
            · have h1i : decide (2147483647 < (m' : Int)) = true := decide_eq_true (by omega)
              have e1 : Hid (getG (6 - 4) l 4 m = (0, 0, 1)) := hid (by rw [show 6 - 4 = 1 + 1 by rfl, E0.out, if_pos h1])
              go_wp2_with fail
              go_ret3
              rw [HG.out, e1.out]
              exact ⟨rfl, rfl⟩
            · have h1i : decide (2147483647 < (m' : Int)) = false := decide_eq_false (by omega)
              by_cases h2 : y.toNat < 128
              · have e1 : Hid (getG (6 - 4) l 4 m = (m', 5, 0)) := hid (by rw [show 6 - 4 = 1 + 1 by rfl, E0.out, if_neg h1, if_pos h2])
                go_wp2_with fail
                go_ret3
                rw [HG.out, e1.out]
                exact ⟨rfl, rfl⟩
              · have e1 : Hid (getG (6 - 4) l 4 m = getG (6 - 5) l 5 m') := hid (by rw [show 6 - 4 = 1 + 1 by rfl, E0.out, if_neg h1, if_neg h2])
                go_wp2_with fail
                go_round
                case rel => exact ⟨m', 5, rfl, rfl, by omega, by omega, by omega, by omega, by rw [← e1.out]; exact HG.out.symm⟩
                case measure => simp [intOf]
        · have HG := hid hg.symm
          have hin0 := hin
          clear hg hin
          rcases hl : l[5]? with _ | y
          · have hlt : ((n : Nat) : Int) + 1 ≤ 5 := by
              have := List.getElem?_eq_none_iff.1 hl
              have := HL.out
              omega
            have e1 : Hid (getG (6 - 5) l 5 m = (0, 0, 4)) := hid (getG_none (q := 0) hl)
            clear hl
            go_wp2_with fail
            go_ret3
            rw [HG.out, e1.out]
            exact ⟨rfl, rfl⟩
          · have hin : 5 < n + 1 := by
              have := (List.getElem?_eq_some_iff.1 hl).1
              have := HL.out
              omega
            obtain ⟨b', o', y', hA, hy, hcy⟩ := H.out.at_ (i := 5) hin
            injection hA with hA
            injection hA with hA1 hA2
            subst hA1 hA2
            rw [hl] at hy
            injection hy with hy
            subst hy
            unfold bv at hcy
            have hyl := y.toNat_lt
            have hand := u8_and127 y
            have e0 := getG_some (q := 0) (m := m) hl
            rw [show 128 ^ (5 - 1) = 268435456 by rfl] at e0
            obtain ⟨m', hm'⟩ : ∃ m' : Nat, m + y.toNat % 128 * 268435456 = m' := ⟨_, rfl⟩
            rw [hm'] at e0
            have hmi : ((m : Nat) : Int) + (y.toNat : Int) % 128 * 268435456 = (m' : Int) := by omega
            have E0 := hid e0
            clear hl e0 hm'
            by_cases h1 : 2147483647 < m'
            · have h1i : decide (2147483647 < (m' : Int)) = true := decide_eq_true (by omega)
              have e1 : Hid (getG (6 - 5) l 5 m = (0, 0, 1)) := hid (by rw [show 6 - 5 = 0 + 1 by rfl, E0.out, if_pos h1])
              go_wp2_with fail
              go_ret3
              rw [HG.out, e1.out]
              exact ⟨rfl, rfl⟩
            · have h1i : decide (2147483647 < (m' : Int)) = false := decide_eq_false (by omega)
              by_cases h2 : y.toNat < 128
              · have e1 : Hid (getG (6 - 5) l 5 m = (m', 6, 0)) := hid (by rw [show 6 - 5 = 0 + 1 by rfl, E0.out, if_neg h1, if_pos h2])
                go_wp2_with fail
                go_ret3
                rw [HG.out, e1.out]
                exact ⟨rfl, rfl⟩
              · have e1 : Hid (getG (6 - 5) l 5 m = getG (6 - 6) l 6 m') := hid (by rw [show 6 - 5 = 0 + 1 by rfl, E0.out, if_neg h1, if_neg h2])
                go_wp2_with fail
                go_round
                case rel => exact ⟨m', 6, rfl, rfl, by omega, by omega, by omega, by omega, by rw [← e1.out]; exact HG.out.symm⟩
                case measure => simp [intOf]
        · have HG := hid hg.symm
          clear hg hin
          go_wp2_with fail
          go_ret3
          rw [HG.out]
          exact ⟨rfl, rfl⟩
end Go.Proofs.Ytbbjhmhinbmhgaa
