/- The law PintOrder walked. -/
import Derived.Test.YtbbjhmhinbmhgaaPintAll
import Derived.Test.YtbbjhmhinbmhgaaPintMath
namespace Go.Proofs.Ytbbjhmhinbmhgaa
open Go.RowKit

theorem put_ok {first bits n : Int} (h : (putR first bits n).2 = 0) : 1 ≤ bits ∧ bits ≤ 8 ∧ 0 ≤ n ∧ n ≤ 2147483647 := by
  by_cases hb : 1 ≤ bits ∧ bits ≤ 8
  · by_cases hn : 0 ≤ n ∧ n ≤ 2147483647
    · exact ⟨hb.1, hb.2, hn.1, hn.2⟩
    · unfold putR at h
      rw [if_pos (by omega)] at h
      cases h
  · unfold putR at h
    rw [if_pos (.inl (ones_none hb))] at h
    cases h
theorem put_err (first bits n : Int) : (putR first bits n).2 = 0 ∨ (putR first bits n).2 = 1 := by
  unfold putR
  split
  · exact .inr rfl
  · split <;> exact .inl rfl
theorem put_err_eq (f1 f2 bits n : Int) : (putR f1 bits n).2 = (putR f2 bits n).2 := by
  unfold putR
  split
  · rfl
  · split <;> rfl

set_option maxHeartbeats 1000000 in
set_option maxRecDepth 100000 in
theorem order_walk (bits n m head : Int) (w : World) (h0 : 0 ≤ head) (h1 : head < 256) :
    Calls Try.prog 6 #[.int .i64 bits, .int .i64 n, .int .i64 m, .int .u8 head] w fun e w' => e = .returned (.bool true) ∧ Below w.heap.size w w' := by
  go_enter Try.func6, Try.ntmps6
  go_wp2_with fail
  refine (first_any w).mono ?_
  rintro e w1 ⟨rfl, hb1⟩
  have HB1 := hid hb1
  clear hb1
  generalize hra : putR 0 bits n = ra
  generalize hrb : putR 0 bits m = rb
  generalize hrc : putR head bits n = rc
  have HRA := hid hra
  have HRB := hid hrb
  have HRC := hid hrc
  clear hra hrb hrc
  go_wp2_with fail
  refine (put_all 0 bits n w1 (by decide) (by decide)).mono ?_
  rw [HRA.out]
  rintro e w2 ⟨A2, k2, c2, rfl, ho2, hb2⟩
  have HO2 := hid (Bs.of_own ho2)
  have HB2 := hid (HB1.out.trans (hb2.mono HB1.out.size))
  clear ho2 hb2
  go_wp2_with fail
  refine (put_all 0 bits m w2 (by decide) (by decide)).mono ?_
  rw [HRB.out]
  rintro e w3 ⟨A3, k3, c3, rfl, ho3, hb3⟩
  have HO3 := hid (Bs.of_own ho3)
  have HO2 := hid (HO2.out.below hb3)
  have HB3 := hid (HB2.out.trans (hb3.mono HB2.out.size))
  clear ho3 hb3
  go_wp2_with fail
  refine (put_all head bits n w3 h0 h1).mono ?_
  rw [HRC.out]
  rintro e w4 ⟨A4, k4, c4, rfl, ho4, hb4⟩
  have HO4 := hid (Bs.of_own ho4)
  have HO3 := hid (HO3.out.below hb4)
  have HO2 := hid (HO2.out.below hb4)
  have HB4 := hid (HB3.out.trans (hb4.mono HB3.out.size))
  clear ho4 hb4
  by_cases hok : ra.2 = 0 ∧ rb.2 = 0
  · have HOK := hid hok
    have ea : rc.2 = ra.2 := by rw [← HRA.out, ← HRC.out]; exact put_err_eq _ _ _ _
    obtain ⟨b1, b2, n1, n2⟩ := put_ok (by rw [HRA.out]; exact hok.1)
    obtain ⟨_, _, m1, m2⟩ := put_ok (by rw [HRB.out]; exact hok.2)
    obtain ⟨ka, kb⟩ := hok
    obtain ⟨nn, rfl⟩ : ∃ nn : Nat, n = nn := ⟨n.toNat, by omega⟩
    have kc : rc.2 = 0 := ea.trans ka
    have CA := hid (coded_of (first := 0) (by decide) (by decide) b1 b2 n1 n2).1
    have CB := hid (coded_of (first := 0) (by decide) (by decide) b1 b2 m1 m2).1
    have CC := hid (coded_of h0 h1 b1 b2 n1 n2).1
    rw [HRA.out] at CA
    rw [HRB.out] at CB
    rw [HRC.out] at CC
    have hlen : k4 = k2 := by
      rw [← HO4.out.len, ← HO2.out.len, ← HRA.out, ← HRC.out]
      exact put_len _ _ _ _
    subst hlen
    have hle : (nn : Int) ≤ m → k4 ≤ k3 := fun h => by
      rw [← HO3.out.len, ← HO2.out.len, ← HRA.out, ← HRB.out]
      exact put_mono n1 m2 h
    have HLE := hid hle
    have hcl := (coded_len CC.out).2.1
    rw [HO4.out.len] at hcl
    have hget : getR rc.1 bits = (nn, k4, 0) := by
      have := coded_get CC.out b1 b2 n1 n2 []
      rw [List.append_nil, HO4.out.len, Int.toNat_natCast] at this
      exact this
    have HGT := hid hget
    have hab : (ra.1 == rb.1) = ((nn : Int) == m) := by
      by_cases hnm : (nn : Int) = m
      · have : ra = rb := by rw [← HRA.out, ← HRB.out, hnm]
        rw [this, hnm]
        simp
      · rw [beq_eq_false_iff_ne.2 hnm, beq_eq_false_iff_ne]
        intro he
        exact hnm (coded_eq CA.out (he ▸ CB.out) b1 b2 n1 n2 m1 m2)
    have HAB := hid hab
    clear hab hget hle HOK ea
    go_wp2_with fail
    refine (get_all A4 k4 c4 rc.1 bits _ HO4.out (by omega)).mono ?_
    rw [HGT.out]
    rintro e w5 ⟨rfl, rfl⟩
    go_wp2_with fail
    refine (first_any _).mono ?_
    rintro e w6 ⟨rfl, hb6⟩
    have HO2 := hid (HO2.out.below hb6)
    have HO3 := hid (HO3.out.below hb6)
    have HB6 := hid (HB4.out.trans (hb6.mono HB4.out.size))
    clear hb6
    by_cases hnm : (nn : Int) ≤ m
    · have hk := HLE.out hnm
      go_wp2_with (go_at_call 12; go_must (refine (same_bytes _ _ _ _ _ _ _ _ _ HO2.out HO3.out).mono ?_; rw [HAB.out]; rintro e w7 ⟨rfl, rfl⟩))
      go_ret
      exact ⟨rfl, HB6.out⟩
    · go_wp2_with (go_at_call 12; go_must (refine (same_bytes _ _ _ _ _ _ _ _ _ HO2.out HO3.out).mono ?_; rw [HAB.out]; rintro e w7 ⟨rfl, rfl⟩))
      go_ret
      exact ⟨rfl, HB6.out⟩
  · have HX := hid hok
    have h2 := put_err 0 bits n
    have h3 := put_err 0 bits m
    have h4 := put_err_eq head 0 bits n
    rw [HRA.out] at h2 h4
    rw [HRB.out] at h3
    rw [HRC.out] at h4
    clear hok
    rcases h2 with h2 | h2
    · have h3 : rb.2 = 1 := by
        rcases h3 with h3 | h3
        · exact absurd ⟨h2, h3⟩ HX.out
        · exact h3
      rw [h2] at h4
      go_wp2_with (go_at_call 7; go_must (refine (first_any _).mono ?_; rintro e w6 ⟨rfl, hb6⟩; have HB6 := hid hb6; clear hb6))
      go_ret
      exact ⟨rfl, HB4.out.trans (HB6.out.mono HB4.out.size)⟩
    · rw [h2] at h4
      go_wp2_with (go_at_call 7; go_must (refine (first_any _).mono ?_; rintro e w6 ⟨rfl, hb6⟩; have HB6 := hid hb6; clear hb6))
      go_ret
      exact ⟨rfl, HB4.out.trans (HB6.out.mono HB4.out.size)⟩
end Go.Proofs.Ytbbjhmhinbmhgaa
