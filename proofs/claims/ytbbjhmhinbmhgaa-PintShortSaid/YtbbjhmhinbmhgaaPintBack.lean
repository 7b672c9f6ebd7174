/- The law PintBack walked. -/
import Derived.Test.YtbbjhmhinbmhgaaPintOrder
namespace Go.Proofs.Ytbbjhmhinbmhgaa
open Go.RowKit

theorem ones_two {bits : Int} (h1 : 1 ≤ bits) (h2 : bits ≤ 8) : onesN bits + 1 = 2 ^ bits.toNat := by
  unfold onesN
  rw [if_pos ⟨h1, h2⟩]
  omega
theorem coded_high {first bits n : Int} {L : List UInt8} {x : UInt8} (h : Coded first bits n L) (hx : L[0]? = some x) (h1 : 1 ≤ bits) (h2 : bits ≤ 8) (hn : 0 ≤ n) : (x.toNat : Int) / 2 ^ bits.toNat = first / 2 ^ bits.toNat := by
  obtain ⟨hd, t, rfl, e1, _, _⟩ := h
  obtain ⟨hf, hf1⟩ := ones_some h1 h2
  have e : hd = x := by simpa using hx
  subst e
  rw [e1, ones_two h1 h2, Int.add_comm, Int.add_mul_ediv_right _ _ (by rw [← ones_two h1 h2]; omega), Int.ediv_eq_zero_of_lt (by omega) (by rw [← ones_two h1 h2]; omega)]
  omega

set_option maxHeartbeats 1000000 in
set_option maxRecDepth 100000 in
theorem back_walk (head bits n : Int) (A : Option Addr) (k c : Nat) (l : List UInt8) (cut : Int) (w : World) (h0 : 0 ≤ head) (h1 : head < 256) (hs : Bs w A k l) (hk : k ≤ 9223372036854775807) :
    Calls Try.prog 4 #[.int .u8 head, .int .i64 bits, .int .i64 n, .slice A k c, .int .i64 cut] w fun e w' => e = .returned (.bool true) ∧ Below w.heap.size w w' := by
  have HS := hid hs
  clear hs
  obtain ⟨i0, hi0, hz0, hz1, hz2⟩ := info_parts u8_info
  have hi := hid hi0
  have hz := hid hz0
  have hsz := hid hz1
  have hby := hid hz2
  clear hi0 hz0 hz1 hz2
  go_enter Try.func4, Try.ntmps4
  go_wp2_with fail
  refine (first_any w).mono ?_
  rintro e w1 ⟨rfl, hb1⟩
  have HB1 := hid hb1
  clear hb1
  generalize hra : putR head bits n = ra
  have HRA := hid hra
  clear hra
  go_wp2_with fail
  refine (put_all head bits n w1 h0 h1).mono ?_
  rw [HRA.out]
  rintro e w2 ⟨A2, k2, c2, rfl, ho2, hb2⟩
  have HO2 := hid (Bs.of_own ho2)
  have hc2 := own_le ho2
  have HB2 := hid (HB1.out.trans (hb2.mono HB1.out.size))
  clear ho2 hb2
  by_cases hbad : ra.2 = 1 ∨ 100 < k
  · have h2 := put_err head bits n
    rw [HRA.out] at h2
    rcases h2 with h2 | h2
    · have hk1 : 100 < k := by omega
      clear hbad
      go_wp2_with (go_at_call 7; go_must (refine (first_any _).mono ?_; rintro e w6 ⟨rfl, hb6⟩; have HB6 := hid hb6; clear hb6))
      go_ret
      exact ⟨rfl, HB2.out.trans (HB6.out.mono HB2.out.size)⟩
    · clear hbad
      go_wp2_with (go_at_call 7; go_must (refine (first_any _).mono ?_; rintro e w6 ⟨rfl, hb6⟩; have HB6 := hid hb6; clear hb6))
      go_ret
      exact ⟨rfl, HB2.out.trans (HB6.out.mono HB2.out.size)⟩
  · have h2 : ra.2 = 0 := by
      have h2 := put_err head bits n
      rw [HRA.out] at h2
      omega
    have hk1 : k ≤ 100 := by omega
    clear hbad
    obtain ⟨b1, b2, n1, n2⟩ := put_ok (by rw [HRA.out]; exact h2)
    obtain ⟨nn, rfl⟩ : ∃ nn : Nat, n = nn := ⟨n.toNat, by omega⟩
    have CA := hid (coded_of h0 h1 b1 b2 n1 n2).1
    rw [HRA.out] at CA
    have hcl := coded_len CA.out
    rw [HO2.out.len] at hcl
    obtain ⟨hl1, hl6, _⟩ := hcl
    have HGT : ∀ more : List UInt8, Hid (getR (ra.1 ++ more) bits = (nn, k2, 0)) := fun more => by
      have := coded_get CA.out b1 b2 n1 n2 more
      rw [HO2.out.len, Int.toNat_natCast] at this
      exact hid this
    have HGT := HGT l
    go_wp2_with fail
    refine (copy_any A2 k2 c2 ra.1 w2 HO2.out (by omega)).mono ?_
    rintro e w3 ⟨A3, c3, rfl, ho3, hb3⟩
    have HO3 := hid ho3
    have H23 := hid hb3
    have HB3 := hid (HB2.out.trans (hb3.mono HB2.out.size))
    have hw3 := hb3.size
    clear ho3 hb3
    have HS3 := hid (HS.out.below HB3.out)
    go_wp2_with (at_builtin; go_loud (refine wpList_app _ rfl _ _ _ rfl w2.heap.size 5 i0 _ 1 1 Try.underlying22 hi.out hz.out hsz.out hby.out rfl (by omega) _ k2 _ rfl HO3.out A k c _ rfl HS3.out (bv_one l) (by omega) (by omega) hw3 ?_; intro A4 c4 w4 ho4 hg4 hat4; have HO4 := hid ho4; have H24 := hid (below_app H23.out HO3.out hg4 (Nat.le_refl _) hw3); clear ho4 hg4 hat4))
    have HB4 := hid (HB2.out.trans (H24.out.mono HB2.out.size))
    have HO4' := hid (show Bs w4 A4 (k2 + k) (ra.1 ++ l) from by
      have := Rd.of_own HO4.out
      rw [← List.map_append] at this
      exact this)
    have HO2' := hid (HO2.out.below H24.out)
    refine (get_all A4 (k2 + k) c4 (ra.1 ++ l) bits w4 HO4'.out (by omega)).mono ?_
    rw [HGT.out]
    rintro e w5 ⟨rfl, rfl⟩
    obtain ⟨b, o, x, hA2, hx, hc0⟩ := HO2'.out.at_ (i := 0) (by omega)
    subst hA2
    rw [Nat.add_zero] at hc0
    unfold bv at hc0
    have hsh := coded_high CA.out hx b1 b2 n1
    have HX := hid hx
    clear hx
    by_cases hcut : 0 ≤ cut ∧ cut < k2
    · obtain ⟨d, rfl⟩ : ∃ d : Nat, cut = d := ⟨cut.toNat, by omega⟩
      obtain ⟨hd0, hd1⟩ := hcut
      have hdk : d < k2 := by omega
      have HC : Hid (getR (ra.1.take d) bits = (0, 0, 4)) := hid (coded_cut CA.out b1 b2 n1 n2 (by rw [HO2.out.len]; exact hdk))
      have HD := hid (HO2'.out.to (k := d) (by omega))
      go_wp2_with (first
        | (go_at_call 7; go_must (refine (first_any _).mono ?_; rintro e w6 ⟨rfl, hb6⟩; have HB6 := hid hb6; clear hb6))
        | (go_at_call 10; go_must (refine (get_all _ d _ (ra.1.take d) bits _ HD.out (by omega)).mono ?_; rw [HC.out]; rintro e w5 ⟨rfl, rfl⟩)))
      go_ret
      exact ⟨rfl, HB4.out.trans (HB6.out.mono HB4.out.size)⟩
    · by_cases hc0 : cut < 0
      · clear hcut
        go_wp2_with (go_at_call 7; go_must (refine (first_any _).mono ?_; rintro e w6 ⟨rfl, hb6⟩; have HB6 := hid hb6; clear hb6))
        go_ret
        exact ⟨rfl, HB4.out.trans (HB6.out.mono HB4.out.size)⟩
      · have hc1 : (k2 : Int) ≤ cut := by omega
        clear hcut
        go_wp2_with (go_at_call 7; go_must (refine (first_any _).mono ?_; rintro e w6 ⟨rfl, hb6⟩; have HB6 := hid hb6; clear hb6))
        go_ret
        exact ⟨rfl, HB4.out.trans (HB6.out.mono HB4.out.size)⟩
end Go.Proofs.Ytbbjhmhinbmhgaa
