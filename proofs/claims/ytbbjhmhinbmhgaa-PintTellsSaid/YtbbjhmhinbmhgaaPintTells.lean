/- The law PintTells walked. -/
import Derived.Test.YtbbjhmhinbmhgaaPintAll
namespace Go.Proofs.Ytbbjhmhinbmhgaa
open Go.RowKit

set_option maxHeartbeats 1000000 in
set_option maxRecDepth 100000 in
theorem tells_walk (head bits m : Int) (A : Option Addr) (n c : Nat) (l : List UInt8) (w : World) (h0 : 0 ≤ head) (h1 : head < 256) (hs : Bs w A n l) (hn : n ≤ 9223372036854775807) :
    Calls Try.prog 3 #[.int .u8 head, .int .i64 bits, .int .i64 m, .slice A n c] w fun e w' => e = .returned (.bool true) ∧ Below w.heap.size w w' := by
  have HS := hid hs
  clear hs
  go_enter Try.func3, Try.ntmps3
  go_wp2_with fail
  refine (first_any w).mono ?_
  rintro e w1 ⟨rfl, hb1⟩
  have HB1 := hid hb1
  clear hb1
  by_cases hbig : 1000 < n
  · go_wp2_with fail
    refine (first_any _).mono ?_
    rintro e w2 ⟨rfl, hb2⟩
    have HB2 := hid hb2
    clear hb2
    go_wp2_with fail
    go_ret
    exact ⟨rfl, HB1.out.trans (HB2.out.mono HB1.out.size)⟩
  · generalize hr : putR head bits m = r
    generalize hq : getR l bits = q
    have HR := hid hr
    have HQ := hid hq
    clear hr hq
    go_wp2_with fail
    refine (put_all head bits m w1 h0 h1).mono ?_
    rw [HR.out]
    rintro e w2 ⟨A2, k2, c2, rfl, ho2, hb2⟩
    have HO2 := hid (Bs.of_own ho2)
    have HB2 := hid (HB1.out.trans (hb2.mono HB1.out.size))
    clear ho2 hb2
    go_wp2_with fail
    refine (rput_all head bits m w2 h0 h1).mono ?_
    rw [HR.out]
    rintro e w3 ⟨A3, k3, c3, rfl, ho3, hb3⟩
    have HO3 := hid (Bs.of_own ho3)
    have HO2 := hid (HO2.out.below hb3)
    have HB3 := hid (HB2.out.trans (hb3.mono HB2.out.size))
    clear ho3 hb3
    go_wp2_with fail
    refine (get_all A n c l bits w3 (HS.out.below HB3.out) hn).mono ?_
    rw [HQ.out]
    rintro e w4 ⟨rfl, rfl⟩
    go_wp2_with fail
    refine (rget_all A n c l bits w3 (HS.out.below HB3.out) hn).mono ?_
    rw [HQ.out]
    rintro e w4 ⟨rfl, rfl⟩
    go_wp2_with fail
    refine (first_any _).mono ?_
    rintro e w4 ⟨rfl, hb4⟩
    have HO2 := hid (HO2.out.below hb4)
    have HO3 := hid (HO3.out.below hb4)
    have HB4 := hid (HB3.out.trans (hb4.mono HB3.out.size))
    clear hb4
    go_wp2_with fail
    refine (same_bytes _ _ _ _ _ _ _ _ _ HO2.out HO3.out).mono ?_
    rw [beq_self_eq_true]
    rintro e w5 ⟨rfl, rfl⟩
    go_wp2_with fail
    go_ret
    exact ⟨rfl, HB4.out⟩
end Go.Proofs.Ytbbjhmhinbmhgaa
