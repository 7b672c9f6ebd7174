/- Integers with a prefix: each call once, for whatever comes in; what the chapter's examples fix. -/
import Derived.Test.YtbbjhmhinbmhgaaPintGet
namespace Go.Proofs.Ytbbjhmhinbmhgaa
open Go.RowKit

theorem put_all (first bits n : Int) (w : World) (h0 : 0 ≤ first) (h1 : first < 256) :
    Calls Try.prog 8 #[.int .u8 first, .int .i64 bits, .int .i64 n] w (PutPost (putR first bits n) w) := by
  by_cases h : onesN bits = 0 ∨ n < 0 ∨ 2147483647 < n
  · exact put_bad first bits n w h
  · have hb : 1 ≤ bits ∧ bits ≤ 8 := by
      by_cases hb : 1 ≤ bits ∧ bits ≤ 8
      · exact hb
      · exact absurd (.inl (ones_none hb)) h
    obtain ⟨h2, h3⟩ := ones_some hb.1 hb.2
    exact put_any first bits n w h0 h1 h2 h3 (by omega) (by omega)

theorem rput_all (first bits n : Int) (w : World) (h0 : 0 ≤ first) (h1 : first < 256) :
    Calls Try.prog 9 #[.int .u8 first, .int .i64 bits, .int .i64 n] w (PutPost (putR first bits n) w) := by
  by_cases h : 1 ≤ bits ∧ bits ≤ 8 ∧ 0 ≤ n ∧ n ≤ 2147483647
  · exact rput_any first bits n w h0 h1 h.1 h.2.1 h.2.2.1 h.2.2.2
  · exact rput_bad first bits n w h

set_option maxHeartbeats 1000000 in
set_option maxRecDepth 100000 in
theorem get_all (A : Option Addr) (n c : Nat) (l : List UInt8) (bits : Int) (w : World) (h : Bs w A n l) (hn : n ≤ 9223372036854775807) :
    Calls Try.prog 10 #[.slice A n c, .int .i64 bits] w (GetPost (getR l bits) w) := by
  by_cases hb : 1 ≤ bits ∧ bits ≤ 8
  · exact get_any A n c l bits w h hn hb.1 hb.2
  · have hR : Hid (getR l bits = (0, 0, 1)) := hid (by unfold getR; rw [if_pos (ones_none hb)])
    have HO := hid (ones_none hb)
    clear hb h
    go_enter Try.func10, Try.ntmps10
    go_wp2_with fail
    refine wp_scope_jumps 0 (fun _ _ => False) (fun _ _ => 0) rfl ?_ (fun _ _ h => h.elim)
    go_wp2_with fail
    refine (ones_any bits w).mono ?_
    rw [HO.out]
    rintro e w' ⟨rfl, rfl⟩
    go_wp2_with fail
    simp only [Exit.jump]
    go_ret3
    rw [hR.out]
    exact ⟨rfl, rfl⟩

set_option maxHeartbeats 1000000 in
set_option maxRecDepth 100000 in
theorem rget_all (A : Option Addr) (n c : Nat) (l : List UInt8) (bits : Int) (w : World) (h : Bs w A n l) (hn : n ≤ 9223372036854775807) :
    Calls Try.prog 11 #[.slice A n c, .int .i64 bits] w (GetPost (getR l bits) w) := by
  by_cases hb : 1 ≤ bits ∧ bits ≤ 8
  · exact rget_any A n c l bits w h hn hb.1 hb.2
  · have hR : Hid (getR l bits = (0, 0, 1)) := hid (by unfold getR; rw [if_pos (ones_none hb)])
    have HX := hid hb
    clear hb h
    go_enter Try.func11, Try.ntmps11
    go_wp2_with fail
    all_goals first | (exfalso; have := HX.out; omega) | skip
    all_goals
      go_ret3
      rw [hR.out]
      exact ⟨rfl, rfl⟩

theorem put_1337 : putR 0 5 1337 = ([0x1f, 0x9a, 0x0a], 0) := by decide +kernel

set_option maxHeartbeats 1000000 in
set_option maxRecDepth 100000 in
theorem first_any (w : World) : Calls Try.prog 7 #[] w fun e w' => e = .returned (.bool true) ∧ Below w.heap.size w w' := by
  go_enter Try.func7, Try.ntmps7
  go_wp2_with fail
  refine (put_all 0 5 1337 w (by decide) (by decide)).mono ?_
  rw [put_1337]
  rintro e w1 ⟨A, k, c, rfl, ho, hb⟩
  have hk : k = 3 := by have := ho.1; simp at this; omega
  subst hk
  have HO := hid (Bs.of_own ho)
  have HB := hid hb
  clear ho hb
  have hs := rd_new (w := w1) (n := 3) (size := 1) (e := 5) (cs := #[.int .u8 31, .int .u8 154, .int .u8 10]) rfl rfl
  have hb2 := (Below.refl w1.heap.size w1).alloc (Nat.le_refl _) (.cells #[.int .u8 31, .int .u8 154, .int .u8 10] 5)
  have HS := hid (show Bs (w1.alloc (.cells #[.int .u8 31, .int .u8 154, .int .u8 10] 5)) (some ⟨w1.heap.size, 0, none⟩) 3 [0x1f, 0x9a, 0x0a] from hs)
  have HO2 := hid (HO.out.below hb2)
  have HB2 := hid (HB.out.trans (hb2.mono HB.out.size))
  clear hs hb2
  go_wp2_with (go_at_call 12; go_must (refine (same_bytes _ _ _ _ _ _ _ _ _ HO2.out HS.out).mono ?_; rw [beq_self_eq_true]; rintro e w2 ⟨rfl, rfl⟩))
  go_ret
  exact ⟨rfl, HB2.out⟩
end Go.Proofs.Ytbbjhmhinbmhgaa
