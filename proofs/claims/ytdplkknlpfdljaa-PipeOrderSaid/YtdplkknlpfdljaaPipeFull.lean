/- What the chapter's examples fix, and the law PipeFull walked. -/
import Derived.Test.YtdplkknlpfdljaaPipe
namespace Go.Proofs.Ytdplkknlpfdljaa
open Go.RowKit
attribute [local go_sem] kd kdS

set_option maxHeartbeats 1000000 in
set_option maxRecDepth 100000 in
theorem first_any (w : World) : Calls Try.prog 7 #[] w fun e w' => e = .returned (.bool true) ∧ Below w.heap.size w w' := by
  go_enter Try.func7, Try.ntmps7
  go_wp2_with fail
  refine (new_any 2 w).mono ?_
  rintro e w1 ⟨rfl, hp, hb⟩
  have HP := hid hp
  have HB := hid hb
  clear hp hb
  have hs := rd_new (w := w1) (n := 3) (size := 1) (e := 5) (cs := #[.int .u8 1, .int .u8 2, .int .u8 3]) rfl rfl
  have hb2 := (Below.refl w1.heap.size w1).alloc (Nat.le_refl _) (.cells #[.int .u8 1, .int .u8 2, .int .u8 3] 5)
  have HS := hid (show Bs (w1.alloc (.cells #[.int .u8 1, .int .u8 2, .int .u8 3] 5)) (some ⟨w1.heap.size, 0, none⟩) 3 [1, 2, 3] from hs)
  have HP1 := hid (HP.out.below hb2)
  have HB1 := hid (HB.out.trans (hb2.mono HB.out.size))
  clear hs hb2
  go_wp2_with fail
  refine (put_any _ 3 3 [1, 2, 3] _ _ _ _ 0 0 [] 0 0 _ HP1.out HS.out (Nat.le_refl _) (by decide) (by decide) (by decide) HB1.out.size (by decide)).mono ?_
  rw [show putN 3 (max 2 0) 0 = 2 by decide]
  rintro e w2 ⟨A2, c2, rfl, hp2, ht2, _⟩
  have HP2 := hid hp2
  have HB2 := hid (HB1.out.trans (ht2.below (B := w.heap.size) (fun b hb => by simp [Value.ownBlock] at hb; omega) HB1.out.size))
  clear hp2 ht2
  go_wp2_with fail
  refine (len_any _ _ _ _ _ _ _ _ _ _ HP2.out).mono ?_
  rintro e w3 ⟨rfl, rfl⟩
  go_wp2_with fail
  refine (free_any _ _ _ _ _ _ _ _ _ _ HP2.out (by decide)).mono ?_
  rintro e w3 ⟨rfl, hb3⟩
  have HB3 := hid (HB2.out.trans (hb3.mono HB2.out.size))
  clear hb3
  go_wp2_with fail
  go_ret
  exact ⟨rfl, HB3.out⟩

attribute [local go_sem] if_min if_max if_minN if_maxN

set_option maxHeartbeats 4000000 in
set_option maxRecDepth 100000 in
theorem full_walk (room : Int) (A : Option Addr) (n1 c1 : Nat) (l : List UInt8) (n : Int) (w : World) (hs : Bs w A n1 l) (hc1 : n1 ≤ c1) :
    Calls Try.prog 6 #[.int .i64 room, .slice A n1 c1, .int .i64 n] w fun e w' => e = .returned (.bool true) ∧ Below w.heap.size w w' := by
  have HS := hid hs
  clear hs
  by_cases hbad : 1000 < n1 ∨ room < 0 ∨ 1000 < room
  · go_enter Try.func6, Try.ntmps6
    go_wp2_with fail
    refine (first_any w).mono ?_
    rintro e w1 ⟨rfl, hb1⟩
    have HB1 := hid hb1
    clear hb1
    go_wp2_with (go_at_call 7; (with_reducible refine (first_any _).mono ?_); rintro e w2 ⟨rfl, hb2⟩; have HB2 := hid hb2; clear hb2)
    all_goals first | (exfalso; omega) | skip
    all_goals
      go_ret
      exact ⟨rfl, HB1.out.trans (HB2.out.mono HB1.out.size)⟩
  · obtain ⟨r, rfl⟩ : ∃ r : Nat, room = r := ⟨room.toNat, by omega⟩
    have hn1 : n1 ≤ 1000 := by omega
    have hr1 : r ≤ 1000 := by omega
    clear hbad
    obtain ⟨k, hk⟩ : ∃ k : Nat, min (r : Int) (n1 : Int) = (k : Int) := ⟨min n1 r, by omega⟩
    obtain ⟨m, hm⟩ : ∃ m : Nat, min (k : Int) (max n 0) = (m : Int) := ⟨(min (max n 0) (k : Int)).toNat, by omega⟩
    go_enter Try.func6, Try.ntmps6
    go_wp2_with fail
    refine (first_any w).mono ?_
    rintro e w1 ⟨rfl, hb1⟩
    have HB1 := hid hb1
    clear hb1
    go_wp2_with fail
    refine (new_any r w1).mono ?_
    rw [show max (r : Int) 0 = r by omega]
    rintro e w2 ⟨rfl, hp2, hb2⟩
    generalize hg : w1.heap.size = g at hp2 ⊢
    have HP2 := hid hp2
    have HB2 := hid (HB1.out.trans (hb2.mono HB1.out.size))
    clear hp2 hb2
    go_wp2_with fail
    have hki : k = putN n1 r 0 := by unfold putN; omega
    have hBs : g ≤ w2.heap.size := Nat.le_of_lt HP2.out.blk.lt
    refine (put_any A n1 c1 l _ _ _ _ 0 0 [] 0 0 _ HP2.out (HS.out.below HB2.out) hc1 (by omega) (by decide) (by decide) hBs (by omega)).mono ?_
    rw [← hki]
    clear hki
    rintro e w3 ⟨A3, c3, rfl, hp3, ht3, hn3⟩
    rw [Nat.zero_add, List.nil_append, Int.zero_add] at hp3
    have hwg : w.heap.size ≤ g := by rw [← hg]; exact HB1.out.size
    have HB3 := hid (HB2.out.trans (ht3.below (B := w.heap.size) (fun b hb => by simp [Value.ownBlock] at hb; omega) HB2.out.size))
    have HP3 := hid hp3
    clear hp3 ht3 hn3 hg
    go_wp2_with fail
    refine (len_any _ _ _ _ _ _ _ _ _ _ HP3.out).mono ?_
    rintro e w4 ⟨rfl, rfl⟩
    go_wp2_with fail
    refine (free_any _ _ _ _ _ _ _ _ _ _ HP3.out (by omega)).mono ?_
    rintro e w4 ⟨rfl, hb4⟩
    have HP4 := hid (HP3.out.below hb4)
    have HB4 := hid (HB3.out.trans (hb4.mono HB3.out.size))
    clear hb4
    go_wp2_with fail
    refine (look_any (-1) _ _ _ _ _ _ _ _ _ _ HP4.out (by omega)).mono ?_
    rw [show lookN (-1) k = 0 by unfold lookN; omega]
    rintro e w5 ⟨A5, c5, rfl, _, hb5⟩
    have HP5 := hid (HP4.out.below hb5)
    have HB5 := hid (HB4.out.trans (hb5.mono HB4.out.size))
    clear hb5
    go_wp2_with fail
    refine (take_any 0 _ _ _ _ _ _ _ _ _ _ HP5.out (by omega) (by decide) (by decide) (Nat.le_of_lt (Nat.lt_of_le_of_lt HP5.out.base HP5.out.blk.lt))).mono ?_
    rw [show lookN 0 k = 0 by unfold lookN; omega]
    rintro e w6 ⟨A6, c6, A7, c7, rfl, _, hp6, ht6, _⟩
    rw [Nat.sub_zero, List.drop_zero] at hp6
    have HB6 := hid (HB5.out.trans (ht6.below (B := w.heap.size) (fun b hb => by simp at hb; omega) HB5.out.size))
    have HP6 := hid hp6
    clear hp6 ht6
    go_wp2_with fail
    have hlm : lookN n k = m := by unfold lookN; omega
    have hmk : m ≤ k := by omega
    have HLM := hid hlm
    clear hlm
    refine (look_any n _ _ _ _ _ _ _ _ _ _ HP6.out (by omega)).mono ?_
    rw [HLM.out]
    rintro e w7 ⟨A8, c8, rfl, ho7, hb7⟩
    have HP7 := hid (HP6.out.below hb7)
    have HB7 := hid (HB6.out.trans (hb7.mono HB6.out.size))
    have HX7 := hid (Bs.of_own ho7)
    have HE7 := hid (fun b hb => (ho7.lt b hb).1)
    clear hb7 ho7
    go_wp2_with fail
    refine (look_any n _ _ _ _ _ _ _ _ _ _ HP7.out (by omega)).mono ?_
    rw [HLM.out]
    rintro e w8 ⟨A9, c9, rfl, ho8, hb8⟩
    have HP8 := hid (HP7.out.below hb8)
    have HB8 := hid (HB7.out.trans (hb8.mono HB7.out.size))
    have HX8 := hid (HX7.out.below hb8)
    have HY8 := hid (Bs.of_own ho8)
    have HF8 := hid (fun b hb => (ho8.lt b hb).1)
    have hg6 := HP6.out.blk.lt
    have hs7 := hb8.size
    clear hb8 ho8
    go_wp2_with fail
    have hg7 := HP7.out.blk.lt
    refine (take_any n _ _ _ _ _ _ _ _ _ _ HP8.out (by omega) (by omega) (by omega) (Nat.le_of_lt (Nat.lt_of_le_of_lt HP8.out.base HP8.out.blk.lt))).mono ?_
    rw [HLM.out]
    rintro e w9 ⟨A10, c10, A11, c11, rfl, ho9, hp9, ht9, _⟩
    have HP9 := hid hp9
    have HX9 := hid (HX8.out.turned ht9 (fun ad e => by subst e; have := HE7.out ad.block rfl; simp; omega))
    have HY9 := hid (HY8.out.turned ht9 (fun ad e => by subst e; have := HF8.out ad.block rfl; simp; omega))
    have HZ9 := hid (Bs.of_own ho9)
    have HB9 := hid (HB8.out.trans (ht9.below (B := w.heap.size) (fun b hb => by simp at hb; omega) HB8.out.size))
    clear ho9 hp9 ht9
    have HQ : Hid (Bs w9 A m (l.take m)) := hid (((Rd.take (HS.out.below HB9.out) (k := m) (by omega)) : _) |> fun h => by rw [Nat.mul_one, ← List.map_take] at h; exact h)
    have HTT : Hid ((l.take k).take m = l.take m) := hid (by rw [List.take_take, Nat.min_eq_left hmk])
    go_wp2_with fail
    refine (same_bytes _ _ _ _ _ _ _ _ _ HX9.out HQ.out).mono ?_
    rw [HTT.out, beq_self_eq_true]
    rintro e w10 ⟨rfl, rfl⟩
    go_wp2_with fail
    refine (same_bytes _ _ _ _ _ _ _ _ _ HY9.out HX9.out).mono ?_
    rw [beq_self_eq_true]
    rintro e w10 ⟨rfl, rfl⟩
    go_wp2_with fail
    refine (same_bytes _ _ _ _ _ _ _ _ _ HZ9.out HX9.out).mono ?_
    rw [beq_self_eq_true]
    rintro e w10 ⟨rfl, rfl⟩
    obtain ⟨q, hq⟩ : ∃ q : Nat, min ((r : Int) - k + m) (n1 : Int) = (q : Int) := ⟨(min ((r : Int) - k + m) (n1 : Int)).toNat, by omega⟩
    have hkr : k ≤ r := by omega
    have hpn : putN n1 r (k - m) = q := by unfold putN; omega
    have HPN := hid hpn
    have hcast : ((k - m : Nat) : Int) = (k : Int) - m := by omega
    have hcast2 : ((k - m + q : Nat) : Int) = (k : Int) - m + q := by omega
    have hw0 := IntWalk.i64_in ((r : Int) - k) (by omega)
    have hw1 := IntWalk.i64_in ((r : Int) - k + m) (by omega)
    have hw2 := IntWalk.i64_in ((k : Int) - m) (by omega)
    have hw3 := IntWalk.i64_in ((k : Int) - m + q) (by omega)
    have hw4 := IntWalk.i64_in ((k : Int) + q) (by omega)
    clear hpn
    go_wp2_with fail
    refine (free_any _ _ _ _ _ _ _ _ _ _ HP9.out (by omega)).mono ?_
    rw [show (r : Int) - ((k - m : Nat) : Int) = (r : Int) - k + m by omega]
    rintro e w11 ⟨rfl, hb11⟩
    have HP11 := hid (HP9.out.below hb11)
    have HB11 := hid (HB9.out.trans (hb11.mono HB9.out.size))
    clear hb11
    go_wp2_with fail
    refine (put_any A n1 c1 l _ _ _ _ _ _ _ _ _ _ HP11.out (HS.out.below HB11.out) hc1 (by omega) (by omega) (by omega) (Nat.le_of_lt (Nat.lt_of_le_of_lt HP11.out.base HP11.out.blk.lt)) (by omega)).mono ?_
    rw [HPN.out]
    rintro e w12 ⟨A12, c12, rfl, hp12, ht12, _⟩
    have HP12 := hid hp12
    have HB12 := hid (HB11.out.trans (ht12.below (B := w.heap.size) (fun b hb => by
      simp only [List.mem_cons, Option.mem_toList] at hb
      rcases hb with rfl | hb
      · exact hwg
      · have := (HP11.out.own.lt b hb).1; omega) HB11.out.size))
    clear hp12 ht12
    go_wp2_with fail
    refine (first_any _).mono ?_
    rintro e w13 ⟨rfl, hb13⟩
    have HP13 := hid (HP12.out.below hb13)
    have HB13 := hid (HB12.out.trans (hb13.mono HB12.out.size))
    clear hb13
    go_wp2_with fail
    refine (len_any _ _ _ _ _ _ _ _ _ _ HP13.out).mono ?_
    rw [hcast2]
    rintro e w14 ⟨rfl, rfl⟩
    go_wp2_with fail
    refine (in_any _ _ _ _ _ _ _ _ _ _ HP13.out).mono ?_
    rintro e w14 ⟨rfl, rfl⟩
    go_wp2_with fail
    refine (out_any _ _ _ _ _ _ _ _ _ _ HP13.out).mono ?_
    rw [show (0 + ((0 : Nat) : Int) + (m : Int)) = m by omega]
    rintro e w14 ⟨rfl, rfl⟩
    go_wp2_with fail
    go_ret
    exact ⟨rfl, HB13.out⟩
end Go.Proofs.Ytdplkknlpfdljaa
