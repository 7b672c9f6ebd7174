/- DynOut's walk. -/
import Derived.Test.YtlnhnnejmofpcaaDynOut
import Derived.Test.YtlnhnnejmofpcaaBig
namespace Go.Proofs.Ytlnhnnejmofpcaa
open Go.RowKit
attribute [local go_sem] kd kdS if_min if_max if_minN if_maxN

theorem conv4 (w : World) (b k : Nat) (hk : k < 256) (hb : Blk w b 5 #[.int .u8 118, .int .u8 97, .int .u8 108, .int .u8 k]) :
    (convert 28 9 (.slice (some ⟨b, 0, none⟩) 4 4)).run Try.prog w = .ok (.string ⟨#[118, 97, 108, UInt8.ofNat k]⟩) w := by
  refine run_convert_bytes_back (P := Try.prog) w _ _ _ ⟨b, 0, none⟩ 4 [118, 97, 108, UInt8.ofNat k] Try.underlying28 Try.underlying5 Try.underlying9 (fun j hj => ?_)
  have h4 : j < 4 := hj
  have e : (⟨b, 0, none⟩ : Addr).add j = ⟨b, j, none⟩ := by simp [Addr.add]; omega
  rw [e, hb.cell j]
  rcases (show j = 0 ∨ j = 1 ∨ j = 2 ∨ j = 3 by omega) with rfl | rfl | rfl | rfl
  · rfl
  · rfl
  · rfl
  · simp [Nat.mod_eq_of_lt hk]

set_option maxHeartbeats 1000000 in
set_option maxRecDepth 100000 in
theorem dynOut_walk (n r l : Int) (w : World) : Calls Try.prog 3 #[.int .i64 n, .int .i64 r, .int .i64 l] w fun e w' => e = .returned (.bool true) ∧ Below w.heap.size w w' := by
  by_cases hbad : n < 0 ∨ 30 < n ∨ r < 0 ∨ 30 < r ∨ l < 0 ∨ r < l
  · go_enter Try.func3, Try.ntmps3
    go_wp2_with fail
    refine (first_any w).mono ?_
    rintro e w1 ⟨rfl, hb1⟩
    have HB1 := hid hb1
    clear hb1
    have hb' : n < 0 ∨ (0 ≤ n ∧ 30 < n) ∨ (0 ≤ n ∧ n ≤ 30 ∧ r < 0) ∨ (0 ≤ n ∧ n ≤ 30 ∧ 0 ≤ r ∧ 30 < r) ∨ (0 ≤ n ∧ n ≤ 30 ∧ 0 ≤ r ∧ r ≤ 30 ∧ l < 0) ∨ (0 ≤ n ∧ n ≤ 30 ∧ 0 ≤ r ∧ r ≤ 30 ∧ 0 ≤ l ∧ r < l) := by omega
    clear hbad
    rcases hb' with h1 | ⟨h1, h2⟩ | ⟨h1, h2, h3⟩ | ⟨h1, h2, h3, h4⟩ | ⟨h1, h2, h3, h4, h5⟩ | ⟨h1, h2, h3, h4, h5, h6⟩
    all_goals
      go_wp2_with fail
      refine (first_any w1).mono ?_
      rintro e w2 ⟨rfl, hb2⟩
      have HB2 := hid hb2
      clear hb2
      go_wp2_with fail
      go_ret
      exact ⟨rfl, HB1.out.trans (HB2.out.mono HB1.out.size)⟩
  obtain ⟨n, rfl⟩ : ∃ k : Nat, n = k := ⟨n.toNat, by omega⟩
  obtain ⟨r, rfl⟩ : ∃ k : Nat, r = k := ⟨r.toNat, by omega⟩
  obtain ⟨l, rfl⟩ : ∃ k : Nat, l = k := ⟨l.toNat, by omega⟩
  have hn0 : (0 : Int) ≤ n := by omega
  have hr0 : (0 : Int) ≤ r := by omega
  have hl0 : (0 : Int) ≤ l := by omega
  have hn1 : (n : Int) ≤ 30 := by omega
  have hr1 : (r : Int) ≤ 30 := by omega
  have hl1 : (l : Int) ≤ r := by omega
  clear hbad
  go_enter Try.func3, Try.ntmps3
  go_wp2_with fail
  refine (first_any w).mono ?_
  rintro e w1 ⟨rfl, hb1⟩
  have HB1 := hid hb1
  clear hb1
  go_wp2_with fail
  refine (new_tb (40 * (r : Int)) w1).mono ?_
  intro e w2 hp
  unfold NewTb at hp
  rw [if_neg (by omega)] at hp
  obtain ⟨F, rfl, h1, hb1⟩ := hp
  have HG := hid (show w.heap.size ≤ w1.heap.size from HB1.out.size)
  have HB2 := hid (HB1.out.trans (hb1.mono HB1.out.size))
  have H1 := hid h1
  clear h1 hb1 HB1
  generalize w1.heap.size = g at H1 HG ⊢
  clear w1
  go_wp2_with fail
  go_loopw [9] (fun i wr => ∃ (k : Nat) (F : List Nat), k ≤ n ∧ i = .int .i64 k ∧ Tb wr g F g (40 * (r : Int)) (vfs (k - r) (min k r)) ∧ Below w.heap.size w wr) (fun i _ => n - (intOf i).toNat)
  case atStart => exact ⟨0, F, Nat.zero_le _, rfl, by simpa [vfs] using H1.out, HB2.out⟩
  case round =>
    obtain ⟨k, F, hk, rfl, hT, hb⟩ := hrel
    have HT := hid hT
    have HB := hid hb
    clear hT hb
    by_cases hgo : k < n
    · have hki : (k : Int) < n := by omega
      go_wp2_with fail
      rw [conv4 _ _ k (by omega) (Blk.new wr _ _)]
      go_wp2_with fail
      refine (add_tb (vf k) (HT.out.below ((Below.refl _ _).alloc (Nat.le_refl _) _)) (by rw [vfs_total]; omega) (by rw [vf_size]; omega) (by rw [vfs_len]; omega) (by have := (HT.out.ge g (by obtain ⟨A, n, c, _, e⟩ := HT.out; rw [e]; simp)).2; rw [World.size_alloc]; omega) (by omega) (by omega)).mono ?_
      rintro e w4 ⟨F4, rfl, h4, ht4, hk4⟩
      rw [vfs_add] at h4
      go_wp2_with fail
      go_roundw
      case rel => exact ⟨k + 1, F4, by omega, by go_num, h4, (HB.out.alloc HB.out.size _).trans (ht4.below (fun k hk => Nat.le_trans HG.out (HT.out.ge k hk).1) (by have := HB.out.size; rw [World.size_alloc]; omega))⟩
      case measure => simp [intOf]; omega
    · have hkn : k = n := by omega
      subst hkn
      clear hgo
      go_wp2_with fail
      refine (len_tb HT.out).mono ?_
      rintro e w4 ⟨rfl, rfl⟩
      rw [vfs_len]
      have hm : ((min k r : Nat) : Int) = min (k : Int) r := by omega
      go_wp2_with fail
      refine (limit_tb (40 * (l : Int)) HT.out (by rw [vfs_total]; omega) (by rw [vfs_len]; omega) (by have := (HT.out.ge g (by obtain ⟨A, n, c, _, e⟩ := HT.out; rw [e]; simp)).2; omega)).mono ?_
      intro e w4 hp
      unfold LimTb at hp
      rw [if_neg (by omega), vfs_shr] at hp
      obtain ⟨F4, rfl, h4, ht4, hk4⟩ := hp
      have HM : Hid (min (min k r) l = min k l) := by show _ = _; omega
      rw [HM.out] at h4
      obtain ⟨a, ha⟩ : ∃ a, k - r + (min k r - l) = a := ⟨_, rfl⟩
      rw [ha] at h4
      have HT4 := hid h4
      have HB4 := hid (HB.out.trans (ht4.below (fun k hk => Nat.le_trans HG.out (HT.out.ge k hk).1) HB.out.size))
      clear h4 ht4 hk4
      go_wp2_with fail
      refine (len_tb HT4.out).mono ?_
      rintro e w4' ⟨rfl, rfl⟩
      rw [vfs_len]
      go_wp2_with fail
      have hB4 : g ≤ w4.heap.size := by have := HB4.out.size; have := (HT4.out.ge g (by obtain ⟨A, n, c, _, e⟩ := HT4.out; rw [e]; simp)).2; omega
      refine (limit_tb 4096 HT4.out (by rw [vfs_total]; omega) (by rw [vfs_len]; omega) hB4).mono ?_
      intro e w5 hp
      unfold LimTb at hp
      rw [if_neg (by omega), vfs_keep _ _ (by omega)] at hp
      obtain ⟨F5, rfl, h5, ht5, hk5⟩ := hp
      obtain ⟨m, hm⟩ : ∃ m, min k l = m := ⟨_, rfl⟩
      have hm2 : min (k : Int) l = m := by omega
      have hm3 : min (l : Int) k = m := by omega
      have hm4 : m ≤ k := by omega
      rw [hm] at h5
      have HA := hid (show a + m = k by omega)
      clear ha
      have HT5 := hid h5
      have HB5 := hid (HB4.out.trans (ht5.below (fun k hk => Nat.le_trans HG.out (HT4.out.ge k hk).1) HB4.out.size))
      clear h5 ht5 hk5
      go_wp2_with fail
      refine (len_tb HT5.out).mono ?_
      rintro e w5' ⟨rfl, rfl⟩
      rw [vfs_len]
      go_wp2_with fail
      go_loopw [11] (fun i wr => ∃ j : Nat, 1 ≤ j ∧ j ≤ m + 1 ∧ i = .int .i64 j ∧ Tb wr g F5 g 4096 (vfs a m) ∧ Below w.heap.size w wr) (fun i _ => m + 1 - (intOf i).toNat)
      case atStart => exact ⟨1, Nat.le_refl _, by omega, rfl, HT5.out, HB5.out⟩
      case round =>
        obtain ⟨j, hj0, hj1, rfl, hT, hb⟩ := hrel
        have HT := hid hT
        have HB := hid hb
        clear hT hb
        by_cases hgo : j ≤ m
        · have hjm : (j : Int) ≤ m := by omega
          go_wp2_with fail
          refine (get_tb j HT.out (by rw [vfs_len]; omega)).mono ?_
          rintro e w6 ⟨rfl, hb6⟩
          rw [vfs_get a m j hj0 hgo, HA.out]
          have HB6 := hid (HB.out.trans (hb6.mono HB.out.size))
          have HT6 := hid (HT.out.below hb6)
          clear hb6
          have hnm := vf_name (k - j)
          have hvl := vf_vlen (k - j)
          have hvb : (wrap64 (((vf (k - j)).v[3]'(by show 3 < 4; omega)).toNat : Int) != (k : Int) - (j : Int)) = false := by
            rw [vf_byte (k - j) (by omega)]
            simp
            omega
          go_wp2_with fail
          go_roundw
          case rel => exact ⟨j + 1, by omega, by omega, by go_num, HT6.out.below ((Below.refl _ _).alloc (Nat.le_refl _) _), HB6.out.alloc HB6.out.size _⟩
          case measure => simp [intOf]; omega
        · have hjm : j = m + 1 := by omega
          subst hjm
          clear hgo
          obtain ⟨O, bs, hbs, hmk, hcv⟩ := big_4096
          have HBS := hid hbs
          have HCV := hid hcv
          clear hbs hcv
          go_wp2_with fail
          rw [HCV.out]
          go_wp2_with fail
          refine (add_tb ⟨bs, ⟨#[]⟩, false⟩ (HT.out.below ((Below.refl _ _).alloc (Nat.le_refl _) O)) (by rw [vfs_total]; omega) (by have e : (⟨bs, ⟨#[]⟩, false⟩ : Fd).size = bs.size + 0 + 32 := rfl; rw [e, HBS.out]; omega) (by rw [vfs_len]; omega) (by have := (HT.out.ge g (by obtain ⟨A, n, c, _, e⟩ := HT.out; rw [e]; simp)).2; rw [World.size_alloc]; omega) (by omega) (by omega)).mono ?_
          rintro e w7 ⟨F7, rfl, h7, ht7, hk7⟩
          have hemp : addL 4096 (vfs a m) ⟨bs, ⟨#[]⟩, false⟩ = [] := by
            have e : (⟨bs, ⟨#[]⟩, false⟩ : Fd).size = bs.size + 0 + 32 := rfl
            unfold addL
            rw [e, HBS.out, if_neg (by omega), shr_neg _ (by omega)]
          rw [hemp] at h7
          have H7 := hid h7
          have HB7 := hid ((HB.out.alloc HB.out.size _).trans (ht7.below (fun k hk => Nat.le_trans HG.out (HT.out.ge k hk).1) (by have := HB.out.size; rw [World.size_alloc]; omega)))
          clear h7 ht7 hk7 hemp HB HT HT5 HB5 HT4 HB4 H1 HB2 HBS HCV hmk
          go_wp2_with fail
          refine (first_any w7).mono ?_
          rintro e w8 ⟨rfl, hb8⟩
          have H8 := hid (H7.out.below hb8)
          have HB8 := hid (HB7.out.trans (hb8.mono HB7.out.size))
          clear hb8
          go_wp2_with fail
          refine (len_tb H8.out).mono ?_
          rintro e w8' ⟨rfl, rfl⟩
          go_wp2_with fail
          refine (size_tb H8.out).mono ?_
          rintro e w8' ⟨rfl, rfl⟩
          go_wp2_with fail
          go_ret
          exact ⟨rfl, HB8.out⟩
end Go.Proofs.Ytlnhnnejmofpcaa
