/- PartScopes' walk. No condition. -/
import Derived.Test.YtdiahjeplaegnaaPartFirst
namespace Go.Proofs.Ytdiahjeplaegnaa
open Go.RowKit
attribute [local go_sem] kd kdS
attribute [local go_sem ↓] sliced_word
attribute [local go_sem] offA_zero

theorem scope_conn {f s : Int} {l : List UInt8} (hs : s ≠ 0) : readP 4 f s l = connP 1 ∧ readP 6 f s l = connP 1 ∧ readP 7 f s l = connP 1 := by
  refine ⟨?_, ?_, ?_⟩
  · unfold readP settingsP; simp [hs]
  · unfold readP wholeP; simp [hs]
  · unfold readP wholeP; simp [hs]
theorem scope_stream {k f : Int} {l : List UInt8} (h0 : 0 ≤ k) (h1 : k < 10) (h4 : k ≠ 4) (h6 : k ≠ 6) (h7 : k ≠ 7) (h8 : k ≠ 8) : readP k f 0 l = connP 1 := by
  unfold readP
  by_cases ha : k = 0 ∨ k = 1
  · rw [if_pos ha]; unfold bodyP; rw [if_pos rfl]
  rw [if_neg ha, if_neg h4]
  by_cases hb : k = 5
  · rw [if_pos hb]
  rw [if_neg hb, if_neg (by omega), if_neg h8, if_pos (by omega), if_pos rfl]
theorem scope_else {k f s : Int} {l : List UInt8} (h : 10 ≤ k) : readP k f s l = {} := by
  unfold readP
  rw [if_neg (by omega), if_neg (by omega), if_neg (by omega), if_neg (by omega), if_neg (by omega), if_neg (by omega)]

set_option maxHeartbeats 2000000 in
set_option maxRecDepth 100000 in
theorem scopes_walk (stream kind flags : Int) (A : Option Addr) (n c : Nat) (l : List UInt8) (w : World) (h : Bs w A n l) (hnc : n ≤ c) (hn63 : n ≤ 9223372036854775807) :
    Calls Try.prog 4 #[.int .i64 stream, .int .i64 kind, .int .i64 flags, .slice A n c] w fun e w' => e = .returned (.bool true) ∧ Below w.heap.size w w' := by
  have H := hid h
  clear h
  go_enter Try.func4, Try.ntmps4
  go_wp2_with fail
  refine (first_any w).mono ?_
  rintro e w1 ⟨rfl, hb1⟩
  have HB1 := hid hb1
  clear hb1
  by_cases hbad : 200 < n ∨ stream < 1 ∨ 2147483647 < stream ∨ flags < 0 ∨ 255 < flags
  · have hb' : (200 : Int) < n ∨ ((n : Int) ≤ 200 ∧ stream < 1) ∨ ((n : Int) ≤ 200 ∧ 1 ≤ stream ∧ 2147483647 < stream) ∨ ((n : Int) ≤ 200 ∧ 1 ≤ stream ∧ stream ≤ 2147483647 ∧ flags < 0) ∨ ((n : Int) ≤ 200 ∧ 1 ≤ stream ∧ stream ≤ 2147483647 ∧ 0 ≤ flags ∧ 255 < flags) := by omega
    clear hbad
    rcases hb' with h1 | ⟨h1, h2⟩ | ⟨h1, h2, h3⟩ | ⟨h1, h2, h3, h4⟩ | ⟨h1, h2, h3, h4, h5⟩
    all_goals
      go_wp2_with fail
      refine (first_any w1).mono ?_
      rintro e w2 ⟨rfl, hb2⟩
      have HB2 := hid (HB1.out.trans (hb2.mono HB1.out.size))
      clear hb2
      go_wp2_with fail
      go_ret
      exact ⟨rfl, HB2.out⟩
  have hn1 : (n : Int) ≤ 200 := by omega
  have hs1 : 1 ≤ stream := by omega
  have hs2 : stream ≤ 2147483647 := by omega
  have hf1 : 0 ≤ flags := by omega
  have hf2 : flags ≤ 255 := by omega
  clear hbad
  go_wp2_with fail
  go_loopw [9] (fun i wr => ∃ k : Nat, k ≤ 10 ∧ i = .int .i64 k ∧ Below w.heap.size w wr) (fun i _ => 10 - (intOf i).toNat)
  case atStart => exact ⟨0, by omega, rfl, HB1.out⟩
  case round =>
    obtain ⟨k, hk, rfl, hb⟩ := hrel
    have HB := hid hb
    clear hb
    by_cases hk10 : k < 10
    · have hcl : k = 4 ∨ k = 6 ∨ k = 7 ∨ k = 8 ∨ (k ≠ 4 ∧ k ≠ 6 ∧ k ≠ 7 ∧ k ≠ 8) := by omega
      have hsc := @scope_conn flags stream l (by omega)
      have HSC := hid hsc
      clear hsc
      rcases hcl with rfl | rfl | rfl | rfl | ⟨h4, h6, h7, h8⟩
      · go_wp2_with (go_at_call 9; go_must (refine (read_any 4 flags stream A n c l wr (H.out.below HB.out) hnc (by omega)).mono ?_; rw [HSC.out.1]; intro e w2 hp; obtain ⟨Ad, cd, As, cs, rfl, hb2⟩ := hp.of_conn; have HB2 := hid (HB.out.trans (hb2.mono HB.out.size)); clear hp hb2))
        go_roundw
        case rel => exact ⟨5, by omega, by go_num, (HB2.out.alloc HB2.out.size _).alloc (by have := HB2.out.size; simp; omega) _⟩
        case measure => simp [intOf]
      · go_wp2_with (go_at_call 9; go_must (refine (read_any 6 flags stream A n c l wr (H.out.below HB.out) hnc (by omega)).mono ?_; rw [HSC.out.2.1]; intro e w2 hp; obtain ⟨Ad, cd, As, cs, rfl, hb2⟩ := hp.of_conn; have HB2 := hid (HB.out.trans (hb2.mono HB.out.size)); clear hp hb2))
        go_roundw
        case rel => exact ⟨7, by omega, by go_num, (HB2.out.alloc HB2.out.size _).alloc (by have := HB2.out.size; simp; omega) _⟩
        case measure => simp [intOf]
      · go_wp2_with (go_at_call 9; go_must (refine (read_any 7 flags stream A n c l wr (H.out.below HB.out) hnc (by omega)).mono ?_; rw [HSC.out.2.2]; intro e w2 hp; obtain ⟨Ad, cd, As, cs, rfl, hb2⟩ := hp.of_conn; have HB2 := hid (HB.out.trans (hb2.mono HB.out.size)); clear hp hb2))
        go_roundw
        case rel => exact ⟨8, by omega, by go_num, (HB2.out.alloc HB2.out.size _).alloc (by have := HB2.out.size; simp; omega) _⟩
        case measure => simp [intOf]
      · obtain ⟨P, hP⟩ : ∃ P, readP 8 flags 0 l = P := ⟨_, rfl⟩
        go_wp2_with (go_at_call 9; go_must (refine (read_any 8 flags 0 A n c l wr (H.out.below HB.out) hnc (by omega)).mono ?_; unfold PartPost pv ft; rintro e w2 ⟨Ad, nd, cd, As, ns, cs, rfl, _, _, _, _, hb2⟩; have HB2 := hid (HB.out.trans (hb2.mono HB.out.size)); clear hb2))
        go_roundw
        case rel => exact ⟨9, by omega, by go_num, (HB2.out.alloc HB2.out.size _).alloc (by have := HB2.out.size; simp; omega) _⟩
        case measure => simp [intOf]
      · have HE := hid (@scope_stream k flags l (by omega) (by omega) (by omega) (by omega) (by omega) (by omega))
        have b4 : ((k : Int) == 4) = false := beq_eq_false_iff_ne.2 (by omega)
        have b6 : ((k : Int) == 6) = false := beq_eq_false_iff_ne.2 (by omega)
        have b7 : ((k : Int) == 7) = false := beq_eq_false_iff_ne.2 (by omega)
        have b8 : ((k : Int) == 8) = false := beq_eq_false_iff_ne.2 (by omega)
        clear h4 h6 h7 h8
        go_wp2_with (go_at_call 9; go_must (refine (read_any k flags 0 A n c l wr (H.out.below HB.out) hnc (by omega)).mono ?_; rw [HE.out]; intro e w2 hp; obtain ⟨Ad, cd, As, cs, rfl, hb2⟩ := hp.of_conn; have HB2 := hid (HB.out.trans (hb2.mono HB.out.size)); clear hp hb2))
        all_goals
          go_roundw
          case rel => exact ⟨k + 1, by omega, by go_num, (HB2.out.alloc HB2.out.size _).alloc (by have := HB2.out.size; simp; omega) _⟩
          case measure => simp [intOf]; omega
    · by_cases hkind : kind < 10 ∨ 255 < kind
      · have hk' : kind < 10 ∨ (10 ≤ kind ∧ 255 < kind) := by omega
        clear hkind
        rcases hk' with h1 | ⟨h1, h2⟩
        all_goals
          go_wp2_with fail
          refine (first_any wr).mono ?_
          rintro e w2 ⟨rfl, hb2⟩
          have HB2 := hid (HB.out.trans (hb2.mono HB.out.size))
          clear hb2
          go_wp2_with fail
          go_ret
          exact ⟨rfl, HB2.out⟩
      · have hk1 : 10 ≤ kind := by omega
        have hk2 : kind ≤ 255 := by omega
        have HE := hid (@scope_else kind flags stream l hk1)
        clear hkind
        go_wp2_with (go_at_call 9; go_must (refine (read_any kind flags stream A n c l wr (H.out.below HB.out) hnc (by omega)).mono ?_; rw [HE.out]; intro e w2 hp; obtain ⟨Ad, cd, As, cs, rfl, hb2⟩ := hp.of_none; have HB2 := hid (HB.out.trans (hb2.mono HB.out.size)); clear hp hb2))
        obtain ⟨w3, hw3⟩ : ∃ w3, (w2.alloc (.cells #[.slice Ad 0 cd, .int .i64 0, .int .i64 0, .int .i64 0, .int .i64 0, .slice As 0 cs, .bool false, .bool false, .bool false] 28)).alloc (.cells #[.bool false, .bool false, .int .i64 0] 30) = w3 := ⟨_, rfl⟩
        have HK1 : Hid (Blk w3 w2.heap.size 28 #[.slice Ad 0 cd, .int .i64 0, .int .i64 0, .int .i64 0, .int .i64 0, .slice As 0 cs, .bool false, .bool false, .bool false]) := hid (by rw [← hw3]; exact (Blk.new w2 _ _).alloc _)
        have HK2 : Hid (Blk w3 (w2.heap.size + 1) 30 #[.bool false, .bool false, .int .i64 0]) := hid (by rw [← hw3, show w2.heap.size + 1 = (w2.alloc (.cells #[.slice Ad 0 cd, .int .i64 0, .int .i64 0, .int .i64 0, .int .i64 0, .slice As 0 cs, .bool false, .bool false, .bool false] 28)).heap.size by simp]; exact Blk.new _ _ _)
        have HB3 := hid (show Below w.heap.size w w3 by rw [← hw3]; exact (HB2.out.alloc HB2.out.size _).alloc (by have := HB2.out.size; simp; omega) _)
        rw [hw3]
        clear hw3
        refine (first_any w3).mono ?_
        rintro e w4 ⟨rfl, hb4⟩
        have HB4 := hid (HB3.out.trans (hb4.mono HB3.out.size))
        have hp := HK1.out.below hb4 HK1.out.lt
        have hq := HK2.out.below hb4 HK2.out.lt
        have k0 := hp.cell 0
        have k5 := hp.cell 5
        have m0 := hq.cell 0
        simp at k0 k5 m0
        clear hb4 hp hq
        go_wp2_with fail
        go_ret
        exact ⟨rfl, HB4.out⟩
end Go.Proofs.Ytdiahjeplaegnaa
