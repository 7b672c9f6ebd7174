/- FrameRooms' walk. No condition. -/
import Derived.Test.YtakkabilpjjmgaaParOk
import Derived.Test.YtakkabilpjjmgaaZero
namespace Go.Proofs.Ytakkabilpjjmgaa
open Go.RowKit
attribute [local go_sem] kd kdS
attribute [local go_sem ↓] sliced_word

theorem nb_u8 (a : Int) (h0 : 0 ≤ a) (h1 : a < 256) : ((u8 a).toNat : Int) = a := by
  unfold u8
  rw [UInt8.toNat_ofNat', Nat.mod_eq_of_lt (by omega)]
  omega
theorem putHead_len (n k f s : Int) : (putHead n k f s).length = 9 := rfl
theorem lenI_head {n k f s : Int} (h0 : 0 ≤ n) (h1 : n ≤ 16777215) (l : List UInt8) : lenI (putHead n k f s ++ l) = n := by
  unfold lenI nb putHead
  simp only [List.cons_append, List.nil_append, List.getD_cons_zero, List.getD_cons_succ]
  rw [nb_u8 _ (by omega) (by omega), nb_u8 _ (by omega) (by omega), nb_u8 _ (by omega) (by omega)]
  omega
theorem putBytes_ok {k f s : Int} {l : List UInt8} (h : putErr k f s l = 0) : putBytes k f s l = putHead l.length k f s ++ l := by
  unfold putBytes
  rw [if_pos h]
def zl (n : Nat) : List UInt8 := List.replicate n 0
theorem zl_len (n : Nat) : (zl n).length = n := by simp [zl]
theorem put_zl {n : Nat} (hn : n ≤ 100000) : putErr 0 0 1 (zl n) = 0 := putErr_ok (by omega) (by rw [zl_len]; omega)
/-- A frame of n zeros. -/
def zf (n : Nat) : List UInt8 := putHead n 0 0 1 ++ zl n
theorem zf_len (n : Nat) : (zf n).length = 9 + n := by simp [zf, putHead_len, zl_len]
theorem zf_put {n : Nat} (hn : n ≤ 100000) : putBytes 0 0 1 (zl n) = zf n := by
  rw [putBytes_ok (put_zl hn), zl_len]
  rfl
theorem zf_next {n : Nat} (hn : n ≤ 100000) : nextE n (zf n) = 0 := by
  unfold nextE
  rw [zf_len, show lenI (zf n) = n from lenI_head (by omega) (by omega) _, if_neg (by omega), if_neg (by omega), if_neg (by omega)]
theorem zf_take8 (r : Int) (n : Nat) : nextE r ((zf n).take 8) = 4 := by
  unfold nextE
  rw [if_pos (by rw [List.length_take, zf_len]; omega)]
theorem zf_take9 {n : Nat} (hn : n ≤ 90000) : nextE n ((zf (n + 1)).take 8 ++ ((zf (n + 1)).drop 8).take 1) = 3 := by
  rw [← List.take_add]
  have e : (zf (n + 1)).take (8 + 1) = putHead (n + 1 : Nat) 0 0 1 ++ [] := by
    unfold zf
    rw [List.append_nil, List.take_append_of_le_length (by rw [putHead_len]; omega)]
    rfl
  rw [e]
  unfold nextE
  rw [lenI_head (by omega) (by omega), if_neg (by simp [putHead_len]), if_pos (by omega)]

theorem off_new {w : World} {A : Option Addr} {n k : Nat} {l : List UInt8} (h : Bs w A n l) (hn : 0 < n) (hk : w.heap.size ≤ k) : Off A [k] := by
  intro ad e hm
  subst e
  obtain ⟨b, o, x, e, hx, hc⟩ := h.at_ hn
  cases e
  have h1 := cell_lt hc
  have h2 := List.mem_singleton.1 hm
  simp at h1 h2
  omega
theorem zf_post {n : Nat} (hn : n ≤ 100000) {w w' : World} {e : Ending} (h : PutPost 0 0 1 (zl n) w e w') : ∃ A c, e = .returned (.tuple #[.slice A (9 + n) c, .int .i64 0]) ∧ Bs w' A (9 + n) (zf n) ∧ 9 + n ≤ c ∧ Below w.heap.size w w' := by
  obtain ⟨A, m, c, rfl, ho, hb⟩ := h
  rw [zf_put hn] at ho
  have hs := Bs.of_own ho
  have hm : m = 9 + n := by rw [← hs.len, zf_len]
  subst hm
  exact ⟨A, c, by rw [put_zl hn], hs, own_le ho, hb⟩

set_option maxHeartbeats 2000000 in
set_option maxRecDepth 100000 in
theorem rooms_walk (room : Int) (w : World) : Calls Try.prog 5 #[.int .i64 room] w fun e w' => e = .returned (.bool true) ∧ Below w.heap.size w w' := by
  go_enter Try.func5, Try.ntmps5
  go_wp2_with fail
  refine (first_any w).mono ?_
  rintro e w1 ⟨rfl, hb1⟩
  have HB1 := hid hb1
  clear hb1
  by_cases hbad : room < 0 ∨ 20000 < room
  · have hb' : room < 0 ∨ (0 ≤ room ∧ 20000 < room) := by omega
    rcases hb' with h1 | ⟨h1, h2⟩
    all_goals
      go_wp2_with fail
      refine (first_any w1).mono ?_
      rintro e w2 ⟨rfl, hb2⟩
      have HB2 := hid hb2
      clear hb2
      go_wp2_with fail
      go_ret
      exact ⟨rfl, HB1.out.trans (HB2.out.mono HB1.out.size)⟩
  obtain ⟨r, rfl⟩ : ∃ r : Nat, room = r := ⟨room.toNat, by omega⟩
  have hr1 : (r : Int) ≤ 20000 := by omega
  have hr0 : (0 : Int) ≤ r := by omega
  clear hbad
  obtain ⟨O1, hmk1, hbs1⟩ := zero_make r (by omega)
  obtain ⟨O2, hmk2, hbs2⟩ := zero_make (r + 1) (by omega)
  rw [show ((r + 1 : Nat) : Int) = (r : Int) + 1 by omega] at hmk2
  have HS1 := hid hbs1
  have HS2 := hid hbs2
  clear hbs1 hbs2
  go_wp2_with fail
  refine (put_any 0 0 1 _ r r (zl r) _ (HS1.out w1)).mono ?_
  intro e w2 hp
  obtain ⟨A2, c2, rfl, h2, hc2, hb2⟩ := zf_post (by omega) hp
  have HB2 := hid ((HB1.out.alloc HB1.out.size _).trans (hb2.mono (by rw [World.size_alloc]; have := HB1.out.size; omega)))
  have H2 := hid h2
  clear hp h2 hb2
  go_wp2_with fail
  refine (put_any 0 0 1 _ (r + 1) (r + 1) (zl (r + 1)) _ (HS2.out w2)).mono ?_
  intro e w3 hp
  obtain ⟨A3, c3, rfl, h3, hc3, hb3⟩ := zf_post (by omega) hp
  have HA2 := hid (Below.trans ((Below.refl w2.heap.size w2).alloc (Nat.le_refl _) O2) (hb3.mono (by rw [World.size_alloc]; omega)))
  have HB3 := hid (HB2.out.trans (HA2.out.mono HB2.out.size))
  have H23 := hid (H2.out.below HA2.out)
  have H3 := hid h3
  clear hp h3 hb3 HA2
  have hle9 : ¬ (9 + (r + 1) : Int) < 9 := by omega
  go_wp2_with fail
  refine (parNew_any r w3).mono ?_
  rintro e w4 ⟨rfl, hp4, hb4⟩
  have HP4 := hid hp4
  have HB4 := hid (HB3.out.trans (hb4.mono HB3.out.size))
  have HG := hid (show w.heap.size ≤ w3.heap.size from HB3.out.size)
  have H24 := hid (H23.out.below hb4)
  have H34 := hid (H3.out.below hb4)
  have HO2 := hid (off_new H23.out (by omega) (Nat.le_refl w3.heap.size))
  have HO3 := hid (off_new H3.out (by omega) (Nat.le_refl w3.heap.size))
  clear hp4 hb4
  generalize w3.heap.size = g at HP4 HG HO2 HO3 ⊢
  go_wp2_with fail
  refine (parFeed_any g r none 0 0 [] A2 (9 + r) c2 (zf r) w4 HP4.out H24.out (by omega)).mono ?_
  rintro e w5 ⟨A5, c5, rfl, hp5, ht5, _⟩
  rw [Nat.zero_add, List.nil_append] at hp5
  have HP5 := hid hp5
  have H35 := hid (H34.out.turned ht5 HO3.out)
  have HB5 := hid (HB4.out.trans (ht5.below (B := w.heap.size) (by simp; exact HG.out) HB4.out.size))
  clear hp5 ht5
  go_wp2_with fail
  refine (parNext_any g r A5 (9 + r) c5 (zf r) w5 HP5.out (by omega)).mono ?_
  intro e w6 hp
  unfold NextPost at hp
  rw [zf_next (by omega)] at hp
  rcases hp with ⟨h, _⟩ | ⟨_, A6, c6, A7, c7, m, hm, hm9, rfl, hb6, hp6, ht6, _, _⟩
  · exact absurd rfl h
  rw [show lenI (zf r) = r from lenI_head (by omega) (by omega) _] at hm
  obtain rfl : m = r := by omega
  rw [List.drop_of_length_le (by rw [zf_len]; omega), show 9 + m - (9 + m) = 0 by omega] at hp6
  have HP6 := hid hp6
  have H36 := hid (H35.out.turned ht6 HO3.out)
  have HB6 := hid (HB5.out.trans (ht6.below (B := w.heap.size) (by simp; exact HG.out) HB5.out.size))
  have hg6 := hp6.blk.lt
  clear hm hm9 hb6 hp6 ht6
  unfold fv
  go_upto_region 12 with fail
  obtain ⟨w7, hw7⟩ : ∃ w7, w6.alloc (.cells #[.int .i64 (nb (zf m) 3), .int .i64 (nb (zf m) 4), .int .i64 (strI (zf m)), .slice A6 m c6] 30) = w7 := ⟨_, rfl⟩
  have hF7 : Blk w7 w6.heap.size 30 #[.int .i64 (nb (zf m) 3), .int .i64 (nb (zf m) 4), .int .i64 (strI (zf m)), .slice A6 m c6] := by rw [← hw7]; exact Blk.new w6 _ _
  have hb7 : Below w6.heap.size w6 w7 := by rw [← hw7]; exact (Below.refl _ _).alloc (Nat.le_refl _) _
  rw [hw7]
  have HF7 := hid hF7
  have HP7 := hid (HP6.out.below hb7)
  have H37 := hid (H36.out.below hb7)
  have HB7 := hid (HB6.out.trans (hb7.mono HB6.out.size))
  clear hF7 hb7 hw7
  have hq : w6.heap.size ≠ g := by omega
  generalize w6.heap.size = q at HF7 hq ⊢
  have hm9 : 8 ≤ 9 + (m + 1) := by omega
  go_wp2_with fail
  rw [offA_zero]
  refine (parFeed_any g m A7 0 c7 [] A3 8 c3 ((zf (m + 1)).take 8) w7 HP7.out (H37.out.to (by omega)) (by omega)).mono ?_
  rintro e w8 ⟨A8, c8, rfl, hp8, ht8, _⟩
  rw [Nat.zero_add, List.nil_append] at hp8
  have HP8 := hid hp8
  have H38 := hid (H37.out.turned ht8 HO3.out)
  have HF8 := hid (HF7.out.turned ht8 (by simpa using hq))
  have HB8 := hid (HB7.out.trans (ht8.below (B := w.heap.size) (by simp; exact HG.out) HB7.out.size))
  clear hp8 ht8
  go_wp2_with fail
  refine (parNext_any g m A8 8 c8 _ w8 HP8.out (by omega)).mono ?_
  intro e w9 hp
  unfold NextPost at hp
  rw [zf_take8] at hp
  rcases hp with ⟨_, rfl, hb9⟩ | ⟨h, _⟩
  rotate_left
  · exact absurd h (by omega)
  have HP9 := hid (HP8.out.below (hb9.trans ((Below.refl w9.heap.size w9).alloc (Nat.le_refl _) (.cells #[.int .i64 0, .int .i64 0, .int .i64 0, .slice none 0 0] 30) |>.mono hb9.size)))
  have H39 := hid (H38.out.below (hb9.trans ((Below.refl w9.heap.size w9).alloc (Nat.le_refl _) (.cells #[.int .i64 0, .int .i64 0, .int .i64 0, .slice none 0 0] 30) |>.mono hb9.size)))
  have HF9 := hid (HF8.out.below (hb9.trans ((Below.refl w9.heap.size w9).alloc (Nat.le_refl _) (.cells #[.int .i64 0, .int .i64 0, .int .i64 0, .slice none 0 0] 30) |>.mono hb9.size)) HF8.out.lt)
  have HB9 := hid ((HB8.out.trans (hb9.mono HB8.out.size)).alloc (by have := HB8.out.size; have := hb9.size; omega) (.cells #[.int .i64 0, .int .i64 0, .int .i64 0, .slice none 0 0] 30))
  clear hb9
  unfold fv
  go_upto_region 14 with fail
  generalize w9.alloc (.cells #[.int .i64 0, .int .i64 0, .int .i64 0, .slice none 0 0] 30) = wa at HP9 H39 HF9 HB9 ⊢
  have hm10 : 9 ≤ 9 + (m + 1) := by omega
  go_wp2_with fail
  have HSL := hid ((H39.out.off (k := 8) (cap := c3) (by omega) hc3).to (k := 1) (by omega))
  refine (parFeed_any g m A8 8 c8 _ _ 1 (c3 - 8) _ wa HP9.out HSL.out (by omega)).mono ?_
  rintro e w10 ⟨A10, c10, rfl, hp10, ht10, _⟩
  have HP10 := hid hp10
  have HF10 := hid (HF9.out.turned ht10 (by simpa using hq))
  have HB10 := hid (HB9.out.trans (ht10.below (B := w.heap.size) (by simp; exact HG.out) HB9.out.size))
  clear hp10 ht10
  go_wp2_with fail
  refine (parNext_any g m A10 (8 + 1) c10 _ w10 HP10.out (by omega)).mono ?_
  intro e w11 hp
  unfold NextPost at hp
  rw [zf_take9 (by omega)] at hp
  rcases hp with ⟨_, rfl, hb11⟩ | ⟨h, _⟩
  rotate_left
  · exact absurd h (by omega)
  have HF11 := hid (HF10.out.below hb11 HF10.out.lt)
  have HB11 := hid (HB10.out.trans (hb11.mono HB10.out.size))
  clear hb11
  unfold fv
  go_upto_region 16 with fail
  have HF12 := hid (HF11.out.alloc (.cells #[.int .i64 0, .int .i64 0, .int .i64 0, .slice none 0 0] 30))
  have HB12 := hid (HB11.out.alloc HB11.out.size (.cells #[.int .i64 0, .int .i64 0, .int .i64 0, .slice none 0 0] 30))
  generalize w11.alloc (.cells #[.int .i64 0, .int .i64 0, .int .i64 0, .slice none 0 0] 30) = wb at HF12 HB12 ⊢
  go_wp2_with fail
  refine (first_any wb).mono ?_
  rintro e w13 ⟨rfl, hb13⟩
  have HB13 := hid (HB12.out.trans (hb13.mono HB12.out.size))
  have d3 := (HF12.out.below hb13 HF12.out.lt).cell 3
  simp at d3
  clear hb13
  go_wp2_with fail
  go_ret
  exact ⟨rfl, HB13.out⟩
end Go.Proofs.Ytakkabilpjjmgaa
