/- The law FrameEach walked: for every two frames the call returns true. -/
import Derived.Test.YtakkabilpjjmgaaFrameFew
import Derived.Test.YtakkabilpjjmgaaMix
import Derived.Test.YtakkabilpjjmgaaBits
namespace Go.Proofs.Ytakkabilpjjmgaa
open Go.RowKit
attribute [local go_sem] kd kdS

/-- A frame in a box. -/
abbrev Bx (w : World) (b : Nat) (x : Fr) : Prop :=
  w.cell? ⟨b, 0, none⟩ = some (.int .i64 x.k) ∧ w.cell? ⟨b, 1, none⟩ = some (.int .i64 x.f) ∧ w.cell? ⟨b, 2, none⟩ = some (.int .i64 x.s) ∧ w.cell? ⟨b, 3, none⟩ = some (.slice x.A x.n x.c)
theorem Bx.below {w w' : World} {b : Nat} {x : Fr} (h : Bx w b x) (hb : Below w.heap.size w w') : Bx w' b x :=
  ⟨below_keep hb _ _ h.1, below_keep hb _ _ h.2.1, below_keep hb _ _ h.2.2.1, below_keep hb _ _ h.2.2.2⟩

theorem Bx.new {w : World} {H : Nat} (x : Fr) (hH : w.heap.size = H) (t : TypeId) : Bx (w.alloc (.cells #[.int .i64 x.k, .int .i64 x.f, .int .i64 x.s, .slice x.A x.n x.c] t)) H x := by
  subst hH
  have hn := World.news_of_block (heap_alloc_new w (.cells #[.int .i64 x.k, .int .i64 x.f, .int .i64 x.s, .slice x.A x.n x.c] t))
  exact ⟨hn 0 _ rfl, hn 1 _ rfl, hn 2 _ rfl, hn 3 _ rfl⟩

theorem two_frames {w : World} {H : Nat} (x y : Fr) (hH : w.heap.size = H) (hx : Bs w x.A x.n x.l) (hy : Bs w y.A y.n y.l) :
    Frs (w.alloc (.cells #[.int .i64 x.k, .int .i64 x.f, .int .i64 x.s, .slice x.A x.n x.c, .int .i64 y.k, .int .i64 y.f, .int .i64 y.s, .slice y.A y.n y.c] 30)) (some ⟨H, 0, none⟩) 2 [x, y] := by
  have hb := (Below.refl w.heap.size w).alloc (Nat.le_refl _) (.cells #[.int .i64 x.k, .int .i64 x.f, .int .i64 x.s, .slice x.A x.n x.c, .int .i64 y.k, .int .i64 y.f, .int .i64 y.s, .slice y.A y.n y.c] 30)
  refine ⟨rfl, fun _ => ⟨H, 0, rfl, fun i z hz => ?_⟩, fun z hz => ?_⟩
  · subst hH
    have hn := World.news_of_block (heap_alloc_new w (.cells #[.int .i64 x.k, .int .i64 x.f, .int .i64 x.s, .slice x.A x.n x.c, .int .i64 y.k, .int .i64 y.f, .int .i64 y.s, .slice y.A y.n y.c] 30))
    have hi : i < 2 := by have := (List.getElem?_eq_some_iff.1 hz).1; simpa using this
    have hj : ∀ j u, j < 8 → [Value.int .i64 x.k, .int .i64 x.f, .int .i64 x.s, .slice x.A x.n x.c, .int .i64 y.k, .int .i64 y.f, .int .i64 y.s, .slice y.A y.n y.c][j]? = some u → (w.alloc (.cells #[.int .i64 x.k, .int .i64 x.f, .int .i64 x.s, .slice x.A x.n x.c, .int .i64 y.k, .int .i64 y.f, .int .i64 y.s, .slice y.A y.n y.c] 30)).cell? ⟨w.heap.size, 0 + j, none⟩ = some u := fun j u _ hu => by
      have := hn j u hu
      rwa [add_plain] at this
    match i, hi with
    | 0, _ =>
      simp at hz
      subst hz
      exact ⟨hj 0 _ (by omega) rfl, hj 1 _ (by omega) rfl, hj 2 _ (by omega) rfl, hj 3 _ (by omega) rfl⟩
    | 1, _ =>
      simp at hz
      subst hz
      exact ⟨hj 4 _ (by omega) rfl, hj 5 _ (by omega) rfl, hj 6 _ (by omega) rfl, hj 7 _ (by omega) rfl⟩
  · have hz' : z = x ∨ z = y := by simpa using hz
    rcases hz' with rfl | rfl
    · exact hx.below hb
    · exact hy.below hb

theorem put_cells {w : World} {k f s : Int} {l : List UInt8} {A : Option Addr} {n : Nat} (h : Bs w A n (putBytes k f s l)) (he : putErr k f s l = 0) :
    ∃ b o, A = some ⟨b, o, none⟩ ∧ n = 9 + l.length ∧ w.cell? ⟨b, o, none⟩ = some (.int .u8 ((l.length : Int) / 65536)) ∧ w.cell? ⟨b, o + 1, none⟩ = some (.int .u8 ((l.length : Int) / 256 % 256)) ∧ w.cell? ⟨b, o + 2, none⟩ = some (.int .u8 ((l.length : Int) % 256)) ∧
      w.cell? ⟨b, o + 3, none⟩ = some (.int .u8 k) ∧ w.cell? ⟨b, o + 4, none⟩ = some (.int .u8 f) ∧ w.cell? ⟨b, o + 5, none⟩ = some (.int .u8 (s / 16777216)) ∧ w.cell? ⟨b, o + 6, none⟩ = some (.int .u8 (s / 65536 % 256)) ∧ w.cell? ⟨b, o + 7, none⟩ = some (.int .u8 (s / 256 % 256)) ∧ w.cell? ⟨b, o + 8, none⟩ = some (.int .u8 (s % 256)) := by
  have hr : ¬ (k < 0 ∨ 255 < k ∨ f < 0 ∨ 255 < f ∨ s < 0 ∨ 2147483647 < s) := fun hb => by rw [putErr_bad hb] at he; omega
  have hl : ¬ 16777215 < l.length := fun hb => by rw [putErr_long hr hb] at he; omega
  have hb : putBytes k f s l = putHead l.length k f s ++ l := by unfold putBytes; rw [if_pos he]
  rw [hb] at h
  have hlen := h.len
  obtain ⟨b, o, hA, hc⟩ := h.2 (by rw [← hlen]; simp [putHead])
  have hcells := putHead_cells (n := (l.length : Int)) (k := k) (f := f) (s := s) (by omega) (by omega) (by omega) (by omega) (by omega) (by omega) (by omega) (by omega)
  rw [List.map_append, ← hcells] at hc
  refine ⟨b, o, hA, ?_, hc 0 _ rfl, hc 1 _ rfl, hc 2 _ rfl, hc 3 _ rfl, hc 4 _ rfl, hc 5 _ rfl, hc 6 _ rfl, hc 7 _ rfl, hc 8 _ rfl⟩
  rw [← hlen]
  simp [putHead]
  omega

theorem bs_tail {w : World} {b o n c : Nat} {h l : List UInt8} {X : Option Addr} (hs : Bs w (some ⟨b, o, none⟩) (9 + n) (h ++ l)) (hh : h.length = 9) (hc : 9 + n ≤ c) :
    Bs w (if c = 9 then X else some ⟨b, o + 9, none⟩) n l := by
  have hl : l.length = n := by have := hs.len; rw [List.length_append, hh] at this; omega
  by_cases hn : n = 0
  · subst hn
    have : l = [] := List.eq_nil_of_length_eq_zero hl
    subst this
    exact Bs.nil _ _
  · rw [if_neg (by omega)]
    obtain ⟨b', o', hA, hcell⟩ := hs.2 (by omega)
    injection hA with hA
    injection hA with h1 h2
    subst h1 h2
    refine ⟨by simp [hl], fun _ => ⟨_, _, rfl, fun j u hu => ?_⟩⟩
    rw [Nat.add_assoc]
    refine hcell (9 + j) u ?_
    rw [List.map_append, List.getElem?_append_right (by simp; omega)]
    rw [← hu]
    congr 1
    simp
    omega

theorem bs_tail_ne {w : World} {b o n c : Nat} {h l : List UInt8} (hs : Bs w (some ⟨b, o, none⟩) (9 + n) (h ++ l)) (hh : h.length = 9) (hc : 9 + n ≤ c) (hne : ¬ c = 9) : Bs w (some ⟨b, o + 9, none⟩) n l := by
  have := bs_tail (X := none) hs hh hc
  rwa [if_neg hne] at this
theorem bs_tail_eq {w : World} {b o n c : Nat} {h l : List UInt8} (hs : Bs w (some ⟨b, o, none⟩) (9 + n) (h ++ l)) (hh : h.length = 9) (hc : 9 + n ≤ c) (he : c = 9) (X : Option Addr) : Bs w X n l := by
  have := bs_tail (X := X) hs hh hc
  rwa [if_pos he] at this

theorem bs_zero {w : World} {X : Option Addr} {n : Nat} {l : List UInt8} (hl : l.length = n) (hn : n = 0) : Bs w X n l := by
  subst hn
  have : l = [] := List.eq_nil_of_length_eq_zero hl
  subst this
  exact Bs.nil _ _

theorem putErr_range {k f s : Int} {l : List UInt8} (he : putErr k f s l = 0) : 0 ≤ k ∧ k ≤ 255 ∧ 0 ≤ f ∧ f ≤ 255 ∧ 0 ≤ s ∧ s ≤ 2147483647 := by
  have hr : ¬ (k < 0 ∨ 255 < k ∨ f < 0 ∨ 255 < f ∨ s < 0 ∨ 2147483647 < s) := fun hb => by rw [putErr_bad hb] at he; omega
  omega
theorem putErr_len {k f s : Int} {l : List UInt8} (he : putErr k f s l = 0) : l.length ≤ 16777215 := by
  have hr : ¬ (k < 0 ∨ 255 < k ∨ f < 0 ∨ 255 < f ∨ s < 0 ∨ 2147483647 < s) := fun hb => by rw [putErr_bad hb] at he; omega
  rcases Nat.lt_or_ge 16777215 l.length with h | h
  · rw [putErr_long hr h] at he; omega
  · exact h
theorem own_le {w : World} {base : Nat} {e : TypeId} {size n c : Nat} {A : Option Addr} {xs : List Value} (h : w.ownsRow base e size (.slice A n c) n xs) : n ≤ c := by
  obtain ⟨A', c', e, hle⟩ := own_shape h
  injection e with _ _ e
  omega
theorem few_two {x y : Fr} (h : fewB [x, y] = true) : (x.n : Int) ≤ 40000 := by
  have h1 : fewSum [x, y] 100 ≤ 40000 := by
    simp only [fewB, Bool.and_eq_true, decide_eq_true_eq] at h
    exact h.2
  have e : fewSum [x, y] 100 = min x.n 40001 + min y.n 40001 := by simp [fewSum]
  omega

theorem u8_inj {a b : Int} (ha : 0 ≤ a) (ha1 : a < 256) (hb : 0 ≤ b) (hb1 : b < 256) (h : u8 a = u8 b) : a = b := by
  have h1 := bv_u8 a ha ha1
  have h2 := bv_u8 b hb hb1
  rw [h, ← h2] at h1
  injection h1

theorem putBytes_inj (x y : Fr) (hx : putErr x.k x.f x.s x.l = 0) (hy : putErr y.k y.f y.s y.l = 0) :
    (putBytes x.k x.f x.s x.l == putBytes y.k y.f y.s y.l) = sameB x.k x.f x.s x.l y.k y.f y.s y.l := by
  obtain ⟨a1, a2, a3, a4, a5, a6⟩ := putErr_range hx
  obtain ⟨b1, b2, b3, b4, b5, b6⟩ := putErr_range hy
  have e1 : putBytes x.k x.f x.s x.l = putHead x.l.length x.k x.f x.s ++ x.l := by unfold putBytes; rw [if_pos hx]
  have e2 : putBytes y.k y.f y.s y.l = putHead y.l.length y.k y.f y.s ++ y.l := by unfold putBytes; rw [if_pos hy]
  rw [e1, e2]
  by_cases hs : x.k = y.k ∧ x.f = y.f ∧ x.s = y.s ∧ x.l = y.l
  · obtain ⟨h1, h2, h3, h4⟩ := hs
    rw [h1, h2, h3, h4]
    simp [sameB]
  · have hne : sameB x.k x.f x.s x.l y.k y.f y.s y.l = false := by
      simp only [sameB, Bool.and_eq_false_iff, decide_eq_false_iff_not, beq_eq_false_iff_ne, ne_eq]
      by_cases hl : x.l = y.l
      · left; intro h; exact hs ⟨h.1, h.2.1, h.2.2, hl⟩
      · right; exact hl
    rw [hne, beq_eq_false_iff_ne]
    intro h
    have hinj := List.append_inj h (by simp [putHead])
    obtain ⟨hh, hl⟩ := hinj
    simp only [putHead, List.cons.injEq, and_true] at hh
    obtain ⟨_, _, _, h3, h4, h5, h6, h7, h8⟩ := hh
    have k1 := u8_inj a1 (by omega) b1 (by omega) h3
    have k2 := u8_inj a3 (by omega) b3 (by omega) h4
    have k5 := u8_inj (a := x.s / 16777216) (b := y.s / 16777216) (by omega) (by omega) (by omega) (by omega) h5
    have k6 := u8_inj (a := x.s / 65536 % 256) (b := y.s / 65536 % 256) (by omega) (by omega) (by omega) (by omega) h6
    have k7 := u8_inj (a := x.s / 256 % 256) (b := y.s / 256 % 256) (by omega) (by omega) (by omega) (by omega) h7
    have k8 := u8_inj (a := x.s % 256) (b := y.s % 256) (by omega) (by omega) (by omega) (by omega) h8
    exact hs ⟨k1, k2, by omega, hl⟩

set_option maxHeartbeats 4000000 in
set_option maxRecDepth 100000 in
theorem each_ok (x y : Fr) (w : World) (hx : Bs w x.A x.n x.l) (hy : Bs w y.A y.n y.l) (hfew : fewB [x, y] = true) (hex : putErr x.k x.f x.s x.l = 0) (hey : putErr y.k y.f y.s y.l = 0) :
    Calls Try.prog 4 #[x.val, y.val] w fun e w' => e = .returned (.bool true) ∧ Below w.heap.size w w' := by
  unfold Fr.val fv
  have HX := hid hx
  have HY := hid hy
  clear hx hy
  have HF := hid hfew
  clear hfew
  have HEX := hid hex
  have HEY := hid hey
  clear hex hey
  go_enter Try.func4, Try.ntmps4
  go_wp2_with fail
  -- first
  refine (first_any _).mono ?_
  rintro e w1 ⟨rfl, hb1⟩
  have hbx : Bx w1 w.heap.size x := Bx.below ((Bx.new x rfl 30).below ((Below.refl _ _).alloc (Nat.le_refl _) _)) hb1
  have hby : Bx w1 (w.heap.size + 1) y := Bx.below (Bx.new y (by simp) 30) hb1
  have hb1' : Below w.heap.size w w1 := below_then (((Below.refl _ _).alloc (Nat.le_refl _) _).alloc (by go_size) _) (by go_size) hb1
  have HB1 := hid hb1'
  clear hb1 hb1'
  go_wp2_with fail
  refine (few_any _ _ _ [x, y] _ (two_frames x y rfl (HX.out.below HB1.out) (HY.out.below HB1.out)) (by omega)).mono ?_
  rintro e w2 ⟨rfl, hw2⟩
  have hb2 : Below w1.heap.size w1 w2 := by rw [← hw2]; exact (Below.refl _ _).alloc (Nat.le_refl _) _
  have hbx2 := hbx.below hb2
  have hby2 := hby.below hb2
  have hB2 := HB1.out.trans (hb2.mono HB1.out.size)
  have HB2 := hid hB2
  clear hw2 hb2 hbx hby hB2
  rw [HF.out]
  go_wp2_with fail
  refine (put_any x.k x.f x.s x.A x.n x.c x.l _ (HX.out.below HB2.out)).mono ?_
  rintro e w3 ⟨A3, n3, c3, rfl, hown3, hb3⟩
  rw [HEX.out]
  have hbx := hbx2.below hb3
  have hby := hby2.below hb3
  have hs3 := Bs.of_own hown3
  have hle3 := own_le hown3
  have hB3 := HB2.out.trans (hb3.mono HB2.out.size)
  have HB3 := hid hB3
  have HS3 := hid hs3
  clear hb3 hown3 hbx2 hby2 hB3 hs3
  go_wp2_with fail
  refine (put_any y.k y.f y.s y.A y.n y.c y.l _ (HY.out.below HB3.out)).mono ?_
  rintro e w4 ⟨A4, n4, c4, rfl, hown4, hb4⟩
  rw [HEY.out]
  have hbx4 := hbx.below hb4
  have hby4 := hby.below hb4
  have hs4 := Bs.of_own hown4
  have HS4 := hid hs4
  have hs3 := HS3.out.below hb4
  have HS34 := hid hs3
  have hB4 := HB3.out.trans (hb4.mono HB3.out.size)
  have HB4 := hid hB4
  clear hb4 hown4 hs4 hs3 hbx hby hB4
  go_wp2_with fail
  obtain ⟨b3, o3, rfl, hn3, d0, d1, d2, d3, d4, d5, d6, d7, d8⟩ := put_cells HS34.out HEX.out
  have hxl := HX.out.len
  rw [hxl] at hn3 d0 d1 d2
  subst hn3
  have HXL := hid hxl
  clear hxl
  have hn0 := few_two HF.out
  obtain ⟨hk0, hk1, hf0, hf1, hs0, hs1⟩ : 0 ≤ x.k ∧ x.k ≤ 255 ∧ 0 ≤ x.f ∧ x.f ≤ 255 ∧ 0 ≤ x.s ∧ x.s ≤ 2147483647 := putErr_range HEX.out
  have hn1 : IntKind.i64.wrap (9 + (x.n : Int)) = 9 + (x.n : Int) := IntWalk.i64_in _ (by omega)
  have hn2 := be3 (x.n : Int) (by omega) (by omega)
  have hn3 := IntWalk.i64_in x.k (by omega)
  have hn4 := IntWalk.i64_in x.f (by omega)
  have hn5 := be4 x.s (by omega) (by omega)
  have hle4 : (9 : Int) ≤ 9 + (x.n : Int) := by omega
  refine wp_mix ?_ ?_ ?_
  · kernel_rfl
  · kernel_rfl
  intro KK hKK
  go_wp2_with (first
    | (with_reducible refine mix_nil ?_)
    | ((with_reducible refine mix_on ?_ ?_); (focus rfl); intro K hK; go_simp)
    | ((with_reducible refine mix_off ?_ ?_); (focus rfl); intro K hK; go_simp)
    | ((with_reducible refine mix_step ?_); intro K hK; go_simp))
  refine wp_mix ?_ ?_ ?_
  · kernel_rfl
  · kernel_rfl
  intro KK hKK
  go_wp2_with (first
    | (with_reducible refine mix_nil ?_)
    | ((with_reducible refine mix_on ?_ ?_); (focus rfl); intro K hK; go_simp)
    | ((with_reducible refine mix_off ?_ ?_); (focus rfl); intro K hK; go_simp)
    | ((with_reducible refine mix_step ?_); intro K hK; go_simp))
  obtain ⟨w5, hw5, hb5⟩ : ∃ w5, w4.drew.drew = w5 ∧ Below w4.heap.size w4 w5 := ⟨_, rfl, (Below.refl _ _).drew.drew⟩
  rw [hw5]
  have hbx5 := hbx4.below hb5
  have hby5 := hby4.below hb5
  have HB5 := hid (HB4.out.trans (hb5.mono HB4.out.size))
  have HA5 := hid (HS34.out.below hb5)
  have HC5 := hid (HS4.out.below hb5)
  clear hbx4 hby4 d0 d1 d2 d3 d4 d5 d6 d7 d8 hw5 hb5
  have hlx : ∀ w', Below w5.heap.size w5 w' → (Instr.loadAt 30 (.pointer (some ⟨w.heap.size, 0, none⟩))).run Try.prog w' = .ok (fv x.k x.f x.s x.A x.n x.c) w' := fun w' hb => by
    have h := hbx5.below hb
    clear hbx5 hby5
    go_simp
  have hly : ∀ w', Below w5.heap.size w5 w' → (Instr.loadAt 30 (.pointer (some ⟨w.heap.size + 1, 0, none⟩))).run Try.prog w' = .ok (fv y.k y.f y.s y.A y.n y.c) w' := fun w' hb => by
    have h := hby5.below hb
    clear hbx5 hby5
    go_simp
  have hls : ∀ w', Below w5.heap.size w5 w' → (Instr.loadAt 3 (.pointer (some ⟨w.heap.size, 2, none⟩))).run Try.prog w' = .ok (.int .i64 x.s) w' := fun w' hb => by
    have h := hbx5.below hb
    clear hbx5 hby5
    go_simp
  have hlb : ∀ w', Below w5.heap.size w5 w' → (Instr.loadAt 25 (.pointer (some ⟨w.heap.size, 3, none⟩))).run Try.prog w' = .ok (.slice x.A x.n x.c) w' := fun w' hb => by
    have h := hbx5.below hb
    clear hbx5 hby5
    go_simp
  have HLX := hid hlx
  have HLY := hid hly
  have HLS := hid hls
  have HLB := hid hlb
  clear hlx hly hls hlb hbx5 hby5
  have HAH : Hid (Bs w5 (some ⟨b3, o3, none⟩) (9 + x.n) (putHead x.n x.k x.f x.s ++ x.l)) := by
    have h := HA5.out
    have hb : putBytes x.k x.f x.s x.l = putHead x.l.length x.k x.f x.s ++ x.l := by unfold putBytes; rw [if_pos HEX.out]
    rw [hb, HXL.out] at h
    exact h
  have hp := putBytes_inj x y HEX.out HEY.out
  refine wp_mixS ?_ ?_ ?_
  · kernel_rfl
  · kernel_rfl
  intro KK hKK
  go_wp2_with (first
    | (with_reducible refine mix_nil ?_)
    | ((with_reducible refine mixS_load HLS.out ?_ ?_ ?_); (focus rfl); (focus rfl))
    | ((with_reducible refine mixS_load HLB.out ?_ ?_ ?_); (focus rfl); (focus rfl))
    | ((with_reducible refine mixS_load HLX.out ?_ ?_ ?_); (focus rfl); (focus rfl))
    | ((with_reducible refine mixS_load HLY.out ?_ ?_ ?_); (focus rfl); (focus rfl))
    | ((with_reducible refine mixS_on ?_ ?_); (focus rfl); intro K K' hK hK'; go_simp)
    | ((with_reducible refine mixS_off ?_ ?_); (focus rfl); intro K hK; go_simp)
    | ((with_reducible refine mixS_step ?_); intro K K' hK hK'; go_simp)
    | ((with_reducible refine And.intro ?_ ?_); (focus (go_grown; done)))
    | (go_at_call 8; refine (first_any _).mono ?_; rintro e w6 ⟨rfl, hb6⟩; refine (have hbn6 : Below w5.heap.size w5 w6 := ?_; ?_); (focus (refine below_then ?_ ?_ hb6 <;> (go_grown; done))); have hsn6 := hbn6.size)
    | (go_at_call 12; (with_reducible refine (bytes_any _ _ x.n _ x.n _ x.l x.l _ ?_ ?_).mono ?_); (focus (first | exact bs_tail_ne (HAH.out.below hbn6) rfl hle3 (by assumption) | exact bs_zero HXL.out (by omega))); (focus (exact HX.out.below (HB5.out.trans (hbn6.mono HB5.out.size)))); rintro e w7 ⟨rfl, rfl⟩)
    | (go_at_call 12; (with_reducible refine (bytes_any _ _ (9 + x.n) _ n4 _ _ _ _ (HA5.out.below hbn6) (HC5.out.below hbn6)).mono ?_); rintro e w7 ⟨rfl, rfl⟩)
    | (go_at_call 13; (with_reducible refine (same_any x.k x.f x.s y.k y.f y.s _ _ _ _ _ _ x.l y.l _ (HX.out.below ?_) (HY.out.below ?_)).mono ?_); (focus (exact HB5.out.trans (hbn6.mono HB5.out.size))); (focus (exact HB5.out.trans (hbn6.mono HB5.out.size))); rintro e w8 ⟨rfl, hb8⟩; refine (have hbn8 : Below w5.heap.size w5 w8 := ?_; ?_); (focus (refine below_then hbn6 ?_ hb8 <;> (go_grown; done))); have hsn8 := hbn8.size))
  all_goals
    go_wp2_with fail
    go_ret
    exact ⟨rfl, HB5.out.trans (hbn8.mono HB5.out.size)⟩

set_option maxHeartbeats 1000000 in
set_option maxRecDepth 100000 in
theorem each_err (x y : Fr) (w : World) (hx : Bs w x.A x.n x.l) (hy : Bs w y.A y.n y.l) (hfew : fewB [x, y] = true) (he : ¬ (putErr x.k x.f x.s x.l = 0 ∧ putErr y.k y.f y.s y.l = 0)) :
    Calls Try.prog 4 #[x.val, y.val] w fun e w' => e = .returned (.bool true) ∧ Below w.heap.size w w' := by
  unfold Fr.val fv
  have HX := hid hx
  have HY := hid hy
  have HF := hid hfew
  have HE := hid he
  clear hx hy hfew he
  go_enter Try.func4, Try.ntmps4
  go_wp2_with fail
  refine (first_any _).mono ?_
  rintro e w1 ⟨rfl, hb1⟩
  have hbx : Bx w1 w.heap.size x := Bx.below ((Bx.new x rfl 30).below ((Below.refl _ _).alloc (Nat.le_refl _) _)) hb1
  have hby : Bx w1 (w.heap.size + 1) y := Bx.below (Bx.new y (by simp) 30) hb1
  have hb1' : Below w.heap.size w w1 := below_then (((Below.refl _ _).alloc (Nat.le_refl _) _).alloc (by go_size) _) (by go_size) hb1
  have HB1 := hid hb1'
  clear hb1 hb1'
  go_wp2_with fail
  refine (few_any _ _ _ [x, y] _ (two_frames x y rfl (HX.out.below HB1.out) (HY.out.below HB1.out)) (by omega)).mono ?_
  rintro e w2 ⟨rfl, hw2⟩
  have hb2 : Below w1.heap.size w1 w2 := by rw [← hw2]; exact (Below.refl _ _).alloc (Nat.le_refl _) _
  have hbx2 := hbx.below hb2
  have hby2 := hby.below hb2
  have hB2 := HB1.out.trans (hb2.mono HB1.out.size)
  have HB2 := hid hB2
  clear hw2 hb2 hbx hby hB2
  rw [HF.out]
  go_wp2_with fail
  refine (put_any x.k x.f x.s x.A x.n x.c x.l _ (HX.out.below HB2.out)).mono ?_
  rintro e w3 ⟨A3, n3, c3, rfl, hown3, hb3⟩
  have hbx := hbx2.below hb3
  have hby := hby2.below hb3
  have hB3 := HB2.out.trans (hb3.mono HB2.out.size)
  have HB3 := hid hB3
  have hz : putErr x.k x.f x.s x.l ≠ 0 → n3 = 0 := fun h => by
    have := (Bs.of_own hown3).len
    unfold putBytes at this
    rw [if_neg h] at this
    simpa using this.symm
  have HZ := hid hz
  clear hb3 hown3 hbx2 hby2 hB3 hz
  go_wp2_with fail
  refine (put_any y.k y.f y.s y.A y.n y.c y.l _ (HY.out.below HB3.out)).mono ?_
  rintro e w4 ⟨A4, n4, c4, rfl, hown4, hb4⟩
  have hB4 := HB3.out.trans (hb4.mono HB3.out.size)
  have HB4 := hid hB4
  clear hb4 hown4 hbx hby hB4
  by_cases hx0 : putErr x.k x.f x.s x.l = 0
  · have hy0 : (putErr y.k y.f y.s y.l != 0) = true := by
      rw [bne_iff_ne]
      exact fun h => HE.out ⟨hx0, h⟩
    rw [hx0]
    clear hx0
    go_wp2_with ((with_reducible refine (first_any _).mono ?_); rintro e w5 ⟨rfl, hb5⟩; have HB5 := hid hb5; clear hb5)
    all_goals
      go_ret
      exact ⟨rfl, HB4.out.trans (HB5.out.mono HB4.out.size)⟩
  · have hz0 := HZ.out hx0
    subst hz0
    have hx1 : (putErr x.k x.f x.s x.l != 0) = true := by rw [bne_iff_ne]; exact hx0
    clear hx0
    go_wp2_with ((with_reducible refine (first_any _).mono ?_); rintro e w5 ⟨rfl, hb5⟩; have HB5 := hid hb5; clear hb5)
    all_goals
      go_ret
      exact ⟨rfl, HB4.out.trans (HB5.out.mono HB4.out.size)⟩

set_option maxHeartbeats 1000000 in
set_option maxRecDepth 100000 in
theorem each_many (x y : Fr) (w : World) (hx : Bs w x.A x.n x.l) (hy : Bs w y.A y.n y.l) (hfew : fewB [x, y] = false) :
    Calls Try.prog 4 #[x.val, y.val] w fun e w' => e = .returned (.bool true) ∧ Below w.heap.size w w' := by
  unfold Fr.val fv
  have HX := hid hx
  have HY := hid hy
  have HF := hid hfew
  clear hx hy hfew
  go_enter Try.func4, Try.ntmps4
  go_wp2_with fail
  refine (first_any _).mono ?_
  rintro e w1 ⟨rfl, hb1⟩
  have hbx : Bx w1 w.heap.size x := Bx.below ((Bx.new x rfl 30).below ((Below.refl _ _).alloc (Nat.le_refl _) _)) hb1
  have hby : Bx w1 (w.heap.size + 1) y := Bx.below (Bx.new y (by simp) 30) hb1
  have hb1' : Below w.heap.size w w1 := below_then (((Below.refl _ _).alloc (Nat.le_refl _) _).alloc (by go_size) _) (by go_size) hb1
  have HB1 := hid hb1'
  clear hb1 hb1'
  go_wp2_with fail
  refine (few_any _ _ _ [x, y] _ (two_frames x y rfl (HX.out.below HB1.out) (HY.out.below HB1.out)) (by omega)).mono ?_
  rintro e w2 ⟨rfl, hw2⟩
  have hb2 : Below w1.heap.size w1 w2 := by rw [← hw2]; exact (Below.refl _ _).alloc (Nat.le_refl _) _
  have hB2 := HB1.out.trans (hb2.mono HB1.out.size)
  have HB2 := hid hB2
  clear hw2 hb2 hbx hby hB2
  rw [HF.out]
  go_wp2_with fail
  refine (first_any _).mono ?_
  rintro e w3 ⟨rfl, hb3⟩
  have HB3 := hid hb3
  clear hb3
  go_wp2_with fail
  go_ret
  exact ⟨rfl, HB2.out.trans (HB3.out.mono HB2.out.size)⟩

theorem each_walk (x y : Fr) (w : World) (hx : Bs w x.A x.n x.l) (hy : Bs w y.A y.n y.l) :
    Calls Try.prog 4 #[x.val, y.val] w fun e w' => e = .returned (.bool true) ∧ Below w.heap.size w w' := by
  rcases hf : fewB [x, y] with _ | _
  · exact each_many x y w hx hy hf
  · by_cases he : putErr x.k x.f x.s x.l = 0 ∧ putErr y.k y.f y.s y.l = 0
    · exact each_ok x y w hx hy hf he.1 he.2
    · exact each_err x y w hx hy hf he
end Go.Proofs.Ytakkabilpjjmgaa
