/- The reference's parser of frames, each call once, over whatever memory. Conditions: at most 2^45 bytes at a call. -/
import Derived.Test.YtakkabilpjjmgaaParOk
namespace Go.Proofs.Ytakkabilpjjmgaa
open Go.RowKit
attribute [local go_sem] kd kdS
attribute [local go_sem ↓] sliced_word
attribute [local go_sem] offA_zero

/-- The reference's parser in block g: it holds l. -/
structure RParAt (w : World) (B g : Nat) (room : Int) (A : Option Addr) (n c : Nat) (l : List UInt8) : Prop where
  blk : Blk w g 43 #[.int .i64 room, .slice A n c]
  base : B ≤ g
  own : w.ownsRow B 5 1 (.slice A n c) n (l.map bv)

theorem RParAt.below {w w' : World} {B g : Nat} {room : Int} {A : Option Addr} {n c : Nat} {l : List UInt8} (h : RParAt w B g room A n c l) (hb : Below w.heap.size w w') : RParAt w' B g room A n c l :=
  ⟨h.blk.below hb h.blk.lt, h.base, own_below h.own hb⟩
theorem RParAt.turned {w w' : World} {B g : Nat} {room : Int} {A : Option Addr} {n c : Nat} {l : List UInt8} {F : List Nat} (h : RParAt w B g room A n c l) (ht : Turned F w w') (hg : g ∉ F) (hF : ∀ k, (Value.slice A n c).ownBlock = some k → k ∉ F) : RParAt w' B g room A n c l :=
  ⟨h.blk.turned ht hg, h.base, own_turned h.own ht hF⟩

/-- A big-endian number. -/
def beI (l : List UInt8) (k : Nat) : Int := (l.take k).foldl (fun v x => v * 256 + (x.toNat : Int)) 0
theorem beI_succ {l : List UInt8} {k : Nat} {x : UInt8} (h : l[k]? = some x) : beI l (k + 1) = beI l k * 256 + x.toNat := by
  obtain ⟨hk, hx⟩ := List.getElem?_eq_some_iff.1 h
  unfold beI
  rw [List.take_succ_eq_append_getElem hk, List.foldl_append, hx]
  rfl
theorem beI_le (l : List UInt8) : ∀ k, 0 ≤ beI l k ∧ beI l k < ((256 ^ k : Nat) : Int)
  | 0 => by simp [beI]
  | k + 1 => by
    have ih := beI_le l k
    rcases h : l[k]? with _ | x
    · have hl : l.length ≤ k := by simpa using h
      have e : beI l (k + 1) = beI l k := by
        unfold beI
        rw [List.take_of_length_le (by omega), List.take_of_length_le hl]
      rw [e, Nat.pow_succ]
      omega
    · rw [beI_succ h]
      have := x.toNat_lt
      rw [Nat.pow_succ]
      omega

set_option maxHeartbeats 1000000 in
set_option maxRecDepth 100000 in
theorem val_any (A : Option Addr) (n c : Nat) (l : List UInt8) (w : World) (h : Bs w A n l) (hn : n ≤ 4) :
    Calls Try.prog 24 #[.slice A n c] w fun e w' => e = .returned (.int .i64 (beI l n)) ∧ w = w' := by
  have H := hid h
  clear h
  go_enter Try.func24, Try.ntmps24
  go_wp2_with fail
  go_loop [3, 4] (fun v i => ∃ k : Nat, k ≤ n ∧ i = .int .i64 k ∧ v = .int .i64 (beI l k)) (fun _ i => n - (intOf i).toNat)
  case atStart => exact ⟨0, Nat.zero_le _, rfl, by simp [beI]⟩
  case round =>
    obtain ⟨k, hk, rfl, rfl⟩ := hrel
    by_cases hkn : k < n
    · obtain ⟨b, o, x, rfl, hx, hc⟩ := H.out.at_ hkn
      unfold bv at hc
      have hb := beI_le l k
      have hxl := x.toNat_lt
      have hb3 : beI l k < 16777216 := by
        have h3 : 256 ^ k ≤ 256 ^ 3 := Nat.pow_le_pow_right (by omega) (by omega)
        omega
      have hs := beI_succ hx
      have hor := or_add (beI l k) (x.toNat : Int) 8 (by omega) (by omega) (by omega) (by omega) (by omega)
      have hor2 : Go.bits .or .i64 (beI l k * 256) (x.toNat : Int) = beI l (k + 1) := by
        rw [show beI l k * 256 = 2 ^ 8 * beI l k by omega, hor, hs]
        omega
      have HS := hid hs
      clear hs hor hx
      go_wp2_with fail
      go_round
      case rel => exact ⟨k + 1, by omega, by go_num, rfl⟩
      case measure => simp [intOf]; omega
    · obtain rfl : k = n := by omega
      go_wp2_with fail
      go_ret
      exact ⟨rfl, rfl⟩

theorem be_three {l : List UInt8} (h : 3 ≤ l.length) : beI (l.take 3) 3 = lenI l := by
  match l, h with
  | a :: b :: c :: t, _ =>
    simp [beI, lenI, nb]
    omega
theorem be_four {l : List UInt8} (h : 9 ≤ l.length) : beI ((l.drop 5).take 4) 4 = nb l 5 * 16777216 + nb l 6 * 65536 + nb l 7 * 256 + nb l 8 := by
  match l, h with
  | a0 :: a1 :: a2 :: a3 :: a4 :: a :: b :: c :: d :: t, _ =>
    simp [beI, nb]
    omega
theorem str_and {l : List UInt8} : Go.bits .and .i64 (nb l 5 * 16777216 + nb l 6 * 65536 + nb l 7 * 256 + nb l 8) 2147483647 = strI l := by
  have h0 := nb_le l 5
  have h1 := nb_le l 6
  have h2 := nb_le l 7
  have h3 := nb_le l 8
  obtain ⟨q, hq⟩ : ∃ q : Nat, nb l 5 * 16777216 + nb l 6 * 65536 + nb l 7 * 256 + nb l 8 = q := ⟨(nb l 5 * 16777216 + nb l 6 * 65536 + nb l 7 * 256 + nb l 8).toNat, by omega⟩
  have h5 := i64_and q (2 ^ 31 - 1) (by omega) (by omega)
  rw [Nat.and_two_pow_sub_one_eq_mod] at h5
  rw [hq, show (2147483647 : Int) = ((2 ^ 31 - 1 : Nat) : Int) by omega, h5]
  unfold strI
  omega

def RNextPost (g : Nat) (room : Int) (n : Nat) (l : List UInt8) (w : World) (e : Ending) (w' : World) : Prop :=
  (nextE room l ≠ 0 ∧ e = .returned (.tuple #[fv 0 0 0 none 0 0, .int .i64 (nextE room l)]) ∧ Below w.heap.size w w') ∨
  (nextE room l = 0 ∧ ∃ (A1 : Option Addr) (c1 : Nat) (A2 : Option Addr) (c2 m : Nat), (m : Int) = lenI l ∧ 9 + m ≤ n ∧ e = .returned (.tuple #[fv (nb l 3) (nb l 4) (strI l) A1 m c1, .int .i64 0]) ∧ Bs w' A1 m ((l.drop 9).take m) ∧
    RParAt w' g g room A2 (n - (9 + m)) c2 (l.drop (9 + m)) ∧ Turned [g] w w' ∧ (∀ ad, A1 = some ad → w.heap.size ≤ ad.block) ∧ (∀ ad, A2 = some ad → w.heap.size ≤ ad.block))

set_option maxHeartbeats 1000000 in
set_option maxRecDepth 100000 in
theorem rNext_few (B g : Nat) (room : Int) (A : Option Addr) (n c : Nat) (l : List UInt8) (w : World) (h : RParAt w B g room A n c l) (hn : n ≤ 70368744177664) (hs : n < 9) :
    Calls Try.prog 18 #[.pointer (some ⟨g, 0, none⟩)] w (RNextPost g room n l w) := by
  have h0 := h.blk.cell 0
  have h1 := h.blk.cell 1
  simp at h0 h1
  have H := hid h
  have H1W := hid h1
  have hlen := h.own.1
  simp at hlen
  have hcap := own_le h.own
  clear h
  have HE : Hid (nextE room l = 4) := hid (by unfold nextE; rw [if_pos (by omega)])
  clear hlen
  go_enter Try.func18, Try.ntmps18
  go_upto_region 1 with fail
  obtain ⟨wa, hwa⟩ : ∃ wa, w.alloc (.cells #[.int .i64 0, .int .i64 0, .int .i64 0, .slice none 0 0] 30) = wa := ⟨_, rfl⟩
  have hRa : Blk wa w.heap.size 30 #[.int .i64 0, .int .i64 0, .int .i64 0, .slice none 0 0] := by rw [← hwa]; exact Blk.new w _ _
  have hba : Below w.heap.size w wa := by rw [← hwa]; exact (Below.refl _ _).alloc (Nat.le_refl _) _
  have HR := hid hRa
  have HB := hid hba
  have h0 := below_keep hba _ _ h0
  have h1 := below_keep hba _ _ h1
  have hgl := H.out.blk.lt
  have hRl := hRa.lt
  rw [hwa]
  clear hRa hba hwa
  have k0 := HR.out.cell 0
  have k1 := HR.out.cell 1
  have k2 := HR.out.cell 2
  have k3 := HR.out.cell 3
  have kf0 := HR.out.frozen 0
  have kf1 := HR.out.frozen 1
  have kf2 := HR.out.frozen 2
  have kf3 := HR.out.frozen 3
  simp at k0 k1 k2 k3
  go_wp2_with fail
  have hB := (((HR.out.set_ 0 (.int .i64 0)).set_ 1 (.int .i64 0)).set_ 2 (.int .i64 0)).set_ 3 (.slice none 0 0)
  have hbz := ((((HB.out.setCell (p := ⟨w.heap.size, 0, none⟩) (Nat.le_refl _) (.int .i64 0)).setCell (p := ⟨w.heap.size, 1, none⟩) (Nat.le_refl _) (.int .i64 0)).setCell (p := ⟨w.heap.size, 2, none⟩) (Nat.le_refl _) (.int .i64 0)).setCell (p := ⟨w.heap.size, 3, none⟩) (Nat.le_refl _) (.slice none 0 0))
  clear k0 k1 k2 k3 kf0 kf1 kf2 kf3
  generalize (((wa.setCell ⟨w.heap.size, 0, none⟩ (.int .i64 0)).setCell ⟨w.heap.size, 1, none⟩ (.int .i64 0)).setCell ⟨w.heap.size, 2, none⟩ (.int .i64 0)).setCell ⟨w.heap.size, 3, none⟩ (.slice none 0 0) = wz at hB hbz ⊢
  have k0 := hB.cell 0
  have k1 := hB.cell 1
  have k2 := hB.cell 2
  have k3 := hB.cell 3
  simp at k0 k1 k2 k3
  exact bodyPost_ret (v := .tuple #[fv 0 0 0 none 0 0, .int .i64 4]) (by simp [results, Try.results18, go_sem, k0, k1, k2, k3]) rfl (.inl ⟨by rw [HE.out]; decide, by rw [HE.out], hbz⟩)

set_option maxHeartbeats 1000000 in
set_option maxRecDepth 100000 in
theorem rNext_long (B g : Nat) (room : Int) (A : Option Addr) (n c : Nat) (l : List UInt8) (w : World) (h : RParAt w B g room A n c l) (hn : n ≤ 70368744177664) (hs : ¬ n < 9) (hlong : room < lenI l) :
    Calls Try.prog 18 #[.pointer (some ⟨g, 0, none⟩)] w (RNextPost g room n l w) := by
  have h0 := h.blk.cell 0
  have h1 := h.blk.cell 1
  simp at h0 h1
  have H := hid h
  have H1W := hid h1
  have hlen := h.own.1
  simp at hlen
  have hcap := own_le h.own
  clear h
  have HE : Hid (nextE room l = 3) := hid (by unfold nextE; rw [if_neg (by omega), if_pos hlong])
  have HS := hid (Bs.of_own H.out.own)
  have HV := hid (be_three (l := l) (by omega))
  have hll := lenI_le l
  clear hlen
  go_enter Try.func18, Try.ntmps18
  go_upto_region 1 with fail
  obtain ⟨wa, hwa⟩ : ∃ wa, w.alloc (.cells #[.int .i64 0, .int .i64 0, .int .i64 0, .slice none 0 0] 30) = wa := ⟨_, rfl⟩
  have hRa : Blk wa w.heap.size 30 #[.int .i64 0, .int .i64 0, .int .i64 0, .slice none 0 0] := by rw [← hwa]; exact Blk.new w _ _
  have hba : Below w.heap.size w wa := by rw [← hwa]; exact (Below.refl _ _).alloc (Nat.le_refl _) _
  have HR := hid hRa
  have HB := hid hba
  have h0 := below_keep hba _ _ h0
  have h1 := below_keep hba _ _ h1
  have hgl := H.out.blk.lt
  have hRl := hRa.lt
  rw [hwa]
  clear hRa hba hwa
  have k0 := HR.out.cell 0
  have k1 := HR.out.cell 1
  have k2 := HR.out.cell 2
  have k3 := HR.out.cell 3
  have kf0 := HR.out.frozen 0
  have kf1 := HR.out.frozen 1
  have kf2 := HR.out.frozen 2
  have kf3 := HR.out.frozen 3
  simp at k0 k1 k2 k3
  go_wp2_with (go_at_call 24; go_must (refine (val_any A 3 c (l.take 3) _ ((HS.out.to (k := 3) (by omega)).below HB.out) (by omega)).mono ?_; rw [HV.out]; rintro e w1 ⟨rfl, rfl⟩))
  have hB := (((HR.out.set_ 0 (.int .i64 0)).set_ 1 (.int .i64 0)).set_ 2 (.int .i64 0)).set_ 3 (.slice none 0 0)
  have hbz := ((((HB.out.setCell (p := ⟨w.heap.size, 0, none⟩) (Nat.le_refl _) (.int .i64 0)).setCell (p := ⟨w.heap.size, 1, none⟩) (Nat.le_refl _) (.int .i64 0)).setCell (p := ⟨w.heap.size, 2, none⟩) (Nat.le_refl _) (.int .i64 0)).setCell (p := ⟨w.heap.size, 3, none⟩) (Nat.le_refl _) (.slice none 0 0))
  clear k0 k1 k2 k3 kf0 kf1 kf2 kf3
  generalize (((wa.setCell ⟨w.heap.size, 0, none⟩ (.int .i64 0)).setCell ⟨w.heap.size, 1, none⟩ (.int .i64 0)).setCell ⟨w.heap.size, 2, none⟩ (.int .i64 0)).setCell ⟨w.heap.size, 3, none⟩ (.slice none 0 0) = wz at hB hbz ⊢
  have k0 := hB.cell 0
  have k1 := hB.cell 1
  have k2 := hB.cell 2
  have k3 := hB.cell 3
  simp at k0 k1 k2 k3
  exact bodyPost_ret (v := .tuple #[fv 0 0 0 none 0 0, .int .i64 3]) (by simp [results, Try.results18, go_sem, k0, k1, k2, k3]) rfl (.inl ⟨by rw [HE.out]; decide, by rw [HE.out], hbz⟩)

set_option maxHeartbeats 1000000 in
set_option maxRecDepth 100000 in
theorem rNext_short (B g : Nat) (room : Int) (A : Option Addr) (n c : Nat) (l : List UInt8) (w : World) (h : RParAt w B g room A n c l) (hn : n ≤ 70368744177664) (hs : ¬ n < 9) (hlong : ¬ room < lenI l) (hsh : (n : Int) < 9 + lenI l) :
    Calls Try.prog 18 #[.pointer (some ⟨g, 0, none⟩)] w (RNextPost g room n l w) := by
  have h0 := h.blk.cell 0
  have h1 := h.blk.cell 1
  simp at h0 h1
  have H := hid h
  have H1W := hid h1
  have hlen := h.own.1
  simp at hlen
  have hcap := own_le h.own
  clear h
  have HE : Hid (nextE room l = 4) := hid (by unfold nextE; rw [if_neg (by omega), if_neg hlong, if_pos (by omega)])
  have HS := hid (Bs.of_own H.out.own)
  have HV := hid (be_three (l := l) (by omega))
  have hll := lenI_le l
  clear hlen
  go_enter Try.func18, Try.ntmps18
  go_upto_region 1 with fail
  obtain ⟨wa, hwa⟩ : ∃ wa, w.alloc (.cells #[.int .i64 0, .int .i64 0, .int .i64 0, .slice none 0 0] 30) = wa := ⟨_, rfl⟩
  have hRa : Blk wa w.heap.size 30 #[.int .i64 0, .int .i64 0, .int .i64 0, .slice none 0 0] := by rw [← hwa]; exact Blk.new w _ _
  have hba : Below w.heap.size w wa := by rw [← hwa]; exact (Below.refl _ _).alloc (Nat.le_refl _) _
  have HR := hid hRa
  have HB := hid hba
  have h0 := below_keep hba _ _ h0
  have h1 := below_keep hba _ _ h1
  have hgl := H.out.blk.lt
  have hRl := hRa.lt
  rw [hwa]
  clear hRa hba hwa
  have k0 := HR.out.cell 0
  have k1 := HR.out.cell 1
  have k2 := HR.out.cell 2
  have k3 := HR.out.cell 3
  have kf0 := HR.out.frozen 0
  have kf1 := HR.out.frozen 1
  have kf2 := HR.out.frozen 2
  have kf3 := HR.out.frozen 3
  simp at k0 k1 k2 k3
  go_wp2_with (go_at_call 24; go_must (refine (val_any A 3 c (l.take 3) _ ((HS.out.to (k := 3) (by omega)).below HB.out) (by omega)).mono ?_; rw [HV.out]; rintro e w1 ⟨rfl, rfl⟩))
  have hB := (((HR.out.set_ 0 (.int .i64 0)).set_ 1 (.int .i64 0)).set_ 2 (.int .i64 0)).set_ 3 (.slice none 0 0)
  have hbz := ((((HB.out.setCell (p := ⟨w.heap.size, 0, none⟩) (Nat.le_refl _) (.int .i64 0)).setCell (p := ⟨w.heap.size, 1, none⟩) (Nat.le_refl _) (.int .i64 0)).setCell (p := ⟨w.heap.size, 2, none⟩) (Nat.le_refl _) (.int .i64 0)).setCell (p := ⟨w.heap.size, 3, none⟩) (Nat.le_refl _) (.slice none 0 0))
  clear k0 k1 k2 k3 kf0 kf1 kf2 kf3
  generalize (((wa.setCell ⟨w.heap.size, 0, none⟩ (.int .i64 0)).setCell ⟨w.heap.size, 1, none⟩ (.int .i64 0)).setCell ⟨w.heap.size, 2, none⟩ (.int .i64 0)).setCell ⟨w.heap.size, 3, none⟩ (.slice none 0 0) = wz at hB hbz ⊢
  have k0 := hB.cell 0
  have k1 := hB.cell 1
  have k2 := hB.cell 2
  have k3 := hB.cell 3
  simp at k0 k1 k2 k3
  exact bodyPost_ret (v := .tuple #[fv 0 0 0 none 0 0, .int .i64 4]) (by simp [results, Try.results18, go_sem, k0, k1, k2, k3]) rfl (.inl ⟨by rw [HE.out]; decide, by rw [HE.out], hbz⟩)

set_option maxHeartbeats 1000000 in
set_option maxRecDepth 100000 in
theorem rNext_ok (B g : Nat) (room : Int) (A : Option Addr) (n c : Nat) (l : List UInt8) (w : World) (h : RParAt w B g room A n c l) (hn : n ≤ 70368744177664) (hs : ¬ n < 9) (hlong : ¬ room < lenI l) (hsh : ¬ (n : Int) < 9 + lenI l) :
    Calls Try.prog 18 #[.pointer (some ⟨g, 0, none⟩)] w (RNextPost g room n l w) := by
  have h0 := h.blk.cell 0
  have h1 := h.blk.cell 1
  simp at h0 h1
  have H := hid h
  have H1W := hid h1
  have hlen := h.own.1
  simp at hlen
  have hcap := own_le h.own
  clear h
  have HE : Hid (nextE room l = 0) := hid (by unfold nextE; rw [if_neg (by omega), if_neg hlong, if_neg (by omega)])
  have HS := hid (Bs.of_own H.out.own)
  have HV := hid (be_three (l := l) (by omega))
  have hll := lenI_le l
  have HV4 := hid (be_four (l := l) (by omega))
  obtain ⟨m, hm⟩ : ∃ m : Nat, lenI l = m := ⟨(lenI l).toNat, by omega⟩
  have HM := hid hm
  have hmn : 9 + m ≤ n := by omega
  have hand := str_and (l := l)
  obtain ⟨b, o, _, rfl, _, _⟩ := HS.out.at_ (i := 0) (by omega)
  clear hlen
  go_enter Try.func18, Try.ntmps18
  go_upto_region 1 with fail
  obtain ⟨wa, hwa⟩ : ∃ wa, w.alloc (.cells #[.int .i64 0, .int .i64 0, .int .i64 0, .slice none 0 0] 30) = wa := ⟨_, rfl⟩
  have hRa : Blk wa w.heap.size 30 #[.int .i64 0, .int .i64 0, .int .i64 0, .slice none 0 0] := by rw [← hwa]; exact Blk.new w _ _
  have hba : Below w.heap.size w wa := by rw [← hwa]; exact (Below.refl _ _).alloc (Nat.le_refl _) _
  have HR := hid hRa
  have HB := hid hba
  have h0 := below_keep hba _ _ h0
  have h1 := below_keep hba _ _ h1
  have hgl := H.out.blk.lt
  have hRl := hRa.lt
  rw [hwa]
  clear hRa hba hwa
  have k0 := HR.out.cell 0
  have k1 := HR.out.cell 1
  have k2 := HR.out.cell 2
  have k3 := HR.out.cell 3
  have kf0 := HR.out.frozen 0
  have kf1 := HR.out.frozen 1
  have kf2 := HR.out.frozen 2
  have kf3 := HR.out.frozen 3
  simp at k0 k1 k2 k3
  go_upto_region 8 with (first | (go_at_call 24; go_must (refine (val_any _ 3 c (l.take 3) _ ((HS.out.to (k := 3) (by omega)).below HB.out) (by omega)).mono ?_; rw [HV.out]; rintro e w1 ⟨rfl, rfl⟩)))
  have q3 := below_keep HB.out _ _ (nb_cell HS.out (i := 3) (by omega))
  have q4 := below_keep HB.out _ _ (nb_cell HS.out (i := 4) (by omega))
  have hi3 : (3 : Int) < n := by omega
  have hi4 : (4 : Int) < n := by omega
  have hn9 : (9 : Int) ≤ n := by omega
  have hn9c : (9 : Int) ≤ c := by omega
  have hw3 := IntWalk.i64_in (nb l 3) (by have := nb_le l 3; omega)
  have hw4 := IntWalk.i64_in (nb l 4) (by have := nb_le l 4; omega)
  have hw9 := IntWalk.i64_in (9 + (m : Int)) (by omega)
  have hv5 := ((HS.out.to (k := 9) (by omega)).off (k := 5) (cap := c) (by omega) (by omega)).below HB.out
  rw [List.drop_take] at hv5
  have HV5 := hid hv5
  have hb9 := ((HS.out.to (k := 9 + m) hmn).off (k := 9) (cap := c) (by omega) (by omega)).below HB.out
  rw [Nat.add_sub_cancel_left, List.drop_take, Nat.add_sub_cancel_left] at hb9
  have HB9 := hid hb9
  clear hv5 hb9
  have hm9 : (0 : Int) ≤ 9 + (m : Int) := by omega
  have hm91 : (9 : Int) ≤ 9 + (m : Int) := by omega
  have hm92 : (9 : Int) + (m : Int) ≤ c := by omega
  have hba0 : Below wa.heap.size wa wa := Below.refl _ _
  have hsa : wa.heap.size ≤ wa.heap.size := Nat.le_refl _
  go_cut [5] (fun s5 wx => ∃ (fF c1 : Nat) (A1 : Option Addr), s5 = .pointer (some ⟨fF, 0, none⟩) ∧ Blk wx fF 30 #[.int .i64 (nb l 3), .int .i64 (nb l 4), .int .i64 (strI l), .slice A1 m c1] ∧ Bs wx A1 m ((l.drop 9).take m) ∧ Below wa.heap.size wa wx ∧ wa.heap.size ≤ fF ∧ (∀ ad, A1 = some ad → wa.heap.size ≤ ad.block))
  case first =>
    have ht9 : ((9 : Int) + (m : Int)).toNat - 9 = m := by omega
    go_region_held3 (fun w' => wa.heap.size ≤ w'.heap.size ∧ Below wa.heap.size wa w' ∧ w'.cell? ⟨g, 1, none⟩ = some (.slice (some ⟨b, o, none⟩) n c) ∧ w'.cell? ⟨b, o + 3, none⟩ = some (.int .u8 (nb l 3)) ∧ w'.cell? ⟨b, o + 4, none⟩ = some (.int .u8 (nb l 4)))
      ((refine keepS3 h1 q3 q4 ?_; go_grown; done))
      (first
        | (go_at_call 24; refine (val_any _ 4 _ ((l.drop 5).take 4) _ (HV5.out.below ?_) (by decide)).mono ?_; (focus (go_grown; done)); rw [HV4.out]; rintro e w2 ⟨rfl, rfl⟩)
        | (go_at_call 25; refine (copy_any _ m (c - 9) ((l.drop 9).take m) _ (HB9.out.below ?_) (by omega)).mono ?_; (focus (go_grown; done)); rintro e w3 ⟨A1, c1, rfl, ho, hb3⟩; refine (have hbn : Below wa.heap.size wa w3 := ?_; ?_); (focus (refine below_then ?_ ?_ hb3 <;> (go_grown; done))); have hsn := hbn.size; (first | (have hkF : Blk w3 wa.heap.size 30 #[.int .i64 0, .int .i64 0, .int .i64 0, .slice none 0 0] := Blk.below (Blk.new wa.drew 30 #[.int .i64 0, .int .i64 0, .int .i64 0, .slice none 0 0]) hb3 (by simp); have f0 := hkF.cell 0; have f1 := hkF.cell 1; have f2 := hkF.cell 2; have f3 := hkF.cell 3; have ff0 := hkF.frozen 0; have ff1 := hkF.frozen 1; have ff2 := hkF.frozen 2; have ff3 := hkF.frozen 3; simp at f0 f1 f2 f3) | skip)))
    all_goals
      go_wp2_with fail
      go_meet
    · exact ⟨w3.heap.size, c1, A1, rfl, Blk.new w3 _ _, (Bs.of_own ho).below ((Below.refl _ _).alloc (Nat.le_refl _) _), hbn.alloc hsn _, hsn, fun ad e => by subst e; exact (ho.lt ad.block rfl).1⟩
    · exact ⟨wa.heap.size, c1, A1, rfl, (((hkF.set_ 0 _).set_ 1 _).set_ 2 _).set_ 3 _, (Bs.of_own ho).turned (((((Turned.refl [wa.heap.size] _).setCell (by simp) _).setCell (by simp) _).setCell (by simp) _).setCell (by simp) _) (fun ad e => by subst e; have := (ho.lt ad.block rfl).1; simp at this ⊢; omega), (((hbn.setCell (Nat.le_refl _) _).setCell (Nat.le_refl _) _).setCell (Nat.le_refl _) _).setCell (Nat.le_refl _) _, Nat.le_refl _, fun ad e => by subst e; have := (ho.lt ad.block rfl).1; simp at this; omega⟩
    · exact ⟨wa.heap.size, c1, A1, rfl, (((hkF.set_ 0 _).set_ 1 _).set_ 2 _).set_ 3 _, (Bs.of_own ho).turned (((((Turned.refl [wa.heap.size] _).setCell (by simp) _).setCell (by simp) _).setCell (by simp) _).setCell (by simp) _) (fun ad e => by subst e; have := (ho.lt ad.block rfl).1; simp at this ⊢; omega), (((hbn.setCell (Nat.le_refl _) _).setCell (Nat.le_refl _) _).setCell (Nat.le_refl _) _).setCell (Nat.le_refl _) _, Nat.le_refl _, fun ad e => by subst e; have := (ho.lt ad.block rfl).1; simp at this; omega⟩
  case rest =>
    obtain ⟨fF, c1, A1, rfl, hF, hA1, hbx, hfF, hoA1⟩ := hcut
    have HF := hid hF
    have HA1 := hid hA1
    have HBX := hid hbx
    have HOA := hid hoA1
    have h1c := below_keep hbx _ _ h1
    have HBC := hid (HB.out.trans (hbx.mono HB.out.size))
    have HS9 := hid ((HS.out.off (k := 9 + m) (cap := c) hmn hcap).below HBC.out)
    have hFl := hF.lt
    clear hF hA1 hbx hoA1 h0 h1 q3 q4 hba0 hsa k0 k1 k2 k3 kf0 kf1 kf2 kf3
    go_wp2_with (go_at_call 25; go_must (refine (copy_any _ (n - (9 + m)) (c - (9 + m)) (l.drop (9 + m)) _ HS9.out (by omega)).mono ?_; rintro e w5 ⟨A2, c2, rfl, ho5, hb5⟩; have HO5 := hid ho5; have HB5 := hid hb5; have HB05 := hid (HBC.out.trans (hb5.mono HBC.out.size)); have HF5 := hid (HF.out.below hb5 hFl); have HR5 := hid ((HR.out.below HBX.out HR.out.lt).below hb5 (Nat.lt_of_lt_of_le HR.out.lt HBX.out.size)); have hpf := (H.out.blk.below HB05.out hgl).frozen 1; have hp1 := below_keep HB05.out _ _ H1W.out; clear ho5 hb5; have f0 := HF5.out.cell 0; have f1 := HF5.out.cell 1; have f2 := HF5.out.cell 2; have f3 := HF5.out.cell 3; have ff0 := HF5.out.frozen 0; have ff1 := HF5.out.frozen 1; have ff2 := HF5.out.frozen 2; have ff3 := HF5.out.frozen 3; have r0 := HR5.out.cell 0; have r1 := HR5.out.cell 1; have r2 := HR5.out.cell 2; have r3 := HR5.out.cell 3; have rf0 := HR5.out.frozen 0; have rf1 := HR5.out.frozen 1; have rf2 := HR5.out.frozen 2; have rf3 := HR5.out.frozen 3; simp at f0 f1 f2 f3 r0 r1 r2 r3; have hne2 : g ≠ fF := (by omega); have hne1 : fF ≠ g := (by omega); have hne3 : w.heap.size ≠ g := (by omega); have hne4 : g ≠ w.heap.size := (by omega); have hne5 : w.heap.size ≠ fF := (by omega); have hne6 : fF ≠ w.heap.size := (by omega)))
    clear f0 f1 f2 f3 ff0 ff1 ff2 ff3 r0 r1 r2 r3 rf0 rf1 rf2 rf3 hpf hp1
    have hwc := HBC.out.size
    have ht : Turned [g, w.heap.size] w5 (((((w5.setCell ⟨g, 1, none⟩ (.slice A2 (n - (9 + m)) c2)).setCell ⟨w.heap.size, 0, none⟩ (.int .i64 (nb l 3))).setCell ⟨w.heap.size, 1, none⟩ (.int .i64 (nb l 4))).setCell ⟨w.heap.size, 2, none⟩ (.int .i64 (strI l))).setCell ⟨w.heap.size, 3, none⟩ (.slice A1 m c1)) :=
      (((((Turned.refl _ _).setCell (by simp) _).setCell (by simp) _).setCell (by simp) _).setCell (by simp) _).setCell (by simp) _
    have hRz := (((((HR5.out.turned ((Turned.refl [g] _).setCell (p := ⟨g, 1, none⟩) (by simp) (.slice A2 (n - (9 + m)) c2)) (by simp; omega)).set_ 0 (.int .i64 (nb l 3))).set_ 1 (.int .i64 (nb l 4))).set_ 2 (.int .i64 (strI l))).set_ 3 (.slice A1 m c1))
    have hPf := (H.out.blk.below HB05.out hgl).set_ 1 (.slice A2 (n - (9 + m)) c2)
    have hPz := hPf.turned (((((Turned.refl [w.heap.size] _).setCell (p := ⟨w.heap.size, 0, none⟩) (by simp) (.int .i64 (nb l 3))).setCell (p := ⟨w.heap.size, 1, none⟩) (by simp) (.int .i64 (nb l 4))).setCell (p := ⟨w.heap.size, 2, none⟩) (by simp) (.int .i64 (strI l))).setCell (p := ⟨w.heap.size, 3, none⟩) (by simp) (.slice A1 m c1)) (by simp; omega)
    generalize (((((w5.setCell ⟨g, 1, none⟩ (.slice A2 (n - (9 + m)) c2)).setCell ⟨w.heap.size, 0, none⟩ (.int .i64 (nb l 3))).setCell ⟨w.heap.size, 1, none⟩ (.int .i64 (nb l 4))).setCell ⟨w.heap.size, 2, none⟩ (.int .i64 (strI l))).setCell ⟨w.heap.size, 3, none⟩ (.slice A1 m c1)) = wz at ht hRz hPz ⊢
    have k0 := hRz.cell 0
    have k1 := hRz.cell 1
    have k2 := hRz.cell 2
    have k3 := hRz.cell 3
    simp at k0 k1 k2 k3
    have hA2 : ∀ k, (Value.slice A2 (n - (9 + m)) c2).ownBlock = some k → wc.heap.size ≤ k := fun k hk => (HO5.out.lt k hk).1
    have hxs := HBX.out.size
    refine bodyPost_ret (v := .tuple #[fv (nb l 3) (nb l 4) (strI l) A1 m c1, .int .i64 0]) (by simp [results, Try.results18, go_sem, k0, k1, k2, k3]) rfl (.inr ⟨HE.out, A1, c1, A2, c2, m, HM.out.symm, hmn, rfl, (HA1.out.below HB5.out).turned ht (fun ad e => ?_), ⟨?_, Nat.le_refl _, own_turned (own_base HO5.out (by omega)) ht (fun k hk => ?_)⟩, ?_, fun ad e => ?_, fun ad e => ?_⟩)
    · have := HOA.out ad e
      simp
      omega
    · simpa using hPz
    · have := hA2 k hk
      simp
      omega
    · exact (Turned.of_below HB05.out).trans ht (fun q hq => by simp at hq; simp; omega)
    · have := HOA.out ad e
      omega
    · subst e
      have := hA2 ad.block rfl
      omega

theorem rNext_any (B g : Nat) (room : Int) (A : Option Addr) (n c : Nat) (l : List UInt8) (w : World) (h : RParAt w B g room A n c l) (hn : n ≤ 70368744177664) :
    Calls Try.prog 18 #[.pointer (some ⟨g, 0, none⟩)] w (RNextPost g room n l w) := by
  by_cases hs : n < 9
  · exact rNext_few B g room A n c l w h hn hs
  · by_cases hlong : room < lenI l
    · exact rNext_long B g room A n c l w h hn hs hlong
    · by_cases hsh : (n : Int) < 9 + lenI l
      · exact rNext_short B g room A n c l w h hn hs hlong hsh
      · exact rNext_ok B g room A n c l w h hn hs hlong hsh
end Go.Proofs.Ytakkabilpjjmgaa
