/- The parser of frames, each call once, over whatever memory. Conditions: at most 2^45 bytes at a call. -/
import Derived.Test.YtakkabilpjjmgaaFrameFew
import Derived.Test.YtakkabilpjjmgaaConcat
import Derived.Test.YtakkabilpjjmgaaBits
import Derived.Outline
import Derived.Test.YtakkabilpjjmgaaMix
import Derived.Deep.DeepCutAuto
import Derived.WalkMore
import Derived.ScopeJumps
namespace Go.Proofs.Ytakkabilpjjmgaa
open Go.RowKit
attribute [local go_sem] kd kdS

/-- A parser in block g: it holds l. -/
structure ParAt (w : World) (g : Nat) (room : Int) (A : Option Addr) (n c : Nat) (l : List UInt8) : Prop where
  blk : Blk w g 49 #[.int .i64 room, .slice A n c]
  bs : Bs w A n l
  cap : n ≤ c
  off : Off A [g]

theorem ParAt.below {w w' : World} {g : Nat} {room : Int} {A : Option Addr} {n c : Nat} {l : List UInt8} (h : ParAt w g room A n c l) (hb : Below w.heap.size w w') : ParAt w' g room A n c l :=
  ⟨h.blk.below hb h.blk.lt, h.bs.below hb, h.cap, h.off⟩
theorem ParAt.turned {w w' : World} {g : Nat} {room : Int} {A : Option Addr} {n c : Nat} {l : List UInt8} {F : List Nat} (h : ParAt w g room A n c l) (ht : Turned F w w') (hg : g ∉ F) (hF : Off A F) : ParAt w' g room A n c l :=
  ⟨h.blk.turned ht hg, h.bs.turned ht hF, h.cap, h.off⟩

set_option maxHeartbeats 400000 in
set_option maxRecDepth 100000 in
theorem parNew_any (room : Int) (w : World) :
    Calls Try.prog 15 #[.int .i64 room] w fun e w' => e = .returned (.pointer (some ⟨w.heap.size, 0, none⟩)) ∧ ParAt w' w.heap.size room none 0 0 [] ∧ Below w.heap.size w w' := by
  go_enter Try.func15, Try.ntmps15
  go_wp2_with fail
  go_ret
  exact ⟨rfl, ⟨Blk.new w _ _, Bs.nil _ _, Nat.le_refl _, fun _ h => by cases h⟩, (Below.refl _ _).alloc (Nat.le_refl _) _⟩

set_option maxHeartbeats 400000 in
set_option maxRecDepth 100000 in
theorem parLeft_any (g : Nat) (room : Int) (A : Option Addr) (n c : Nat) (l : List UInt8) (w : World) (h : ParAt w g room A n c l) :
    Calls Try.prog 19 #[.pointer (some ⟨g, 0, none⟩)] w fun e w' => e = .returned (.int .i64 n) ∧ w = w' := by
  have h0 := h.blk.cell 0
  have h1 := h.blk.cell 1
  simp at h0 h1
  clear h
  go_enter Try.func19, Try.ntmps19
  go_wp2_with fail
  go_ret
  exact ⟨rfl, rfl⟩

set_option maxHeartbeats 1000000 in
set_option maxRecDepth 100000 in
theorem parFeed_any (g : Nat) (room : Int) (A : Option Addr) (n c : Nat) (l : List UInt8) (A1 : Option Addr) (n1 c1 : Nat) (l1 : List UInt8) (w : World) (h : ParAt w g room A n c l) (hs : Bs w A1 n1 l1) (hn : n + n1 ≤ 70368744177664) :
    Calls Try.prog 16 #[.pointer (some ⟨g, 0, none⟩), .slice A1 n1 c1] w fun e w' => ∃ A2 c2, e = .returned (.tuple #[]) ∧ ParAt w' g room A2 (n + n1) c2 (l ++ l1) ∧ Turned [g] w w' ∧ (∀ ad, A2 = some ad → w.heap.size ≤ ad.block ∧ ad.block < w'.heap.size) := by
  have h0 := h.blk.cell 0
  have h1 := h.blk.cell 1
  have hf1 := h.blk.frozen 1
  simp at h0 h1
  have H := hid h
  have HS := hid hs
  clear h hs
  go_enter Try.func16, Try.ntmps16
  have hb := (Below.refl w.heap.size w).alloc (Nat.le_refl _) (.cells #[.slice A n c, .slice A1 n1 c1] 25)
  have HB := hid hb
  clear hb
  have hv := Blk.new w 25 #[.slice A n c, .slice A1 n1 c1]
  have HV0 := hid (show (w.alloc (.cells #[.slice A n c, .slice A1 n1 c1] 25)).cell? ⟨w.heap.size, 0, none⟩ = some (.slice A n c) from hv.cell 0)
  have HV1 := hid (show (w.alloc (.cells #[.slice A n c, .slice A1 n1 c1] 25)).cell? ⟨w.heap.size, 1, none⟩ = some (.slice A1 n1 c1) from hv.cell 1)
  clear hv
  go_wp2_with (go_at_call 22; go_must (refine (concat_any _ A n c l A1 n1 c1 l1 _ HV0.out HV1.out (H.out.bs.below HB.out) (HS.out.below HB.out) hn).mono ?_; rintro e w1 ⟨A2, c2, rfl, ho, hb1⟩; have HO := hid ho; have HB1 := hid (HB.out.trans (hb1.mono (by simp))); clear ho hb1; have hg := H.out.blk.lt; have k1 := (H.out.blk.below HB1.out hg).cell 1; have kf := (H.out.blk.below HB1.out hg).frozen 1; simp at k1))
  go_end0
  have ht : Turned [g] w (w1.setCell ⟨g, 1, none⟩ (.slice A2 (n + n1) c2)) := (Turned.of_below HB1.out).setCell (by simp) _
  have hlt : ∀ k, (Value.slice A2 (n + n1) c2).ownBlock = some k → w.heap.size + 1 ≤ k := fun k hk => by have := (HO.out.lt k hk).1; simpa using this
  have hg := H.out.blk.lt
  have ho : Off A2 [g] := fun ad e => by
    subst e
    have := hlt ad.block rfl
    simp
    omega
  refine ⟨A2, c2, rfl, ⟨((H.out.blk.below HB1.out hg).set_ 1 _), (Bs.of_own HO.out).turned ((Turned.refl [g] _).setCell (by simp) _) ho, own_le HO.out, ho⟩, ht, fun ad e => ?_⟩
  subst e
  have := hlt ad.block rfl
  have := (HO.out.lt ad.block rfl).2
  simp [World.setCell]
  omega

/-- Byte i as a number. -/
def nb (l : List UInt8) (i : Nat) : Int := ((l.getD i 0).toNat : Int)
theorem nb_le (l : List UInt8) (i : Nat) : 0 ≤ nb l i ∧ nb l i < 256 := by
  have := (l.getD i 0).toNat_lt
  unfold nb
  omega
theorem nb_cell {w : World} {b o n : Nat} {l : List UInt8} (h : Bs w (some ⟨b, o, none⟩) n l) {i : Nat} (hi : i < n) : w.cell? ⟨b, o + i, none⟩ = some (.int .u8 (nb l i)) := by
  obtain ⟨b', o', x, hA, hx, hc⟩ := h.at_ hi
  injection hA with hA
  injection hA with h1 h2
  subst h1 h2
  rw [hc]
  unfold bv nb
  rw [List.getD_eq_getElem?_getD, hx]
  rfl
/-- The length that a head tells. -/
def lenI (l : List UInt8) : Int := nb l 0 * 65536 + nb l 1 * 256 + nb l 2
theorem lenI_le (l : List UInt8) : 0 ≤ lenI l ∧ lenI l ≤ 16777215 := by
  have h0 := nb_le l 0
  have h1 := nb_le l 1
  have h2 := nb_le l 2
  unfold lenI
  omega
/-- The stream that a head tells. -/
def strI (l : List UInt8) : Int := (nb l 5 * 16777216 + nb l 6 * 65536 + nb l 7 * 256 + nb l 8) % 2147483648
/-- What Next answers: an error, or 0. -/
def nextE (room : Int) (l : List UInt8) : Int :=
  if l.length < 9 then 4 else if room < lenI l then 3 else if (l.length : Int) < 9 + lenI l then 4 else 0

def NextPost (g : Nat) (room : Int) (A : Option Addr) (n c : Nat) (l : List UInt8) (w : World) (e : Ending) (w' : World) : Prop :=
  (nextE room l ≠ 0 ∧ e = .returned (.tuple #[fv 0 0 0 none 0 0, .int .i64 (nextE room l)]) ∧ Below w.heap.size w w') ∨
  (nextE room l = 0 ∧ ∃ (A1 : Option Addr) (c1 : Nat) (A2 : Option Addr) (c2 m : Nat), (m : Int) = lenI l ∧ 9 + m ≤ n ∧ e = .returned (.tuple #[fv (nb l 3) (nb l 4) (strI l) A1 m c1, .int .i64 0]) ∧ Bs w' A1 m ((l.drop 9).take m) ∧
    ParAt w' g room A2 (n - (9 + m)) c2 (l.drop (9 + m)) ∧ Turned [g] w w' ∧ (∀ ad, A1 = some ad → w.heap.size ≤ ad.block) ∧ (∀ ad, A2 = some ad → ∃ ad0, A = some ad0 ∧ ad0.block = ad.block))

theorem be3b (l : List UInt8) : bits .or .i64 (bits .or .i64 (IntKind.i64.wrap (IntKind.i64.wrap (nb l 0) * 65536)) (IntKind.i64.wrap (IntKind.i64.wrap (nb l 1) * 256))) (IntKind.i64.wrap (nb l 2)) = lenI l := by
  have h0 := nb_le l 0
  have h1 := nb_le l 1
  have h2 := nb_le l 2
  rw [IntWalk.i64_in (nb l 0) (by omega), IntWalk.i64_in (nb l 0 * 65536) (by omega), IntWalk.i64_in (nb l 1) (by omega), IntWalk.i64_in (nb l 1 * 256) (by omega), IntWalk.i64_in (nb l 2) (by omega)]
  have e1 := or_add (nb l 0) (nb l 1 * 256) 16 (by omega) (by omega) (by omega) (by omega) (by omega)
  rw [show nb l 0 * 65536 = 2 ^ 16 * nb l 0 by omega, e1]
  have e2 := or_add (nb l 0 * 256 + nb l 1) (nb l 2) 8 (by omega) (by omega) (by omega) (by omega) (by omega)
  rw [show (2 : Int) ^ 16 * nb l 0 + nb l 1 * 256 = 2 ^ 8 * (nb l 0 * 256 + nb l 1) by omega, e2]
  unfold lenI
  omega

theorem be4b (l : List UInt8) : bits .and .i64 (bits .or .i64 (bits .or .i64 (bits .or .i64 (IntKind.i64.wrap (IntKind.i64.wrap (nb l 5) * 16777216)) (IntKind.i64.wrap (IntKind.i64.wrap (nb l 6) * 65536))) (IntKind.i64.wrap (IntKind.i64.wrap (nb l 7) * 256))) (IntKind.i64.wrap (nb l 8))) 2147483647 = strI l := by
  have h0 := nb_le l 5
  have h1 := nb_le l 6
  have h2 := nb_le l 7
  have h3 := nb_le l 8
  rw [IntWalk.i64_in (nb l 5) (by omega), IntWalk.i64_in (nb l 5 * 16777216) (by omega), IntWalk.i64_in (nb l 6) (by omega), IntWalk.i64_in (nb l 6 * 65536) (by omega), IntWalk.i64_in (nb l 7) (by omega), IntWalk.i64_in (nb l 7 * 256) (by omega), IntWalk.i64_in (nb l 8) (by omega)]
  have e0 := or_add (nb l 5) (nb l 6 * 65536) 24 (by omega) (by omega) (by omega) (by omega) (by omega)
  rw [show nb l 5 * 16777216 = 2 ^ 24 * nb l 5 by omega, e0]
  have e1 := or_add (nb l 5 * 256 + nb l 6) (nb l 7 * 256) 16 (by omega) (by omega) (by omega) (by omega) (by omega)
  rw [show (2 : Int) ^ 24 * nb l 5 + nb l 6 * 65536 = 2 ^ 16 * (nb l 5 * 256 + nb l 6) by omega, e1]
  have e2 := or_add (nb l 5 * 65536 + nb l 6 * 256 + nb l 7) (nb l 8) 8 (by omega) (by omega) (by omega) (by omega) (by omega)
  rw [show (2 : Int) ^ 16 * (nb l 5 * 256 + nb l 6) + nb l 7 * 256 = 2 ^ 8 * (nb l 5 * 65536 + nb l 6 * 256 + nb l 7) by omega, e2]
  obtain ⟨q, hq⟩ : ∃ q : Nat, (2 : Int) ^ 8 * (nb l 5 * 65536 + nb l 6 * 256 + nb l 7) + nb l 8 = q := ⟨((2 : Int) ^ 8 * (nb l 5 * 65536 + nb l 6 * 256 + nb l 7) + nb l 8).toNat, by omega⟩
  have h5 := i64_and q (2 ^ 31 - 1) (by omega) (by omega)
  rw [Nat.and_two_pow_sub_one_eq_mod] at h5
  rw [hq, show (2147483647 : Int) = ((2 ^ 31 - 1 : Nat) : Int) by omega, h5]
  unfold strI
  omega

/-- A frame in which some slots hold whatever. -/
theorem frame_any {F : (Nat → Value) → Act} (a : Act) (h : a = F (fun i => a.tmps.getD i undef)) : ∃ us, a = F us := ⟨_, h⟩

set_option maxHeartbeats 1000000 in
set_option maxRecDepth 100000 in
theorem parNext_few (g : Nat) (room : Int) (A : Option Addr) (n c : Nat) (l : List UInt8) (w : World) (h : ParAt w g room A n c l) (hn : n ≤ 70368744177664) (hs : n < 9) :
    Calls Try.prog 17 #[.pointer (some ⟨g, 0, none⟩)] w (NextPost g room A n c l w) := by
  have h0 := h.blk.cell 0
  have h1 := h.blk.cell 1
  have hf1 := h.blk.frozen 1
  simp at h0 h1
  have H := hid h
  have H1W := hid h1
  have hlen := h.bs.len
  have hcap := h.cap
  clear h
  have HE : Hid (nextE room l = 4) := hid (by unfold nextE; rw [if_pos (by omega)])
  clear hlen
  go_enter Try.func17, Try.ntmps17
  go_wp2_with fail
  obtain ⟨wa, hwa⟩ : ∃ wa, w.alloc (.cells #[.int .i64 0, .int .i64 0, .int .i64 0, .slice none 0 0] 30) = wa := ⟨_, rfl⟩
  have hRa : Blk wa w.heap.size 30 #[.int .i64 0, .int .i64 0, .int .i64 0, .slice none 0 0] := by rw [← hwa]; exact Blk.new w _ _
  have hba : Below w.heap.size w wa := by rw [← hwa]; exact (Below.refl _ _).alloc (Nat.le_refl _) _
  have HR := hid hRa
  have HB := hid hba
  have h0 := below_keep hba _ _ h0
  have h1 := below_keep hba _ _ h1
  have hgl := H.out.blk.lt
  have hRl := hRa.lt
  have e1 : wa.heap.size ≠ g := by have := hba.size; omega
  rw [hwa]
  clear hRa hba hwa
  refine wp_scope_jumps 0 (fun a' w' => (∃ us : Nat → Value, a' = { tmps := #[.pointer (some ⟨g, 0, none⟩), us 1, .pointer (some ⟨w.heap.size, 0, none⟩), us 3, us 4, us 5, us 6, us 7, us 8, us 9, us 10, us 11, us 12, us 13, us 14, us 15, us 16, us 17, us 18, us 19, us 20, us 21, us 22, us 23, us 24, us 25, us 26, us 27, us 28, us 29, us 30, us 31, us 32, us 33, us 34, us 35, us 36, us 37, us 38, us 39, us 40, us 41, us 42, us 43, us 44, us 45, us 46, us 47, us 48, us 49, us 50, us 51, us 52, us 53, us 54, us 55, us 56, us 57, us 58, us 59, us 60, us 61, us 62, us 63, us 64, us 65, us 66, us 67, us 68, us 69, us 70, us 71, us 72, us 73, us 74, us 75, us 76, us 77, us 78, us 79, us 80, us 81, us 82, us 83, us 84, us 85, us 86, us 87, us 88, us 89, us 90, us 91, us 92, us 93, us 94, us 95, us 96, us 97, us 98, us 99, us 100, us 101, us 102, us 103, us 104, us 105, us 106, us 107, us 108, us 109, us 110, us 111, us 112, us 113, us 114, us 115, us 116, us 117, us 118, us 119, us 120, us 121, us 122, us 123, us 124], defers := [] }) ∧ Blk w' w.heap.size 30 #[.int .i64 0, .int .i64 0, .int .i64 0, .slice none 0 0] ∧ Below w.heap.size w w') (fun _ _ => 0) rfl ?_ ?_
  · go_upto_region 3 with fail
    obtain ⟨wb, hwb⟩ : ∃ wb, wa.alloc (.cells #[.int .i64 0, .int .i64 0, .int .i64 0, .slice none 0 0] 30) = wb := ⟨_, rfl⟩
    have hFb : Blk wb wa.heap.size 30 #[.int .i64 0, .int .i64 0, .int .i64 0, .slice none 0 0] := by rw [← hwb]; exact Blk.new wa _ _
    have hbb : Below wa.heap.size wa wb := by rw [← hwb]; exact (Below.refl _ _).alloc (Nat.le_refl _) _
    have HF := hid hFb
    have HRb := hid (HR.out.below hbb HR.out.lt)
    have HBb := hid (HB.out.trans (hbb.mono HB.out.size))
    have HBa := hid hbb
    have h0 := below_keep hbb _ _ h0
    have h1 := below_keep hbb _ _ h1
    have hFl := hFb.lt
    rw [hwb]
    clear hFb hbb hwb e1
    go_wp2_with fail
    go_step3
    exact ⟨rfl, frame_any _ rfl, HRb.out, HBb.out⟩
  · rintro a' w' ⟨⟨us, rfl⟩, hblk, hb⟩
    have k0 := hblk.cell 0
    have k1 := hblk.cell 1
    have k2 := hblk.cell 2
    have k3 := hblk.cell 3
    have kf0 := hblk.frozen 0
    have kf1 := hblk.frozen 1
    have kf2 := hblk.frozen 2
    have kf3 := hblk.frozen 3
    simp at k0 k1 k2 k3
    have HK := hid hblk
    have HB := hid hb
    clear hblk hb
    go_wp2_with fail
    simp only [Exit.jump]
    have hB := (((HK.out.set_ 0 (.int .i64 0)).set_ 1 (.int .i64 0)).set_ 2 (.int .i64 0)).set_ 3 (.slice none 0 0)
    have hbz := ((((HB.out.setCell (p := ⟨w.heap.size, 0, none⟩) (Nat.le_refl _) (.int .i64 0)).setCell (p := ⟨w.heap.size, 1, none⟩) (Nat.le_refl _) (.int .i64 0)).setCell (p := ⟨w.heap.size, 2, none⟩) (Nat.le_refl _) (.int .i64 0)).setCell (p := ⟨w.heap.size, 3, none⟩) (Nat.le_refl _) (.slice none 0 0))
    clear k0 k1 k2 k3 kf0 kf1 kf2 kf3
    generalize (((w'.setCell ⟨w.heap.size, 0, none⟩ (.int .i64 0)).setCell ⟨w.heap.size, 1, none⟩ (.int .i64 0)).setCell ⟨w.heap.size, 2, none⟩ (.int .i64 0)).setCell ⟨w.heap.size, 3, none⟩ (.slice none 0 0) = wz at hB hbz ⊢
    have k0 := hB.cell 0
    have k1 := hB.cell 1
    have k2 := hB.cell 2
    have k3 := hB.cell 3
    simp at k0 k1 k2 k3
    exact bodyPost_ret (v := .tuple #[fv 0 0 0 none 0 0, .int .i64 4]) (by simp [results, Try.results17, go_sem, k0, k1, k2, k3]) rfl (.inl ⟨by rw [HE.out]; decide, by rw [HE.out], hbz⟩)

set_option maxHeartbeats 1000000 in
set_option maxRecDepth 100000 in
theorem parNext_long (g : Nat) (room : Int) (A : Option Addr) (n c : Nat) (l : List UInt8) (w : World) (h : ParAt w g room A n c l) (hn : n ≤ 70368744177664) (hs : ¬ n < 9) (hlong : room < lenI l) :
    Calls Try.prog 17 #[.pointer (some ⟨g, 0, none⟩)] w (NextPost g room A n c l w) := by
  have h0 := h.blk.cell 0
  have h1 := h.blk.cell 1
  have hf1 := h.blk.frozen 1
  simp at h0 h1
  have H := hid h
  have H1W := hid h1
  have hlen := h.bs.len
  have hcap := h.cap
  clear h
  obtain ⟨b, o, _, rfl, _, _⟩ := H.out.bs.at_ (i := 0) (by omega)
  have c0w := nb_cell H.out.bs (i := 0) (by omega)
  rw [Nat.add_zero] at c0w
  have c1w := nb_cell H.out.bs (i := 1) (by omega)
  have c2w := nb_cell H.out.bs (i := 2) (by omega)
  have b0 := nb_le l 0
  have b1 := nb_le l 1
  have b2 := nb_le l 2
  have hl3 := be3b l
  have hi1 : (1 : Int) < n := by omega
  have hi2 : (2 : Int) < n := by omega
  have hi0 : (0 : Int) < n := by omega
  have HE : Hid (nextE room l = 3) := hid (by unfold nextE; rw [if_neg (by omega), if_pos hlong])
  clear hlen
  go_enter Try.func17, Try.ntmps17
  go_wp2_with fail
  obtain ⟨wa, hwa⟩ : ∃ wa, w.alloc (.cells #[.int .i64 0, .int .i64 0, .int .i64 0, .slice none 0 0] 30) = wa := ⟨_, rfl⟩
  have hRa : Blk wa w.heap.size 30 #[.int .i64 0, .int .i64 0, .int .i64 0, .slice none 0 0] := by rw [← hwa]; exact Blk.new w _ _
  have hba : Below w.heap.size w wa := by rw [← hwa]; exact (Below.refl _ _).alloc (Nat.le_refl _) _
  have HR := hid hRa
  have HB := hid hba
  have h0 := below_keep hba _ _ h0
  have h1 := below_keep hba _ _ h1
  have hgl := H.out.blk.lt
  have hRl := hRa.lt
  have e1 : wa.heap.size ≠ g := by have := hba.size; omega
  rw [hwa]
  clear hRa hba hwa
  refine wp_scope_jumps 0 (fun _ _ => False) (fun _ _ => 0) rfl ?_ (fun _ _ h => h.elim)
  go_upto_region 3 with fail
  obtain ⟨wb, hwb⟩ : ∃ wb, wa.alloc (.cells #[.int .i64 0, .int .i64 0, .int .i64 0, .slice none 0 0] 30) = wb := ⟨_, rfl⟩
  have hFb : Blk wb wa.heap.size 30 #[.int .i64 0, .int .i64 0, .int .i64 0, .slice none 0 0] := by rw [← hwb]; exact Blk.new wa _ _
  have hbb : Below wa.heap.size wa wb := by rw [← hwb]; exact (Below.refl _ _).alloc (Nat.le_refl _) _
  have HF := hid hFb
  have HRb := hid (HR.out.below hbb HR.out.lt)
  have HBb := hid (HB.out.trans (hbb.mono HB.out.size))
  have HBa := hid hbb
  have h0 := below_keep hbb _ _ h0
  have h1 := below_keep hbb _ _ h1
  have hFl := hFb.lt
  rw [hwb]
  clear hFb hbb hwb e1
  have c0 := below_keep (HBb.out) _ _ c0w
  have c1 := below_keep HBb.out _ _ c1w
  have c2 := below_keep HBb.out _ _ c2w
  go_wp2_with fail
  go_outline
  have k0 := HRb.out.cell 0
  have k1 := HRb.out.cell 1
  have k2 := HRb.out.cell 2
  have k3 := HRb.out.cell 3
  have kf0 := HRb.out.frozen 0
  have kf1 := HRb.out.frozen 1
  have kf2 := HRb.out.frozen 2
  have kf3 := HRb.out.frozen 3
  simp at k0 k1 k2 k3
  (refine wp_mix ?_ ?_ ?_; (focus kernel_rfl); (focus kernel_rfl); intro KK hKK; go_wp2_with (first
        | (fail)
        | (with_reducible refine mix_nil ?_)
        | ((with_reducible refine mix_on ?_ ?_); (focus rfl); intro K hK; go_simp)
        | ((with_reducible refine mix_off ?_ ?_); (focus rfl); intro K hK; go_simp)
        | ((with_reducible refine mix_step ?_); intro K hK; go_simp)))
  simp only [Exit.jump]
  have hB := ((((HRb.out.set_ 0 (.int .i64 0)).set_ 1 (.int .i64 0)).set_ 2 (.int .i64 0)).set_ 3 (.slice none 0 0)).drew
  have hbz := ((((HBb.out.setCell (p := ⟨w.heap.size, 0, none⟩) (Nat.le_refl _) (.int .i64 0)).setCell (p := ⟨w.heap.size, 1, none⟩) (Nat.le_refl _) (.int .i64 0)).setCell (p := ⟨w.heap.size, 2, none⟩) (Nat.le_refl _) (.int .i64 0)).setCell (p := ⟨w.heap.size, 3, none⟩) (Nat.le_refl _) (.slice none 0 0)).drew
  clear k0 k1 k2 k3 kf0 kf1 kf2 kf3
  generalize ((((wb.setCell ⟨w.heap.size, 0, none⟩ (.int .i64 0)).setCell ⟨w.heap.size, 1, none⟩ (.int .i64 0)).setCell ⟨w.heap.size, 2, none⟩ (.int .i64 0)).setCell ⟨w.heap.size, 3, none⟩ (.slice none 0 0)).drew = wz at hB hbz ⊢
  have k0 := hB.cell 0
  have k1 := hB.cell 1
  have k2 := hB.cell 2
  have k3 := hB.cell 3
  simp at k0 k1 k2 k3
  exact bodyPost_ret (v := .tuple #[fv 0 0 0 none 0 0, .int .i64 3]) (by simp [results, Try.results17, go_sem, k0, k1, k2, k3]) rfl (.inl ⟨by rw [HE.out]; decide, by rw [HE.out], hbz⟩)

set_option maxHeartbeats 1000000 in
set_option maxRecDepth 100000 in
theorem parNext_short (g : Nat) (room : Int) (A : Option Addr) (n c : Nat) (l : List UInt8) (w : World) (h : ParAt w g room A n c l) (hn : n ≤ 70368744177664) (hs : ¬ n < 9) (hlong : ¬ room < lenI l) (hsh : (n : Int) < 9 + lenI l) :
    Calls Try.prog 17 #[.pointer (some ⟨g, 0, none⟩)] w (NextPost g room A n c l w) := by
  have h0 := h.blk.cell 0
  have h1 := h.blk.cell 1
  have hf1 := h.blk.frozen 1
  simp at h0 h1
  have H := hid h
  have H1W := hid h1
  have hlen := h.bs.len
  have hcap := h.cap
  clear h
  obtain ⟨b, o, _, rfl, _, _⟩ := H.out.bs.at_ (i := 0) (by omega)
  have c0w := nb_cell H.out.bs (i := 0) (by omega)
  rw [Nat.add_zero] at c0w
  have c1w := nb_cell H.out.bs (i := 1) (by omega)
  have c2w := nb_cell H.out.bs (i := 2) (by omega)
  have b0 := nb_le l 0
  have b1 := nb_le l 1
  have b2 := nb_le l 2
  have hl3 := be3b l
  have hi1 : (1 : Int) < n := by omega
  have hi2 : (2 : Int) < n := by omega
  have hi0 : (0 : Int) < n := by omega
  have HE : Hid (nextE room l = 4) := hid (by unfold nextE; rw [if_neg (by omega), if_neg hlong, if_pos (by omega)])
  clear hlen
  go_enter Try.func17, Try.ntmps17
  go_wp2_with fail
  obtain ⟨wa, hwa⟩ : ∃ wa, w.alloc (.cells #[.int .i64 0, .int .i64 0, .int .i64 0, .slice none 0 0] 30) = wa := ⟨_, rfl⟩
  have hRa : Blk wa w.heap.size 30 #[.int .i64 0, .int .i64 0, .int .i64 0, .slice none 0 0] := by rw [← hwa]; exact Blk.new w _ _
  have hba : Below w.heap.size w wa := by rw [← hwa]; exact (Below.refl _ _).alloc (Nat.le_refl _) _
  have HR := hid hRa
  have HB := hid hba
  have h0 := below_keep hba _ _ h0
  have h1 := below_keep hba _ _ h1
  have hgl := H.out.blk.lt
  have hRl := hRa.lt
  have e1 : wa.heap.size ≠ g := by have := hba.size; omega
  rw [hwa]
  clear hRa hba hwa
  refine wp_scope_jumps 0 (fun a' w' => (∃ us : Nat → Value, a' = { tmps := #[.pointer (some ⟨g, 0, none⟩), us 1, .pointer (some ⟨w.heap.size, 0, none⟩), us 3, us 4, us 5, us 6, us 7, us 8, us 9, us 10, us 11, us 12, us 13, us 14, us 15, us 16, us 17, us 18, us 19, us 20, us 21, us 22, us 23, us 24, us 25, us 26, us 27, us 28, us 29, us 30, us 31, us 32, us 33, us 34, us 35, us 36, us 37, us 38, us 39, us 40, us 41, us 42, us 43, us 44, us 45, us 46, us 47, us 48, us 49, us 50, us 51, us 52, us 53, us 54, us 55, us 56, us 57, us 58, us 59, us 60, us 61, us 62, us 63, us 64, us 65, us 66, us 67, us 68, us 69, us 70, us 71, us 72, us 73, us 74, us 75, us 76, us 77, us 78, us 79, us 80, us 81, us 82, us 83, us 84, us 85, us 86, us 87, us 88, us 89, us 90, us 91, us 92, us 93, us 94, us 95, us 96, us 97, us 98, us 99, us 100, us 101, us 102, us 103, us 104, us 105, us 106, us 107, us 108, us 109, us 110, us 111, us 112, us 113, us 114, us 115, us 116, us 117, us 118, us 119, us 120, us 121, us 122, us 123, us 124], defers := [] }) ∧ Blk w' w.heap.size 30 #[.int .i64 0, .int .i64 0, .int .i64 0, .slice none 0 0] ∧ Below w.heap.size w w') (fun _ _ => 0) rfl ?_ ?_
  · go_upto_region 3 with fail
    obtain ⟨wb, hwb⟩ : ∃ wb, wa.alloc (.cells #[.int .i64 0, .int .i64 0, .int .i64 0, .slice none 0 0] 30) = wb := ⟨_, rfl⟩
    have hFb : Blk wb wa.heap.size 30 #[.int .i64 0, .int .i64 0, .int .i64 0, .slice none 0 0] := by rw [← hwb]; exact Blk.new wa _ _
    have hbb : Below wa.heap.size wa wb := by rw [← hwb]; exact (Below.refl _ _).alloc (Nat.le_refl _) _
    have HF := hid hFb
    have HRb := hid (HR.out.below hbb HR.out.lt)
    have HBb := hid (HB.out.trans (hbb.mono HB.out.size))
    have HBa := hid hbb
    have h0 := below_keep hbb _ _ h0
    have h1 := below_keep hbb _ _ h1
    have hFl := hFb.lt
    rw [hwb]
    clear hFb hbb hwb e1
    have c0 := below_keep (HBb.out) _ _ c0w
    have c1 := below_keep HBb.out _ _ c1w
    have c2 := below_keep HBb.out _ _ c2w
    go_wp2_with fail
    go_outline
    (refine wp_mix ?_ ?_ ?_; (focus kernel_rfl); (focus kernel_rfl); intro KK hKK; go_wp2_with (first
          | (fail)
          | (with_reducible refine mix_nil ?_)
          | ((with_reducible refine mix_on ?_ ?_); (focus rfl); intro K hK; go_simp)
          | ((with_reducible refine mix_off ?_ ?_); (focus rfl); intro K hK; go_simp)
          | ((with_reducible refine mix_step ?_); intro K hK; go_simp)))
    go_step3
    exact ⟨rfl, frame_any _ rfl, HRb.out.drew, HBb.out.drew⟩
  · rintro a' w' ⟨⟨us, rfl⟩, hblk, hb⟩
    have k0 := hblk.cell 0
    have k1 := hblk.cell 1
    have k2 := hblk.cell 2
    have k3 := hblk.cell 3
    have kf0 := hblk.frozen 0
    have kf1 := hblk.frozen 1
    have kf2 := hblk.frozen 2
    have kf3 := hblk.frozen 3
    simp at k0 k1 k2 k3
    have HK := hid hblk
    have HB := hid hb
    clear hblk hb
    go_wp2_with fail
    simp only [Exit.jump]
    have hB := (((HK.out.set_ 0 (.int .i64 0)).set_ 1 (.int .i64 0)).set_ 2 (.int .i64 0)).set_ 3 (.slice none 0 0)
    have hbz := ((((HB.out.setCell (p := ⟨w.heap.size, 0, none⟩) (Nat.le_refl _) (.int .i64 0)).setCell (p := ⟨w.heap.size, 1, none⟩) (Nat.le_refl _) (.int .i64 0)).setCell (p := ⟨w.heap.size, 2, none⟩) (Nat.le_refl _) (.int .i64 0)).setCell (p := ⟨w.heap.size, 3, none⟩) (Nat.le_refl _) (.slice none 0 0))
    clear k0 k1 k2 k3 kf0 kf1 kf2 kf3
    generalize (((w'.setCell ⟨w.heap.size, 0, none⟩ (.int .i64 0)).setCell ⟨w.heap.size, 1, none⟩ (.int .i64 0)).setCell ⟨w.heap.size, 2, none⟩ (.int .i64 0)).setCell ⟨w.heap.size, 3, none⟩ (.slice none 0 0) = wz at hB hbz ⊢
    have k0 := hB.cell 0
    have k1 := hB.cell 1
    have k2 := hB.cell 2
    have k3 := hB.cell 3
    simp at k0 k1 k2 k3
    exact bodyPost_ret (v := .tuple #[fv 0 0 0 none 0 0, .int .i64 4]) (by simp [results, Try.results17, go_sem, k0, k1, k2, k3]) rfl (.inl ⟨by rw [HE.out]; decide, by rw [HE.out], hbz⟩)
end Go.Proofs.Ytakkabilpjjmgaa
