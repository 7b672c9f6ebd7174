/- The pipe: each call once, over whatever memory. Conditions: at most 2^45 bytes at a call. -/
import Derived.Test.YtefhadfcipifmaaBytesFn
namespace Go.Proofs.Ytefhadfcipifmaa
open Go.RowKit
attribute [local go_sem] kd kdS

/-- A pipe in block g: it holds l. -/
structure PipeAt (t : TypeId) (w : World) (B g : Nat) (room : Int) (A : Option Addr) (n c : Nat) (l : List UInt8) (i o : Int) : Prop where
  blk : Blk w g t #[.int .i64 room, .slice A n c, .int .i64 i, .int .i64 o]
  base : B ≤ g
  own : w.ownsRow B 5 1 (.slice A n c) n (l.map bv)
  fits : (n : Int) ≤ room

theorem PipeAt.c0 {t : TypeId} {w : World} {B g : Nat} {room : Int} {A : Option Addr} {n c : Nat} {l : List UInt8} {i o : Int} (h : PipeAt t w B g room A n c l i o) :
    w.cell? ⟨g, 0, none⟩ = some (.int .i64 room) ∧ w.cell? ⟨g, 1, none⟩ = some (.slice A n c) ∧ w.cell? ⟨g, 2, none⟩ = some (.int .i64 i) ∧ w.cell? ⟨g, 3, none⟩ = some (.int .i64 o) ∧
    w.frozen? ⟨g, 1, none⟩ = false ∧ w.frozen? ⟨g, 2, none⟩ = false ∧ w.frozen? ⟨g, 3, none⟩ = false :=
  ⟨h.blk.cell 0, h.blk.cell 1, h.blk.cell 2, h.blk.cell 3, h.blk.frozen 1, h.blk.frozen 2, h.blk.frozen 3⟩

/-- How many bytes are looked at. -/
def lookN (n : Int) (m : Nat) : Nat := min n.toNat m
theorem lookN_le (n : Int) (m : Nat) : lookN n m ≤ m := Nat.min_le_right _ _
theorem lookN_int (n : Int) (m : Nat) : (lookN n m : Int) = min (max n 0) m := by unfold lookN; omega
/-- How many bytes go in. -/
def putN (k : Nat) (room : Int) (n : Nat) : Nat := min k (Int.toNat (room - (n : Int)))
theorem putN_le (k : Nat) (room : Int) (n : Nat) : putN k room n ≤ k := Nat.min_le_left _ _
theorem putN_int {k n : Nat} {room : Int} (h : (n : Int) ≤ room) : (putN k room n : Int) = min (k : Int) (room - n) := by unfold putN; omega

theorem PipeAt.below {t : TypeId} {w w' : World} {B g : Nat} {room : Int} {A : Option Addr} {n c : Nat} {l : List UInt8} {i o : Int} (h : PipeAt t w B g room A n c l i o) (hb : Below w.heap.size w w') : PipeAt t w' B g room A n c l i o :=
  ⟨h.blk.below hb h.blk.lt, h.base, own_below h.own hb, h.fits⟩
/-- The pipe lies off F. -/
theorem PipeAt.turned {t : TypeId} {w w' : World} {B g : Nat} {room : Int} {A : Option Addr} {n c : Nat} {l : List UInt8} {i o : Int} {F : List Nat} (h : PipeAt t w B g room A n c l i o) (ht : Turned F w w') (hg : g ∉ F) (hF : ∀ k, (Value.slice A n c).ownBlock = some k → k ∉ F) : PipeAt t w' B g room A n c l i o :=
  ⟨h.blk.turned ht hg, h.base, own_turned h.own ht hF, h.fits⟩
theorem PipeAt.own_ne {t : TypeId} {w : World} {B g : Nat} {room : Int} {A : Option Addr} {n c : Nat} {l : List UInt8} {i o : Int} (h : PipeAt t w B g room A n c l i o) (ht : 5 ≠ t) : (Value.slice A n c).ownBlock ≠ some g :=
  h.blk.own_ne h.own ht

--PIPE
set_option maxHeartbeats 400000 in
set_option maxRecDepth 100000 in
theorem new_any (room : Int) (w : World) :
    Calls Try.prog 32 #[.int .i64 room] w fun e w' => e = .returned (.pointer (some ⟨w.heap.size, 0, none⟩)) ∧ PipeAt 64 w' w.heap.size w.heap.size (max room 0) none 0 0 [] 0 0 ∧ Below w.heap.size w w' := by
  go_enter Try.func32, Try.ntmps32
  go_wp2_with fail
  · rw [show max room 0 = 0 by omega]
    go_ret
    exact ⟨rfl, ⟨Blk.new w _ _, Nat.le_refl _, World.ownsRow_nil _ _ _ _, by omega⟩, (Below.refl _ _).alloc (Nat.le_refl _) _⟩
  · rw [show max room 0 = room by omega]
    go_ret
    exact ⟨rfl, ⟨Blk.new w _ _, Nat.le_refl _, World.ownsRow_nil _ _ _ _, by omega⟩, (Below.refl _ _).alloc (Nat.le_refl _) _⟩

set_option maxHeartbeats 400000 in
set_option maxRecDepth 100000 in
theorem len_any (B g : Nat) (room : Int) (A : Option Addr) (n c : Nat) (l : List UInt8) (i o : Int) (w : World) (h : PipeAt 64 w B g room A n c l i o) :
    Calls Try.prog 36 #[.pointer (some ⟨g, 0, none⟩)] w fun e w' => e = .returned (.int .i64 n) ∧ w = w' := by
  obtain ⟨h0, h1, h2, h3, f1, f2, f3⟩ := h.c0
  go_enter Try.func36, Try.ntmps36
  go_wp2_with fail
  go_ret
  exact ⟨rfl, rfl⟩



set_option maxHeartbeats 400000 in
set_option maxRecDepth 100000 in
theorem free_any (B g : Nat) (room : Int) (A : Option Addr) (n c : Nat) (l : List UInt8) (i o : Int) (w : World) (h : PipeAt 64 w B g room A n c l i o) (hr : room ≤ 9223372036854775807) :
    Calls Try.prog 39 #[.pointer (some ⟨g, 0, none⟩)] w fun e w' => e = .returned (.int .i64 (room - n)) ∧ Below w.heap.size w w' := by
  obtain ⟨h0, h1, h2, h3, f1, f2, f3⟩ := h.c0
  have hf := h.fits
  have hq := IntWalk.i64_in (room - n) (by omega)
  go_enter Try.func39, Try.ntmps39
  go_wp2_with fail
  go_quiet (fail)
  go_wp2_with fail
  go_ret
  exact ⟨rfl, below_drewN (Below.refl _ _) _⟩

set_option maxHeartbeats 400000 in
set_option maxRecDepth 100000 in
theorem look_any (m : Int) (B g : Nat) (room : Int) (A : Option Addr) (n c : Nat) (l : List UInt8) (i o : Int) (w : World) (h : PipeAt 64 w B g room A n c l i o) (hn : n ≤ 70368744177664) :
    Calls Try.prog 37 #[.pointer (some ⟨g, 0, none⟩), .int .i64 m] w fun e w' => ∃ A' c', e = .returned (.slice A' (lookN m n) c') ∧
      w'.ownsRow w.heap.size 5 1 (.slice A' (lookN m n) c') (lookN m n) ((l.take (lookN m n)).map bv) ∧ Below w.heap.size w w' := by
  obtain ⟨h0, h1, h2, h3, f1, f2, f3⟩ := h.c0
  have hs := (Bs.of_own h.own).take (lookN_le m n)
  rw [Nat.mul_one, ← List.map_take] at hs
  have HS := hid (show Bs w A (lookN m n) (l.take (lookN m n)) from hs)
  have hle := own_le h.own
  clear hs h
  rcases Int.lt_or_le m 0 with hm | hm
  · have hk : lookN m n = 0 := by have := lookN_int m n; omega
    rw [hk] at HS ⊢
    clear hk
    go_enter Try.func37, Try.ntmps37
    go_wp2_with fail
    (refine wp_mix ?_ ?_ ?_; (focus kernel_rfl); (focus kernel_rfl); intro KK hKK; go_wp2_with (first
          | (go_at_call 40; (with_reducible refine (clone_any A 0 c _ _ (HS.out.below (Below.refl _ _).drew) (by omega)).mono ?_); rintro e w' ⟨A', c', rfl, hown, hb⟩; have HO := hid hown; have HB := hid hb; clear hown hb)
          | (with_reducible refine mix_nil ?_)
          | ((with_reducible refine mix_on ?_ ?_); (focus rfl); intro K hK; go_simp; (first | ((with_reducible refine hK _ _ ?_); clear hK K) | skip))
          | ((with_reducible refine mix_off ?_ ?_); (focus rfl); intro K hK; go_simp; (first | ((with_reducible refine hK _ _ ?_); clear hK K) | skip))
          | ((with_reducible refine mix_step ?_); intro K hK; go_simp; (first | ((with_reducible refine hK _ _ ?_); clear hK K) | skip))))
    go_ret
    exact ⟨A', c', rfl, by first | exact own_base HO.out (Nat.le_refl _) | (rw [← List.map_take]; exact own_base HO.out (Nat.le_refl _)), (Below.refl _ _).drew.trans HB.out⟩
  · obtain ⟨k, rfl⟩ : ∃ k : Nat, m = k := ⟨m.toNat, by omega⟩
    rcases Nat.lt_or_ge n k with hkn | hkn
    · have hk : lookN k n = n := by have := lookN_int k n; omega
      rw [hk] at HS ⊢
      clear hk
      go_enter Try.func37, Try.ntmps37
      go_wp2_with fail
      (refine wp_mix ?_ ?_ ?_; (focus kernel_rfl); (focus kernel_rfl); intro KK hKK; go_wp2_with (first
            | (go_at_call 40; (with_reducible refine (clone_any A n c _ _ (HS.out.below (Below.refl _ _).drew) (by omega)).mono ?_); rintro e w' ⟨A', c', rfl, hown, hb⟩; have HO := hid hown; have HB := hid hb; clear hown hb)
            | (with_reducible refine mix_nil ?_)
            | ((with_reducible refine mix_on ?_ ?_); (focus rfl); intro K hK; go_simp; (first | ((with_reducible refine hK _ _ ?_); clear hK K) | skip))
            | ((with_reducible refine mix_off ?_ ?_); (focus rfl); intro K hK; go_simp; (first | ((with_reducible refine hK _ _ ?_); clear hK K) | skip))
            | ((with_reducible refine mix_step ?_); intro K hK; go_simp; (first | ((with_reducible refine hK _ _ ?_); clear hK K) | skip))))
      go_ret
      exact ⟨A', c', rfl, by first | exact own_base HO.out (Nat.le_refl _) | (rw [← List.map_take]; exact own_base HO.out (Nat.le_refl _)), (Below.refl _ _).drew.trans HB.out⟩
    · have hk : lookN k n = k := by have := lookN_int k n; omega
      rw [hk] at HS ⊢
      clear hk
      go_enter Try.func37, Try.ntmps37
      go_wp2_with fail
      (refine wp_mix ?_ ?_ ?_; (focus kernel_rfl); (focus kernel_rfl); intro KK hKK; go_wp2_with (first
            | (go_at_call 40; (with_reducible refine (clone_any A k c _ _ (HS.out.below (Below.refl _ _).drew) (by omega)).mono ?_); rintro e w' ⟨A', c', rfl, hown, hb⟩; have HO := hid hown; have HB := hid hb; clear hown hb)
            | (with_reducible refine mix_nil ?_)
            | ((with_reducible refine mix_on ?_ ?_); (focus rfl); intro K hK; go_simp; (first | ((with_reducible refine hK _ _ ?_); clear hK K) | skip))
            | ((with_reducible refine mix_off ?_ ?_); (focus rfl); intro K hK; go_simp; (first | ((with_reducible refine hK _ _ ?_); clear hK K) | skip))
            | ((with_reducible refine mix_step ?_); intro K hK; go_simp; (first | ((with_reducible refine hK _ _ ?_); clear hK K) | skip))))
      go_ret
      exact ⟨A', c', rfl, by first | exact own_base HO.out (Nat.le_refl _) | (rw [← List.map_take]; exact own_base HO.out (Nat.le_refl _)), (Below.refl _ _).drew.trans HB.out⟩

set_option maxHeartbeats 1000000 in
set_option maxRecDepth 100000 in
theorem take2_any (m : Int) (B g : Nat) (room : Int) (A : Option Addr) (n c : Nat) (l : List UInt8) (i o : Int) (w : World) (h : PipeAt 64 w B g room A n c l i o) (hn : n ≤ 70368744177664) (ho : 0 ≤ o) (ho' : o ≤ 70368744177664) (hB : B ≤ w.heap.size) :
    Calls Try.prog 34 #[.pointer (some ⟨g, 0, none⟩), .int .i64 m] w fun e w' => ∃ A' c' A2 c2, e = .returned (.slice A' (lookN m n) c') ∧
      w'.ownsRow w.heap.size 5 1 (.slice A' (lookN m n) c') (lookN m n) ((l.take (lookN m n)).map bv) ∧
      PipeAt 64 w' B g room A2 (n - lookN m n) c2 (l.drop (lookN m n)) i (o + lookN m n) ∧ Turned [g] w w' ∧ (∀ b, (Value.slice A2 (n - lookN m n) c2).ownBlock = some b → w.heap.size ≤ b) ∧ (∀ b, (Value.slice A2 (n - lookN m n) c2).ownBlock = some b → (Value.slice A' (lookN m n) c').ownBlock ≠ some b) := by
  have H := hid h
  have hk := lookN_le m n
  clear h
  generalize hkk : lookN m n = k at hk ⊢
  go_enter Try.func34, Try.ntmps34
  go_wp2_with fail
  refine (look_any m B g room A n c l i o w H.out hn).mono ?_
  rw [hkk]
  clear hkk
  rintro e w1 ⟨A1, c1, rfl, hown1, hb1⟩
  have H1 := hid (H.out.below hb1)
  obtain ⟨h0, h1, h2, h3, f1, f2, f3⟩ := H1.out.c0
  have hle := own_le H1.out.own
  have hsl := (Bs.of_own H1.out.own).drop hk hle
  rw [Nat.mul_one, ← List.map_drop] at hsl
  have hs1 : c = k → Bs w1 A (n - k) (l.drop k) := fun e => by rw [if_pos e] at hsl; exact hsl
  have hs2 : ¬ c = k → Bs w1 (A.map (·.add k)) (n - k) (l.drop k) := fun e => by rw [if_neg e] at hsl; exact hsl
  have HS1 := hid hs1
  have HS2 := hid hs2
  have HO1 := hid hown1
  have HB1 := hid hb1
  have hq := IntWalk.i64_in (o + k) (by omega)
  have hnb := H.out.own_ne (by decide)
  clear hown1 hb1 hs1 hs2 hsl
  go_wp2_with (go_at_call 40; (with_reducible refine (clone_any _ (n - k) _ (l.drop k) _ ?_ (by omega)).mono ?_); (focus (first | exact HS1.out (by assumption) | exact HS2.out (by assumption))); rintro e w2 ⟨A2, c2, rfl, hown2, hb2⟩; have H2 := hid (H1.out.below hb2); obtain ⟨g0, g1, g2, g3, q1, q2, q3⟩ := H2.out.c0; have HO2 := hid hown2; have HB2 := hid hb2; clear hown2 hb2)
  all_goals
    go_ret
    have hB2 := HB1.out.trans (HB2.out.mono HB1.out.size)
    have hg := H.out.blk.lt
    have hne2 : ∀ b, (Value.slice A2 (n - k) c2).ownBlock = some b → w1.heap.size ≤ b := fun b hb => (HO2.out.lt b hb).1
    have ht : Turned [g] w2 ((w2.setCell ⟨g, 1, none⟩ (.slice A2 (n - k) c2)).setCell ⟨g, 3, none⟩ (.int .i64 (o + k))) := ((Turned.refl _ _).setCell (by simp) _).setCell (by simp) _
    have ht0 := (Turned.of_below (F := [g]) hB2).trans ht (by simp)
    refine ⟨A1, c1, A2, c2, rfl, own_turned (own_below HO1.out HB2.out) ht (fun b hb => ?_), ⟨?_, H.out.base, own_turned (own_base HO2.out ?_) ht (fun b hb => ?_), ?_⟩, ht0, fun b hb => ?_, fun b hb hb1 => ?_⟩
    · have := (HO1.out.lt b hb).1
      simp; omega
    · exact (H2.out.blk.set_ 1 _).set_ 3 _
    · have := HB1.out.size; omega
    · have := hne2 b hb
      have := HB1.out.size
      simp; omega
    · have := H.out.fits; omega
    · have := hne2 b hb
      have := HB1.out.size
      omega
    · have := hne2 b hb
      have := (HO1.out.lt b hb1).2
      omega

theorem take_any (m : Int) (B g : Nat) (room : Int) (A : Option Addr) (n c : Nat) (l : List UInt8) (i o : Int) (w : World) (h : PipeAt 64 w B g room A n c l i o) (hn : n ≤ 70368744177664) (ho : 0 ≤ o) (ho' : o ≤ 70368744177664) (hB : B ≤ w.heap.size) :
    Calls Try.prog 34 #[.pointer (some ⟨g, 0, none⟩), .int .i64 m] w fun e w' => ∃ A' c' A2 c2, e = .returned (.slice A' (lookN m n) c') ∧
      w'.ownsRow w.heap.size 5 1 (.slice A' (lookN m n) c') (lookN m n) ((l.take (lookN m n)).map bv) ∧
      PipeAt 64 w' B g room A2 (n - lookN m n) c2 (l.drop (lookN m n)) i (o + lookN m n) ∧ Turned [g] w w' ∧ (∀ b, (Value.slice A2 (n - lookN m n) c2).ownBlock = some b → w.heap.size ≤ b) := by
  refine (take2_any m B g room A n c l i o w h hn ho ho' hB).mono ?_
  rintro e w' ⟨A', c', A2, c2, h1, h2, h3, h4, h5, _⟩
  exact ⟨A', c', A2, c2, h1, h2, h3, h4, h5⟩

set_option maxHeartbeats 1000000 in
set_option maxRecDepth 100000 in
theorem put_any (A1 : Option Addr) (n1 c1 : Nat) (l1 : List UInt8) (B g : Nat) (room : Int) (A : Option Addr) (n c : Nat) (l : List UInt8) (i o : Int) (w : World) (h : PipeAt 64 w B g room A n c l i o) (hs : Bs w A1 n1 l1) (hc1 : n1 ≤ c1) (hn : n + n1 ≤ 70368744177664) (hi : 0 ≤ i) (hi' : i ≤ 70368744177664) (hB : B ≤ w.heap.size) (hr : room ≤ 9223372036854775807) :
    Calls Try.prog 33 #[.pointer (some ⟨g, 0, none⟩), .slice A1 n1 c1] w fun e w' => ∃ A2 c2, e = .returned (.int .i64 (putN n1 room n)) ∧
      PipeAt 64 w' B g room A2 (n + putN n1 room n) c2 (l ++ l1.take (putN n1 room n)) (i + putN n1 room n) o ∧ Turned (g :: (Value.slice A n c).ownBlock.toList) w w' ∧
      (∀ b, (Value.slice A2 (n + putN n1 room n) c2).ownBlock = some b → (Value.slice A n c).ownBlock = some b ∨ w.heap.size ≤ b) := by
  have H := hid h
  have hs := hs.take (putN_le n1 room n)
  rw [Nat.mul_one, ← List.map_take] at hs
  have HS := hid (show Bs w A1 (putN n1 room n) (l1.take (putN n1 room n)) from hs)
  have hf := h.fits
  have hki := putN_int (k := n1) hf
  clear h hs
  obtain ⟨r, rfl⟩ : ∃ r : Nat, room = n + r := ⟨(room - n).toNat, by omega⟩
  have hfr : ((n : Int) + r - n) = r := by omega
  have hkle := putN_le n1 (n + r) n
  obtain ⟨i0, hi0, hz0, hz1, hz2⟩ := info_parts u8_info
  have hi := hid hi0
  have hz := hid hz0
  have hsz := hid hz1
  have hby := hid hz2
  clear hi0 hz0 hz1 hz2
  have hnb := H.out.own_ne (by decide)
  rw [hfr] at hki
  rcases Nat.lt_or_ge r n1 with hrn | hrn
  · have hk : putN n1 (n + r) n = r := by omega
    rw [hk] at HS ⊢
    clear hk hki hkle
    have hq := IntWalk.i64_in (i + r) (by omega)
    go_enter Try.func33, Try.ntmps33
    go_wp2_with fail
    refine (free_any B g _ A n c l i o w H.out hr).mono ?_
    rw [hfr]
    rintro e w1 ⟨rfl, hb1⟩
    have H1 := hid (H.out.below hb1)
    obtain ⟨h0, h1, h2, h3, f1, f2, f3⟩ := H1.out.c0
    have HB1 := hid hb1
    clear hb1
    have hB1 : B ≤ w1.heap.size := Nat.le_trans hB HB1.out.size
    go_wp2_with fail
    have H2 := hid (H1.out.below (Below.refl w1.heap.size w1).drew)
    have HR : Hid (Rd w1.drew 1 A1 r ((l1.take r).map bv)) := hid ((HS.out.below HB1.out).below (Below.refl _ _).drew)
    (refine wp_mix ?_ ?_ ?_; (focus kernel_rfl); (focus kernel_rfl); intro KK hKK; go_wp2_with (first
          | ((with_reducible refine at_mapp ?_); go_loud (refine mix_app B 5 i0 _ 1 1 Try.underlying22 hi.out hz.out hsz.out hby.out rfl Nat.one_pos _ n _ H2.out.own A1 r c1 ((l1.take r).map bv) HR.out ?_ ?_ (bv_one _) ?_ ?_ hB1 ?_ ?_; (focus rfl); (focus rfl); (focus omega); (focus omega); (focus rfl); intro A2 c2 w2 hown hg hat; have HO := hid hown; have HG := hid hg; have HA := hid hat; clear hown hg hat; have HK := hid (H2.out.blk.grown HG.out (fun e => hnb e.symm)); have k1 := HK.out.cell 1; have k2 := HK.out.cell 2; have kf1 := HK.out.frozen 1; have kf2 := HK.out.frozen 2; simp at k1 k2; go_simp))
          | (with_reducible refine mix_nil ?_)
          | ((with_reducible refine mix_on ?_ ?_); (focus rfl); intro K hK; go_simp; (first | ((with_reducible refine hK _ _ ?_); clear hK K) | skip))
          | ((with_reducible refine mix_off ?_ ?_); (focus rfl); intro K hK; go_simp; (first | ((with_reducible refine hK _ _ ?_); clear hK K) | skip))
          | ((with_reducible refine mix_step ?_); intro K hK; go_simp; (first | ((with_reducible refine hK _ _ ?_); clear hK K) | skip))))
    go_ret
    have ht : Turned [g] w2 ((w2.setCell ⟨g, 1, none⟩ (.slice A2 (n + r) c2)).setCell ⟨g, 2, none⟩ (.int .i64 (i + r))) := ((Turned.refl _ _).setCell (by simp) _).setCell (by simp) _
    have hne2 : (Value.slice A2 (n + r) c2).ownBlock ≠ some g := fun hb => by
      rcases HA.out with h5 | h5
      · exact hnb (h5.symm.trans hb)
      · have h6 : w1.heap.size = g := by rw [hb] at h5; injection h5 with h5; exact h5.symm
        have := H1.out.blk.lt
        omega
    refine ⟨A2, c2, rfl, ⟨(HK.out.set_ 1 _).set_ 2 _, H.out.base, ?_, by omega⟩, ?_, fun b hb => ?_⟩
    · rw [List.map_append]
      exact own_turned HO.out ht (fun b hb => by simp; exact fun e => hne2 (e ▸ hb))
    · refine Turned.trans (Turned.grown ((Turned.of_below HB1.out).drew) HG.out (fun b hb => .inl (by simp [hb]))) ht (fun b hb => .inl ?_)
      simp at hb
      simp [hb]
    · rcases HA.out with h5 | h5
      · exact .inl (h5.symm.trans hb)
      · refine .inr ?_
        have h6 : w1.heap.size = b := by rw [hb] at h5; injection h5 with h5; exact h5.symm
        have := HB1.out.size
        omega
  · have hk : putN n1 (n + r) n = n1 := by omega
    rw [hk] at HS ⊢
    clear hk hki hkle
    have hq := IntWalk.i64_in (i + n1) (by omega)
    go_enter Try.func33, Try.ntmps33
    go_wp2_with fail
    refine (free_any B g _ A n c l i o w H.out hr).mono ?_
    rw [hfr]
    rintro e w1 ⟨rfl, hb1⟩
    have H1 := hid (H.out.below hb1)
    obtain ⟨h0, h1, h2, h3, f1, f2, f3⟩ := H1.out.c0
    have HB1 := hid hb1
    clear hb1
    have hB1 : B ≤ w1.heap.size := Nat.le_trans hB HB1.out.size
    go_wp2_with fail
    have H2 := hid (H1.out.below (Below.refl w1.heap.size w1).drew)
    have HR : Hid (Rd w1.drew 1 A1 n1 ((l1.take n1).map bv)) := hid ((HS.out.below HB1.out).below (Below.refl _ _).drew)
    (refine wp_mix ?_ ?_ ?_; (focus kernel_rfl); (focus kernel_rfl); intro KK hKK; go_wp2_with (first
          | ((with_reducible refine at_mapp ?_); go_loud (refine mix_app B 5 i0 _ 1 1 Try.underlying22 hi.out hz.out hsz.out hby.out rfl Nat.one_pos _ n _ H2.out.own A1 n1 c1 ((l1.take n1).map bv) HR.out ?_ ?_ (bv_one _) ?_ ?_ hB1 ?_ ?_; (focus rfl); (focus rfl); (focus omega); (focus omega); (focus rfl); intro A2 c2 w2 hown hg hat; have HO := hid hown; have HG := hid hg; have HA := hid hat; clear hown hg hat; have HK := hid (H2.out.blk.grown HG.out (fun e => hnb e.symm)); have k1 := HK.out.cell 1; have k2 := HK.out.cell 2; have kf1 := HK.out.frozen 1; have kf2 := HK.out.frozen 2; simp at k1 k2; go_simp))
          | (with_reducible refine mix_nil ?_)
          | ((with_reducible refine mix_on ?_ ?_); (focus rfl); intro K hK; go_simp; (first | ((with_reducible refine hK _ _ ?_); clear hK K) | skip))
          | ((with_reducible refine mix_off ?_ ?_); (focus rfl); intro K hK; go_simp; (first | ((with_reducible refine hK _ _ ?_); clear hK K) | skip))
          | ((with_reducible refine mix_step ?_); intro K hK; go_simp; (first | ((with_reducible refine hK _ _ ?_); clear hK K) | skip))))
    go_ret
    have ht : Turned [g] w2 ((w2.setCell ⟨g, 1, none⟩ (.slice A2 (n + n1) c2)).setCell ⟨g, 2, none⟩ (.int .i64 (i + n1))) := ((Turned.refl _ _).setCell (by simp) _).setCell (by simp) _
    have hne2 : (Value.slice A2 (n + n1) c2).ownBlock ≠ some g := fun hb => by
      rcases HA.out with h5 | h5
      · exact hnb (h5.symm.trans hb)
      · have h6 : w1.heap.size = g := by rw [hb] at h5; injection h5 with h5; exact h5.symm
        have := H1.out.blk.lt
        omega
    refine ⟨A2, c2, rfl, ⟨(HK.out.set_ 1 _).set_ 2 _, H.out.base, ?_, by omega⟩, ?_, fun b hb => ?_⟩
    · rw [List.map_append]
      exact own_turned HO.out ht (fun b hb => by simp; exact fun e => hne2 (e ▸ hb))
    · refine Turned.trans (Turned.grown ((Turned.of_below HB1.out).drew) HG.out (fun b hb => .inl (by simp [hb]))) ht (fun b hb => .inl ?_)
      simp at hb
      simp [hb]
    · rcases HA.out with h5 | h5
      · exact .inl (h5.symm.trans hb)
      · refine .inr ?_
        have h6 : w1.heap.size = b := by rw [hb] at h5; injection h5 with h5; exact h5.symm
        have := HB1.out.size
        omega
end Go.Proofs.Ytefhadfcipifmaa
