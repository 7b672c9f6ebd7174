/- PartBack's plain half: what Read answers to what was made. -/
import Derived.Test.YtdiahjeplaegnaaPartMake2
import Derived.Test.YtdiahjeplaegnaaPartFirst
namespace Go.Proofs.Ytdiahjeplaegnaa
open Go.RowKit
attribute [local go_sem] kd kdS
attribute [local go_sem ↓] sliced_word

set_option maxHeartbeats 1000000 in
set_option maxRecDepth 100000 in
theorem goaway_make (la co : Int) (w : World) : Calls Try.prog 15 #[.int .i64 la, .int .i64 co] w (MadePost 7 0 (numB (bits .and .i64 la 2147483647) 4 4 ++ numB co 4 4) w) := by
  obtain ⟨i0, hi0, hz0, hz1, hz2⟩ := info_parts u8_info
  have hi := hid hi0
  have hz := hid hz0
  have hsz := hid hz1
  have hby := hid hz2
  clear hi0 hz0 hz1 hz2
  go_enter Try.func15, Try.ntmps15
  have hbw := (Below.refl w.heap.size w).alloc (Nat.le_refl _) (.cells #[.int .i64 0, .int .i64 0, .int .i64 0, .slice none 0 0] 34)
  have hbk := Blk.new w 34 #[.int .i64 0, .int .i64 0, .int .i64 0, .slice none 0 0]
  have hws : w.heap.size < (w.alloc (.cells #[.int .i64 0, .int .i64 0, .int .i64 0, .slice none 0 0] 34)).heap.size := by simp
  go_upto_region 1 with fail
  generalize w.alloc (.cells #[.int .i64 0, .int .i64 0, .int .i64 0, .slice none 0 0] 34) = W at hbw hbk hws ⊢
  have HB := hid hbw
  have HK := hid hbk
  have HWS := hid hws
  clear hbw hbk hws
  go_wp2_with (first
    | (go_at_call 30; ((with_reducible refine (bits4 _ W).mono ?_); rintro e w1 ⟨A1, c1, rfl, ho, hb1⟩; have HO1 := hid ho; have HB1 := hid hb1; clear ho hb1))
    | (go_at_call 30; ((with_reducible refine (bits4 co w1).mono ?_); rintro e w2 ⟨A2, c2, rfl, ho, hb2⟩; have HO2 := hid (own_below HO1.out hb2); have HR2 := hid (Bs.of_own ho); have HB2 := hid (HB1.out.trans (hb2.mono HB1.out.size)); clear ho hb2))
    | (at_builtin; (refine wpList_app _ rfl _ _ _ rfl W.heap.size 5 i0 _ 1 1 Try.underlying25 hi.out hz.out hsz.out hby.out rfl (by omega) _ 4 _ rfl HO2.out A2 4 c2 _ rfl HR2.out (bv_one _) (by omega) (by omega) HB2.out.size ?_; intro A3 c3 w3 ho3 hg3 hc3; have HO3 := hid ho3; have HB3 := hid (below_app HB2.out HO2.out hg3 (Nat.le_refl _) HB2.out.size); have hk := HK.out.below HB3.out HK.out.lt; have k0 := hk.cell 0; have k1 := hk.cell 1; have k2 := hk.cell 2; have k3 := hk.cell 3; have f0 := hk.frozen 0; have f1 := hk.frozen 1; have f2 := hk.frozen 2; have f3 := hk.frozen 3; simp at k0 k1 k2 k3; clear ho3 hg3 hc3 hk)))
  refine frame_end 4 Try.results15 rfl (HK.out.below HB3.out HK.out.lt) rfl ?_
  intro w' ht
  have hl := HWS.out
  have ho := own_turned HO3.out ht (fun b hb hm => by have := (HO3.out.lt b hb).1; simp at hm; omega)
  refine ⟨A3, c3, by rw [List.length_append, numB_len, numB_len]; rfl, ?_, ?_, (HB.out.trans (HB3.out.mono HB.out.size)).trans (ht.below (B := w.heap.size) (by simp) (Nat.le_trans HB.out.size HB3.out.size))⟩
  · rw [List.length_append, numB_len, numB_len]
    refine Bs.of_own (base := W.heap.size) (e := 5) (c := c3) ?_
    rw [List.map_append]
    exact ho
  · rw [List.length_append, numB_len, numB_len]
    exact own_le ho

/-! What Read answers. -/
theorem fl_no : fl 0 1 = false := by decide
theorem nb_app_left {a b : List UInt8} {i : Nat} (h : i < a.length) : nb (a ++ b) i = nb a i := by
  unfold nb
  rw [List.getD_eq_getElem?_getD, List.getD_eq_getElem?_getD, List.getElem?_append_left h]
theorem n4_app {a b : List UInt8} (h : 4 ≤ a.length) : n4 (a ++ b) = n4 a := by
  unfold n4
  rw [nb_app_left (by omega), nb_app_left (by omega), nb_app_left (by omega), nb_app_left (by omega)]
theorem nb_num2 (v : Int) (i : Nat) (hi : i < 2) : nb (numB v 2 2) i = v / 2 ^ (8 * (1 - i)) % 256 := by
  have h0 : 0 ≤ v / 2 ^ (8 * (1 - i)) % 256 := Int.emod_nonneg _ (by decide)
  have h1 : v / 2 ^ (8 * (1 - i)) % 256 < 256 := Int.emod_lt_of_pos _ (by decide)
  have e : (numB v 2 2).getD i 0 = u8 (v / 2 ^ (8 * (1 - i)) % 256) := by
    unfold numB
    rw [List.getD_eq_getElem?_getD, List.getElem?_map, List.getElem?_range hi]
    rfl
  unfold nb
  rw [e]
  unfold u8
  rw [UInt8.toNat_ofNat', Nat.mod_eq_of_lt (by omega)]
  omega
/-- Settings that fit. -/
def setOk (x : Int × Int) : Prop := 0 ≤ x.1 ∧ x.1 ≤ 65535 ∧ 0 ≤ x.2 ∧ x.2 < 4294967296
theorem setAt_cons (x : Int × Int) (l : List (Int × Int)) (i : Nat) : setAt (setBs (x :: l)) (i + 1) = setAt (setBs l) i := by
  have e : setBs (x :: l) = setB x ++ setBs l := rfl
  have hd : ∀ k, (setBs (x :: l)).drop (6 + k) = (setBs l).drop k := fun k => by
    rw [e, ← List.drop_drop, List.drop_left' (setB_len x)]
  unfold setAt
  have h0 : nb (setBs (x :: l)) (6 * (i + 1)) = nb (setBs l) (6 * i) := by
    rw [show 6 * (i + 1) = 6 + 6 * i by omega, ← nb_drop, show (setBs (x :: l)).drop 6 = setBs l from hd 0]
  have h1 : nb (setBs (x :: l)) (6 * (i + 1) + 1) = nb (setBs l) (6 * i + 1) := by
    rw [show 6 * (i + 1) + 1 = 6 + (6 * i + 1) by omega, ← nb_drop, show (setBs (x :: l)).drop 6 = setBs l from hd 0]
  rw [h0, h1, show 6 * (i + 1) + 2 = 6 + (6 * i + 2) by omega, hd]
theorem setAt_zero {x : Int × Int} (l : List (Int × Int)) (h : setOk x) : setAt (setBs (x :: l)) 0 = x := by
  obtain ⟨a0, a1, b0, b1⟩ := h
  have e : setBs (x :: l) = numB x.1 2 2 ++ (numB x.2 4 4 ++ setBs l) := by
    show setB x ++ setBs l = _
    unfold setB
    rw [List.append_assoc]
  unfold setAt
  rw [e, nb_app_left (by rw [numB_len]; omega), nb_app_left (by rw [numB_len]; omega), nb_num2 _ _ (by omega), nb_num2 _ _ (by omega), List.drop_left' (numB_len _ _ _), n4_app (by rw [numB_len]; omega), n4_num b0 b1]
  have : x.1 / 2 ^ (8 * (1 - 6 * 0)) % 256 * 256 + x.1 / 2 ^ (8 * (1 - (6 * 0 + 1))) % 256 = x.1 := by
    simp
    omega
  rw [this]
theorem setsOf_setBs {l : List (Int × Int)} (h : ∀ x ∈ l, setOk x) : setsOf (setBs l) l.length = l := by
  induction l with
  | nil => rfl
  | cons x l ih =>
    unfold setsOf
    rw [List.length_cons, List.range_succ_eq_map, List.map_cons, List.map_map, setAt_zero l (h x (by simp))]
    congr 1
    have : (setAt (setBs (x :: l)) ∘ Nat.succ) = setAt (setBs l) := funext fun i => setAt_cons x l i
    rw [this]
    exact ih fun y hy => h y (by simp [hy])
theorem back_settings {l : List (Int × Int)} (h : ∀ x ∈ l, setOk x) : readP 4 0 0 (setBs l) = { sets := l } := by
  unfold readP
  rw [if_neg (by decide), if_pos rfl]
  unfold settingsP
  rw [if_neg (by simp), setBs_len, if_neg (by rw [show bits .and .i64 0 1 = 0 by decide]; omega), Nat.mul_div_cancel_left _ (by omega), setsOf_setBs h, fl_no]
theorem back_update {s n : Int} (h0 : 1 ≤ n) (h1 : n ≤ 2147483647) : readP 8 0 s (numB (bits .and .i64 n 2147483647) 4 4) = { step := n } := by
  have hm : m31 n = n := by unfold m31; omega
  rw [m31b (by omega) (by omega), hm]
  unfold readP
  rw [if_neg (by decide), if_neg (by decide), if_neg (by decide), if_neg (by decide), if_pos rfl]
  unfold updateP
  rw [numB_len, if_neg (by omega), n4_num (by omega) (by omega), hm, if_neg (by omega)]
theorem back_rst {s n : Int} (hs : s ≠ 0) (h0 : 1 ≤ n) (h1 : n ≤ 2147483647) : readP 3 0 s (numB n 4 4) = { code := n } := by
  unfold readP
  rw [if_neg (by decide), if_neg (by decide), if_neg (by decide), if_neg (by decide), if_neg (by decide), if_pos (by decide), if_neg hs, if_neg (by decide), if_neg (by omega), if_neg (by decide), numB_len, if_neg (by omega), n4_num (by omega) (by omega)]
theorem back_goaway {s n : Int} (hs0 : 1 ≤ s) (hs1 : s ≤ 2147483647) (h0 : 1 ≤ n) (h1 : n ≤ 2147483647) : readP 7 0 0 (numB (bits .and .i64 s 2147483647) 4 4 ++ numB n 4 4) = { last := s, code := n } := by
  have hm : m31 s = s := by unfold m31; omega
  rw [m31b (by omega) (by omega), hm]
  unfold readP
  rw [if_neg (by decide), if_neg (by decide), if_neg (by decide), if_pos (by decide)]
  unfold wholeP
  rw [if_neg (by simp), if_neg (by rw [List.length_append, numB_len, numB_len]; omega), if_neg (by decide), n4_app (by rw [numB_len]; omega), n4_num (by omega) (by omega), List.drop_left' (numB_len _ _ _), n4_num (by omega) (by omega), hm]
def padL (pad : Nat) (b : List UInt8) : List UInt8 := u8 pad :: (b ++ List.replicate pad 0)
theorem nb_pad {pad : Nat} (hp : pad ≤ 255) (r : List UInt8) : nb (u8 pad :: r) 0 = pad := by
  unfold nb u8
  simp only [List.getD_cons_zero]
  rw [UInt8.toNat_ofNat', Nat.mod_eq_of_lt (by omega)]
  omega
theorem back_data {s : Int} {pad : Nat} {b : List UInt8} (hs : s ≠ 0) (hp : pad ≤ 255) : readP 0 9 s (padL pad b) = { d := b, pad := pad + 1, e := true } := by
  unfold readP
  rw [if_pos (.inl rfl)]
  unfold bodyP
  rw [if_neg hs, if_neg (by decide), if_neg (by simp [padL])]
  unfold stage2
  rw [if_pos (.inl rfl)]
  unfold stage3 padL
  rw [nb_pad hp, List.drop_one, List.tail_cons, List.length_append, List.length_replicate, if_neg (by omega), Int.toNat_natCast, Nat.add_sub_cancel, List.take_left]
  rfl
theorem back_cut {s : Int} {pad : Nat} {b : List UInt8} (hs : s ≠ 0) (hp : pad ≤ 255) : readP 0 8 s ((padL pad b).take pad) = if pad = 0 then connP 6 else connP 1 := by
  unfold readP
  rw [if_pos (.inl rfl)]
  unfold bodyP
  rw [if_neg hs, if_neg (by decide)]
  by_cases h0 : pad = 0
  · subst h0
    rfl
  · obtain ⟨q, rfl⟩ : ∃ q, pad = q + 1 := ⟨pad - 1, by omega⟩
    have hl : ((padL (q + 1) b).take (q + 1)).length = q + 1 := by
      rw [List.length_take]
      simp [padL]
      omega
    rw [if_neg (by rw [hl]; omega), if_neg h0]
    unfold stage2
    rw [if_pos (.inl rfl)]
    unfold stage3
    rw [if_pos]
    rw [List.length_drop, hl]
    have : (padL (q + 1) b).take (q + 1) = u8 ((q + 1 : Nat) : Int) :: (b ++ List.replicate (q + 1) 0).take q := rfl
    rw [this, nb_pad hp]
    omega
end Go.Proofs.Ytdiahjeplaegnaa
