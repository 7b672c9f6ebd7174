/- Frames that the package part makes, each call once. Conditions: none. -/
import Derived.Test.YtdiahjeplaegnaaPartEnd
import Derived.Deep.DeepCutAuto
import Derived.WalkMore
namespace Go.Proofs.Ytdiahjeplaegnaa
open Go.RowKit
attribute [local go_sem] kd kdS

def u8 (n : Int) : UInt8 := UInt8.ofNat n.toNat
theorem bv_u8 (n : Int) (h0 : 0 ≤ n) (h1 : n < 256) : Value.int .u8 n = bv (u8 n) := bv_mk n h0 h1
/-- The first k of the lowest n bytes of a number, the highest first. -/
def numB (v : Int) (n k : Nat) : List UInt8 := (List.range k).map fun j => u8 (v / 2 ^ (8 * (n - 1 - j)) % 256)
theorem numB_len (v : Int) (n k : Nat) : (numB v n k).length = k := by simp [numB]
theorem numB_succ (v : Int) (n k : Nat) : (numB v n (k + 1)).map bv = (numB v n k).map bv ++ [.int .u8 (v / 2 ^ (8 * (n - 1 - k)) % 256)] := by
  have h0 : 0 ≤ v / 2 ^ (8 * (n - 1 - k)) % 256 := Int.emod_nonneg _ (by decide)
  have h1 : v / 2 ^ (8 * (n - 1 - k)) % 256 < 256 := Int.emod_lt_of_pos _ (by decide)
  rw [bv_u8 _ h0 h1]
  unfold numB
  rw [List.range_succ]
  simp

set_option maxHeartbeats 400000 in
set_option maxRecDepth 100000 in
theorem bits_any (v : Int) (n : Nat) (w : World) (hn : n ≤ 8) :
    Calls Try.prog 30 #[.int .i64 v, .int .i64 n] w fun e w' =>
      ∃ A c, e = .returned (.slice A n c) ∧ w'.ownsRow w.heap.size 5 1 (.slice A n c) n ((numB v n n).map bv) ∧ Below w.heap.size w w' := by
  obtain ⟨i0, hi0, hz0, hz1, hz2⟩ := info_parts u8_info
  have hi := hid hi0
  have hz := hid hz0
  have hsz := hid hz1
  have hby := hid hz2
  clear hi0 hz0 hz1 hz2
  go_enter Try.func30, Try.ntmps30
  go_wp2_with fail
  go_loopw [5, 6] (fun o i wr => ∃ k : Nat, k ≤ n ∧ i = .int .i64 ((n : Int) - 1 - k) ∧ ∃ A c, o = .slice A k c ∧ wr.ownsRow w.heap.size 5 1 (.slice A k c) k ((numB v n k).map bv) ∧ Below w.heap.size w wr) (fun _ i _ => (intOf i + 1).toNat)
  case atStart => exact ⟨0, Nat.zero_le _, by simp, none, 0, rfl, World.ownsRow_nil _ _ _ _, Below.refl _ _⟩
  case round =>
    obtain ⟨k, hk, rfl, A, c, rfl, hown, hb⟩ := hrel
    have HO := hid hown
    have HB := hid hb
    have hsw := hb.size
    clear hown hb
    go_wp2_with (at_builtin; refine wpList_app _ rfl _ _ _ rfl w.heap.size 5 i0 _ 1 1 Try.underlying25 hi.out hz.out hsz.out hby.out rfl (by omega) _ k _ rfl (HO.out.alloc _) _ 1 1 _ rfl (rd_one rfl) (by simp [Value.oneCell']) (by omega) (by omega) (by simp; omega) ?_; intro A' c' w' hown' hg hat; have HO' := hid hown'; have HG := hid hg; clear hown' hg hat)
    · go_roundw
      case rel => exact ⟨k + 1, by omega, by go_num, A', c', rfl, by rw [numB_succ]; exact HO'.out, below_app (HB.out.alloc hsw _) (HO.out.alloc _) HG.out (Nat.le_refl _) (by simp; omega)⟩
      case measure => simp [intOf]; omega
    · obtain rfl : k = n := by omega
      go_ret
      exact ⟨A, c, rfl, HO.out, HB.out⟩

theorem nb_num (v : Int) (i : Nat) (hi : i < 4) : nb (numB v 4 4) i = v / 2 ^ (8 * (3 - i)) % 256 := by
  have h0 : 0 ≤ v / 2 ^ (8 * (3 - i)) % 256 := Int.emod_nonneg _ (by decide)
  have h1 : v / 2 ^ (8 * (3 - i)) % 256 < 256 := Int.emod_lt_of_pos _ (by decide)
  have e : (numB v 4 4).getD i 0 = u8 (v / 2 ^ (8 * (3 - i)) % 256) := by
    unfold numB
    rw [List.getD_eq_getElem?_getD, List.getElem?_map, List.getElem?_range hi]
    rfl
  unfold nb
  rw [e]
  unfold u8
  rw [UInt8.toNat_ofNat', Nat.mod_eq_of_lt (by omega)]
  omega
theorem n4_num {v : Int} (h0 : 0 ≤ v) (h1 : v < 4294967296) : n4 (numB v 4 4) = v := by
  unfold n4
  rw [nb_num v 0 (by omega), nb_num v 1 (by omega), nb_num v 2 (by omega), nb_num v 3 (by omega)]
  omega

/-- A frame value. -/
def fv (k f s : Int) (A : Option Addr) (n c : Nat) : Value := .agg #[.int .i64 k, .int .i64 f, .int .i64 s, .slice A n c]
def MadePost (k s : Int) (l : List UInt8) (w : World) (e : Ending) (w' : World) : Prop :=
  ∃ (A : Option Addr) (c : Nat), e = .returned (fv k 0 s A l.length c) ∧ Bs w' A l.length l ∧ l.length ≤ c ∧ Below w.heap.size w w'

theorem step_set4 {w : World} {p : Nat} {T : TypeId} {cs : Array Value} (i : Nat) (v : Value) (h : Blk w p T cs) : ∃ w1, w.setCell ⟨p, i, none⟩ v = w1 ∧ Blk w1 p T (cs.setIfInBounds i v) ∧ Turned [p] w w1 :=
  ⟨_, rfl, h.set_ i v, (Turned.refl [p] w).setCell (p := ⟨p, i, none⟩) (by simp) v⟩
set_option maxHeartbeats 1000000 in
/-- A call that stored a frame into its result. -/
theorem frame_end {fn : Func} {R : Ending → World → Prop} {tm : Array Value} {w : World} {p : Nat} {cs : Array Value} {v0 v1 v2 v3 : Value} (r : Nat)
    (hfn : fn.results = #[.cell r 34]) (h2 : tm.getD r undef = .pointer (some ⟨p, 0, none⟩)) (hp : Blk w p 34 cs) (hcs : cs.size = 4)
    (hR : ∀ w', Turned [p] w w' → R (.returned (.agg #[v0, v1, v2, v3])) w') :
    bodyPost Try.prog fn R .ret { tmps := tm, defers := [] } ((((w.setCell ⟨p, 0, none⟩ v0).setCell ⟨p, 1, none⟩ v1).setCell ⟨p, 2, none⟩ v2).setCell ⟨p, 3, none⟩ v3) := by
  obtain ⟨w1, e1, h1p, t1⟩ := step_set4 0 v0 hp
  rw [e1]
  obtain ⟨w2, e2, h2p, t2⟩ := step_set4 1 v1 h1p
  rw [e2]
  obtain ⟨w3, e3, h3p, t3⟩ := step_set4 2 v2 h2p
  rw [e3]
  obtain ⟨w4, e4, h4p, t4⟩ := step_set4 3 v3 h3p
  rw [e4]
  have ht := t_on (t_on (t_on t1 t2) t3) t4
  have a0 := h4p.cell 0
  have a1 := h4p.cell 1
  have a2 := h4p.cell 2
  have a3 := h4p.cell 3
  rw [Array.getD_eq_getD_getElem?] at h2
  simp [hcs] at a0 a1 a2 a3
  exact bodyPost_ret (v := .agg #[v0, v1, v2, v3]) (by simp [results, hfn, go_sem, h2, a0, a1, a2, a3]) rfl (hR _ ht)

set_option maxHeartbeats 400000 in
set_option maxRecDepth 100000 in
theorem update_make (st v : Int) (w : World) : Calls Try.prog 13 #[.int .i64 st, .int .i64 v] w (MadePost 8 st (numB (bits .and .i64 v 2147483647) 4 4) w) := by
  go_enter Try.func13, Try.ntmps13
  have hbw := (Below.refl w.heap.size w).alloc (Nat.le_refl _) (.cells #[.int .i64 0, .int .i64 0, .int .i64 0, .slice none 0 0] 34)
  have hbk := Blk.new w 34 #[.int .i64 0, .int .i64 0, .int .i64 0, .slice none 0 0]
  have hws : w.heap.size < (w.alloc (.cells #[.int .i64 0, .int .i64 0, .int .i64 0, .slice none 0 0] 34)).heap.size := by simp
  go_upto_region 1 with fail
  generalize w.alloc (.cells #[.int .i64 0, .int .i64 0, .int .i64 0, .slice none 0 0] 34) = W at hbw hbk hws ⊢
  have HB := hid hbw
  have HK := hid hbk
  have HWS := hid hws
  clear hbw hbk hws
  go_wp2_with (go_at_call 30; go_must (refine (bits_any _ 4 W (by omega)).mono ?_; rintro e w1 ⟨A, c, rfl, ho, hb1⟩; have HO := hid ho; have HB1 := hid hb1; have hk := HK.out.below hb1 HK.out.lt; have k0 := hk.cell 0; have k1 := hk.cell 1; have k2 := hk.cell 2; have k3 := hk.cell 3; have f0 := hk.frozen 0; have f1 := hk.frozen 1; have f2 := hk.frozen 2; have f3 := hk.frozen 3; simp at k0 k1 k2 k3; clear ho hb1 hk))
  refine frame_end 4 Try.results13 rfl (HK.out.below HB1.out HK.out.lt) rfl ?_
  intro w' ht
  have hl := HWS.out
  refine ⟨A, c, rfl, (Bs.of_own HO.out).turned ht (own_off HO.out (by simp; omega)), own_le HO.out, (HB.out.trans (HB1.out.mono HB.out.size)).trans (ht.below (B := w.heap.size) (by simp) (Nat.le_trans HB.out.size HB1.out.size))⟩

set_option maxHeartbeats 400000 in
set_option maxRecDepth 100000 in
theorem rst_make (st v : Int) (w : World) : Calls Try.prog 14 #[.int .i64 st, .int .i64 v] w (MadePost 3 st (numB v 4 4) w) := by
  go_enter Try.func14, Try.ntmps14
  have hbw := (Below.refl w.heap.size w).alloc (Nat.le_refl _) (.cells #[.int .i64 0, .int .i64 0, .int .i64 0, .slice none 0 0] 34)
  have hbk := Blk.new w 34 #[.int .i64 0, .int .i64 0, .int .i64 0, .slice none 0 0]
  have hws : w.heap.size < (w.alloc (.cells #[.int .i64 0, .int .i64 0, .int .i64 0, .slice none 0 0] 34)).heap.size := by simp
  go_upto_region 1 with fail
  generalize w.alloc (.cells #[.int .i64 0, .int .i64 0, .int .i64 0, .slice none 0 0] 34) = W at hbw hbk hws ⊢
  have HB := hid hbw
  have HK := hid hbk
  have HWS := hid hws
  clear hbw hbk hws
  go_wp2_with (go_at_call 30; go_must (refine (bits_any _ 4 W (by omega)).mono ?_; rintro e w1 ⟨A, c, rfl, ho, hb1⟩; have HO := hid ho; have HB1 := hid hb1; have hk := HK.out.below hb1 HK.out.lt; have k0 := hk.cell 0; have k1 := hk.cell 1; have k2 := hk.cell 2; have k3 := hk.cell 3; have f0 := hk.frozen 0; have f1 := hk.frozen 1; have f2 := hk.frozen 2; have f3 := hk.frozen 3; simp at k0 k1 k2 k3; clear ho hb1 hk))
  refine frame_end 4 Try.results14 rfl (HK.out.below HB1.out HK.out.lt) rfl ?_
  intro w' ht
  have hl := HWS.out
  refine ⟨A, c, rfl, (Bs.of_own HO.out).turned ht (own_off HO.out (by simp; omega)), own_le HO.out, (HB.out.trans (HB1.out.mono HB.out.size)).trans (ht.below (B := w.heap.size) (by simp) (Nat.le_trans HB.out.size HB1.out.size))⟩

end Go.Proofs.Ytdiahjeplaegnaa
