/- HuffLong's walk. No condition. -/
import Derived.Test.YtimklfdofldhaaaHuffBack
import Derived.Test.YtimklfdofldhaaaZero
namespace Go.Proofs.Ytimklfdofldhaaa
open Go.RowKit
attribute [local go_sem] kd kdS

/-- The seventeen signs. -/
def chr (r : Nat) : UInt8 := [48, 49, 50, 51, 52, 53, 54, 55, 56, 57, 97, 99, 101, 105, 111, 115, 116].getD r 0
/-- The text, the first k of n signs set. -/
def lgs (c n k : Nat) : List UInt8 := (List.range n).map fun j => if j < k then chr ((j + c) % 17) else 0
theorem lgs_len (c n k : Nat) : (lgs c n k).length = n := by simp [lgs]
theorem lgs_zero (c n : Nat) : ((lgs c n 0).map bv).toArray = madeCells #[.int .u8 0] n := by
  apply Array.ext
  · simp [lgs, madeCells]
  · intro i h1 h2
    simp [lgs, madeCells, Nat.mod_one]
    rfl
theorem lgs_succ {c n k : Nat} : ((lgs c n k).map bv).toArray.setIfInBounds k (bv (chr ((k + c) % 17))) = ((lgs c n (k + 1)).map bv).toArray := by
  apply Array.ext
  · simp [lgs]
  · intro i h1 h2
    rw [Array.getElem_setIfInBounds (by simpa using h1)]
    by_cases h : k = i
    · subst h
      simp [lgs]
    · rw [if_neg h]
      simp only [lgs, List.map_map, List.getElem_toArray, List.getElem_map, List.getElem_range, Function.comp]
      by_cases h3 : i < k
      · rw [if_pos h3, if_pos (by omega)]
      · rw [if_neg h3, if_neg (by omega)]
theorem chr_bits : ∀ r, r < 17 → hl (chr r).toNat = 5 ∨ hl (chr r).toNat = 6 := by decide +kernel
theorem hbits_map (f : Nat → UInt8) (hf : ∀ j, hl (f j).toNat = 5 ∨ hl (f j).toNat = 6) (l : List Nat) : 5 * l.length ≤ hbits (l.map f) ∧ hbits (l.map f) ≤ 6 * l.length := by
  induction l with
  | nil => simp [hbits]
  | cons j l ih =>
    have := hf j
    simp only [hbits, List.map_cons, List.sum_cons, List.length_cons] at ih ⊢
    omega
theorem lgs_bits (c n : Nat) : 5 * n ≤ hbits (lgs c n n) ∧ hbits (lgs c n n) ≤ 6 * n := by
  have e : lgs c n n = (List.range n).map fun j => chr ((j + c) % 17) := by
    unfold lgs
    apply List.map_congr_left
    intro j hj
    rw [if_pos (by simpa using hj)]
  have := hbits_map (fun j => chr ((j + c) % 17)) (fun j => chr_bits _ (Nat.mod_lt _ (by omega))) (List.range n)
  rw [List.length_range] at this
  rw [e]
  exact this
def chK : ByteArray := { data := #[48, 49, 50, 51, 52, 53, 54, 55, 56, 57, 97, 99, 101, 105, 111, 115, 116] }
theorem chr_at : ∀ r, (h : r < 17) → ((chK[r]'h).toNat : Int) = ((chr r).toNat : Int) := by decide +kernel

set_option maxHeartbeats 400000 in
set_option maxRecDepth 100000 in
theorem long_walk (n : Int) (b : Int) (w : World) (hn : n ≤ 9223372036854775807) (hb0 : 0 ≤ b) (hb1 : b < 256) :
    Calls Try.prog 7 #[.int .i64 n, .int .u8 b] w fun e w' => e = .returned (.bool true) ∧ Below w.heap.size w w' := by
  obtain ⟨x, rfl⟩ : ∃ k : Nat, b = k := ⟨b.toNat, by omega⟩
  have hx : x < 256 := by omega
  clear hb0 hb1
  go_enter Try.func7, Try.ntmps7
  go_wp2_with fail
  refine (first_any w).mono ?_
  rintro e w1 ⟨rfl, hb1⟩
  have HB1 := hid hb1
  clear hb1
  rcases (show n < 0 ∨ (0 ≤ n ∧ 200 < n) ∨ (0 ≤ n ∧ n ≤ 200) by omega) with h1 | ⟨h1, h2⟩ | ⟨h1, h2⟩
  iterate 2
    · go_wp2_with (go_at_call 8; go_must (refine (first_any _).mono ?_; rintro e w6 ⟨rfl, hb6⟩; have HB6 := hid hb6; clear hb6))
      go_ret
      exact ⟨rfl, HB1.out.trans (HB6.out.mono HB1.out.size)⟩
  obtain ⟨n, rfl⟩ : ∃ k : Nat, n = k := ⟨n.toNat, by omega⟩
  have hn2 : n ≤ 200 := by omega
  have hmk : ∀ w : World, (Instr.makeSlice 22 (.int .i64 n) (.int .i64 n)).run Try.prog w = .ok (.slice (some ⟨w.heap.size, 0, none⟩) n n) (w.alloc (.cells ((lgs x n 0).map bv).toArray 5)) := fun w => by
    rw [lgs_zero]
    exact run_make_row' 22 5 (.int .u8 0) 1 Try.underlying22 zero_info rfl .i64 .i64 n (by omega) (by omega) w
  generalize hva : ((lgs x n 0).map bv).toArray = va at hmk
  go_upto_region 6 with fail
  subst hva
  have hblk : Blk (w1.alloc (.cells ((lgs x n 0).map bv).toArray 5)) w1.heap.size 5 ((lgs x n 0).map bv).toArray := Blk.new w1 _ _
  have hbw : Below w1.heap.size w1 (w1.alloc (.cells ((lgs x n 0).map bv).toArray 5)) := (Below.refl _ _).alloc (Nat.le_refl _) _
  generalize w1.alloc (.cells ((lgs x n 0).map bv).toArray 5) = W at hblk hbw ⊢
  have HBK := hid hblk
  have HBW := hid hbw
  clear hmk hblk hbw
  generalize hq : w1.heap.size = q at HBK HBW ⊢
  have HQ := hid hq
  clear hq
  go_wp2_with fail
  go_loopw [6] (fun co wr => ∃ k : Nat, k ≤ n ∧ co = .int .i64 (k : Int) ∧ Blk wr q 5 ((lgs x n k).map bv).toArray ∧ Below q w1 wr) (fun co _ => n - (intOf co).toNat)
  case atStart => exact ⟨0, by omega, rfl, HBK.out, HBW.out⟩
  case round =>
    obtain ⟨k, hk, rfl, hbk, hb⟩ := hrel
    have HK := hid hbk
    have HB := hid hb
    clear hbk hb HBK HBW
    by_cases hkn : k < n
    · have cq := HK.out.cell k
      have fq := HK.out.frozen k
      have hcq : ((lgs x n k).map bv).toArray[k]? = some (bv (if k < k then chr ((k + x) % 17) else 0)) := by
        simp [lgs, hkn]
      rw [hcq] at cq
      obtain ⟨r, hr⟩ : ∃ r, (k + x) % 17 = r := ⟨_, rfl⟩
      have hr17 : r < 17 := by omega
      have hri : ((k : Int) + (x : Int)) % 17 = (r : Int) := by omega
      have HSU := hid (lgs_succ (c := x) (n := n) (k := k))
      rw [hr] at HSU
      have HCH := hid (chr_at r hr17)
      clear hcq hr
      go_wp2_with fail
      have e := HCH.out
      unfold chK at e
      rw [e]
      have hset := HK.out.set_ k (bv (chr r))
      rw [HSU.out] at hset
      have hbl : Below q w1 (wr.setCell ⟨q, k, none⟩ (bv (chr r))) := HB.out.setCell (p := ⟨q, k, none⟩) (Nat.le_refl _) _
      exact ⟨⟨k + 1, by omega, by go_num, hset, hbl⟩, by simp [intOf]; omega⟩
    · obtain rfl : k = n := by omega
      have HL := hid (show Bs wr (some ⟨q, 0, none⟩) k (lgs x k k) from ⟨by simp [lgs_len], fun _ => ⟨q, 0, rfl, fun j u hu => by
        rw [HK.out.cell, Nat.zero_add]
        simpa using hu⟩⟩)
      have HBR := hid (HB1.out.trans ((show Below w1.heap.size w1 wr by rw [HQ.out]; exact HB.out).mono HB1.out.size))
      have hll : (lgs x k k).length = k := lgs_len x k k
      have hlb := lgs_bits x k
      generalize lgs x k k = lg at HL hll hlb
      generalize hbb : hbits lg = bb at hlb
      have HBB := hid hbb
      clear hbb HK HB
      generalize hem : hl x = m
      have HEM := hid hem
      have h5 := hl_le x
      have h30 := hl_top x (by omega)
      rw [hem] at h5 h30
      obtain ⟨cx, hec⟩ : ∃ v, codeN x = v := ⟨_, rfl⟩
      have HEC := hid hec
      clear hec
      have HHX := hid (show hbits [UInt8.ofNat x] = m by
        unfold hbits
        rw [List.map_cons, List.map_nil, List.sum_cons, List.sum_nil, Nat.add_zero, UInt8.toNat_ofNat', Nat.mod_eq_of_lt hx, hem])
      clear hem
      have HBV : Hid (Value.int .u8 (x : Int) = bv (UInt8.ofNat x)) := hid (by unfold bv; rw [UInt8.toNat_ofNat', Nat.mod_eq_of_lt hx])
      go_upto_region 12 with (first
        | (go_at_call 13; go_must (refine (bits_of_calls _ k k lg bb _ HL.out (by omega) HBB.out).mono ?_; rintro e w2 ⟨rfl, rfl⟩))
        | (go_at_call 16; go_must (refine (code_calls x m cx _ hx HEM.out HEC.out).mono ?_; rintro e w3 ⟨rfl, hb3⟩; have HB3 := hid (HBR.out.trans (hb3.mono HBR.out.size)); have HL3 := hid (HL.out.below hb3); clear hb3)))
      go_wp2_with (first
        | (go_at_call 8; go_must (refine (first_any _).mono ?_; rintro e w4 ⟨rfl, hb4⟩; have HB4 := hid (HB3.out.trans (hb4.mono HB3.out.size)); have HL4 := hid (HL3.out.below hb4); clear hb4))
        | (go_at_call 10; go_must (refine (enc_calls _ k k lg _ HL4.out (by omega)).mono ?_; rw [HBB.out]; rintro e w5 ⟨A5, c5, o, p, rfl, ho5, hbo, hp, hol, hb5⟩; have HB5 := hid (HB4.out.trans (hb5.mono HB4.out.size)); have hq8 : ((bb : Int) + 7) / 8 = ((o.length : Nat) : Int) := (by omega); have hol2 : o.length ≤ 2000 := (by omega); clear ho5 hbo hb5 hol))
        | (go_at_call 13; go_must (refine (bits_of_calls _ 1 1 [UInt8.ofNat x] m _ (by unfold Bs; rw [List.map_cons, ← HBV.out]; exact rd_one rfl) (by omega) HHX.out).mono ?_; rintro e w6 ⟨rfl, rfl⟩)))
      go_ret
      exact ⟨rfl, by first | exact HB5.out | exact HB5.out.alloc HB5.out.size _⟩
end Go.Proofs.Ytimklfdofldhaaa
