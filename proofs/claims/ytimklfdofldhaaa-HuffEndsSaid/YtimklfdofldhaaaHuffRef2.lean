/- What the reference's Bits, Encode and Decode answer. Conditions: the row is no longer than 2^30 (Bits: 2^40). -/
import Derived.Test.YtimklfdofldhaaaHuffRef
import Derived.Test.YtimklfdofldhaaaHuffBack
namespace Go.Proofs.Ytimklfdofldhaaa
open Go.RowKit
attribute [local go_sem] kd kdS

set_option maxHeartbeats 1000000 in
set_option maxRecDepth 100000 in
theorem refBits_any (A : Option Addr) (n c : Nat) (l : List UInt8) (w : World) (h : Bs w A n l) (hn : n ≤ 1099511627776) :
    Calls Try.prog 17 #[.slice A n c] w fun e w' => e = .returned (.int .i64 (hbits l)) ∧ Below w.heap.size w w' := by
  have hlen := h.len
  have H := hid h
  clear h
  go_enter Try.func17, Try.ntmps17
  go_wp2_with (go_at_call 15; go_must (refine (refCodes_any _).mono ?_; rintro e w1 ⟨b, d, rfl, hb, hd, hb1⟩; have HD := hid hd; have HB1 := hid hb1; clear hb hd hb1))
  have hw := hid (rfl : w1 = w1)
  have H1 := hid (H.out.below HB1.out)
  go_loopw [5, 6] (fun nn co wr => ∃ k : Nat, k ≤ n ∧ co = .int .i64 (k : Int) ∧ nn = .int .i64 (hbits (l.take k) : Nat) ∧ w1 = wr) (fun _ co _ => n - (intOf co).toNat)
  case atStart => exact ⟨0, by omega, rfl, rfl, rfl⟩
  case round =>
    obtain ⟨k, hk, rfl, rfl, rfl⟩ := hrel
    have hle := hbits_le (l.take k)
    have hlt : (l.take k).length ≤ k := by rw [List.length_take]; exact Nat.min_le_left _ _
    by_cases hkn : k < n
    · obtain ⟨b0, o, rfl, hc⟩ := H1.out.2 (by omega)
      have hc1 : w1.cell? ⟨b0, o + k, none⟩ = some (.int .u8 ((l[k]'(by omega)).toNat : Int)) := hc k _ (by rw [List.getElem?_map, List.getElem?_eq_getElem (by omega)]; rfl)
      have HT := hid (hbits_take l k (by omega))
      have hx := (l[k]'(by omega)).toNat_lt
      generalize (l[k]'(by omega)).toNat = x at hc1 HT hx
      have hx2 : x < 256 := hx
      have hd1 := HD.out x (by omega)
      have hln := hl_le x
      generalize hne : hl x = m at HT hln hd1
      generalize hqe : hbits (l.take k) = q at HT hle
      clear hne hqe hx hc
      go_wp2_with fail
      exact ⟨⟨k + 1, by omega, by go_num, by rw [HT.out]; go_num, by trivial⟩, by simp [intOf]; omega⟩
    · obtain rfl : k = n := by omega
      go_wp2_with fail
      go_ret
      exact ⟨by rw [List.take_of_length_le (by omega)]; rfl, HB1.out⟩

/-! One bit more behind what is written: the row's bits are those so far and ones behind. -/
theorem flip_bit : ∀ p, p < 8 → ∀ x, x < 256 → x.testBit p = true → ∀ i, i < 8 → (x ^^^ 2 ^ p).testBit i = (if i = p then false else x.testBit i) := by
  intro p _ x _ h i _
  rw [Nat.testBit_xor, Nat.testBit_two_pow]
  by_cases hi : i = p
  · subst hi
    simp [h]
  · simp [hi, Ne.symm hi]
theorem xor_lt {x p : Nat} (hx : x < 256) (hp : p < 8) : x ^^^ 2 ^ p < 256 := Nat.xor_lt_two_pow (n := 8) hx (Nat.lt_of_lt_of_le (Nat.pow_lt_pow_right (by omega) hp) (Nat.le_refl _))
/-- The last byte: q bits and p ones behind. -/
theorem last_flip {o : List UInt8} {x : UInt8} {B : List Bool} {p : Nat} (hp : p < 8) (h : bitsB (o ++ [x]) = B ++ List.replicate (p + 1) true) :
    bitsB (o ++ [UInt8.ofNat (x.toNat ^^^ 2 ^ p)]) = (B ++ [false]) ++ List.replicate p true := by
  have hx := x.toNat_lt
  have hxl := xor_lt (x := x.toNat) (p := p) hx hp
  rw [bitsB_append, bitsB_one] at h ⊢
  rw [UInt8.toNat_ofNat', Nat.mod_eq_of_lt hxl]
  have hl := congrArg List.length h
  rw [List.length_append, List.length_append, lowb_len, List.length_replicate, bitsB_len] at hl
  have get : ∀ i : Nat, (bitsB o ++ lowb 8 x.toNat)[i]? = (B ++ List.replicate (p + 1) true)[i]? := fun i => by rw [h]
  have hbit : ∀ j, j ≤ p → x.toNat.testBit j = true := by
    intro j hj
    have h1 := get (8 * o.length + (7 - j))
    rw [List.getElem?_append_right (by rw [bitsB_len]; omega), bitsB_len, show 8 * o.length + (7 - j) - 8 * o.length = 7 - j by omega, lowb_get (by omega), List.getElem?_append_right (by omega), List.getElem?_replicate, if_pos (by omega)] at h1
    rw [show 8 - 1 - (7 - j) = j by omega] at h1
    injection h1
  apply List.ext_getElem?
  intro i
  have h0 := get i
  by_cases hi : i < B.length
  · rw [List.getElem?_append_left (l₁ := B) hi] at h0
    rw [List.append_assoc, List.getElem?_append_left (l₁ := B) hi, ← h0]
    by_cases hi8 : i < 8 * o.length
    · rw [List.getElem?_append_left (by rw [bitsB_len]; exact hi8), List.getElem?_append_left (by rw [bitsB_len]; exact hi8)]
    · rw [List.getElem?_append_right (by rw [bitsB_len]; omega), List.getElem?_append_right (by rw [bitsB_len]; omega), bitsB_len, lowb_get (by omega), lowb_get (by omega), flip_bit p hp _ hx (hbit p (Nat.le_refl _)) _ (by omega), if_neg (by omega)]
  · by_cases hiB : i < B.length + 1 + p
    · rw [List.getElem?_append_right (by rw [bitsB_len]; omega), bitsB_len, lowb_get (by omega), flip_bit p hp _ hx (hbit p (Nat.le_refl _)) _ (by omega)]
      by_cases hie : i = B.length
      · subst hie
        rw [if_pos (by omega), List.append_assoc, List.getElem?_append_right (Nat.le_refl _)]
        simp
      · rw [if_neg (by omega), hbit _ (by omega), List.getElem?_append_right (by rw [List.length_append, List.length_singleton]; omega), List.getElem?_replicate, List.length_append, List.length_singleton, if_pos (by omega)]
    · rw [List.getElem?_eq_none (by rw [List.length_append, bitsB_len, lowb_len]; omega), List.getElem?_eq_none (by rw [List.length_append, List.length_append, List.length_singleton, List.length_replicate]; omega)]
theorem bit_get32 {x p : Nat} : bits .and .u32 ((x : Int) / 2 ^ p) 1 = ((x.testBit p).toNat : Int) := by
  have e : (x : Int) / 2 ^ p = ((x / 2 ^ p : Nat) : Int) := by
    rw [show (2 : Int) ^ p = ((2 ^ p : Nat) : Int) by rw [Int.natCast_pow]; rfl]
    exact (Int.natCast_ediv _ _).symm
  rw [e, Nat.testBit_eq_decide_div_mod_eq]
  generalize x / 2 ^ p = y
  have h : bits .and .u32 (y : Int) 1 = IntKind.u32.wrap (((y % 2 ^ 32) &&& 1 : Nat) : Int) := by
    show IntKind.u32.wrap ((BitVec.ofInt 32 (y : Int) &&& BitVec.ofInt 32 ((1 : Nat) : Int)).toNat : Int) = _
    rw [BitVec.toNat_and, BitVec.ofInt_natCast, BitVec.ofInt_natCast, BitVec.toNat_ofNat, BitVec.toNat_ofNat]
  have u32_wrap : ∀ v : Nat, IntKind.u32.wrap (v : Int) = ((v % 2 ^ 32 : Nat) : Int) := fun v => by
    unfold IntKind.wrap
    simp [IntKind.bits, IntKind.signed]
  rw [h, Nat.and_one_is_mod, u32_wrap]
  by_cases h1 : y % 2 = 1
  · rw [decide_eq_true h1]
    simp only [Bool.toNat_true]
    omega
  · rw [decide_eq_false h1]
    simp only [Bool.toNat_false]
    omega

theorem xor_val {y p : Nat} (hy : y < 256) (hp : p < 8) : Value.int .u8 (bits .xor .u8 (y : Int) (2 ^ p % 256)) = bv (UInt8.ofNat (y ^^^ 2 ^ p)) := by
  have h2 : 2 ^ p < 256 := Nat.lt_of_lt_of_le (Nat.pow_lt_pow_right (by omega) hp) (Nat.le_refl _)
  have e : (2 : Int) ^ p % 256 = ((2 ^ p : Nat) : Int) := by
    rw [show (2 : Int) ^ p = ((2 ^ p : Nat) : Int) by rw [Int.natCast_pow]; rfl]
    generalize 2 ^ p = q at h2
    omega
  rw [e]
  have h : bits .xor .u8 (y : Int) ((2 ^ p : Nat) : Int) = IntKind.u8.wrap ((y ^^^ 2 ^ p : Nat) : Int) := by
    show IntKind.u8.wrap ((BitVec.ofInt 8 (y : Int) ^^^ BitVec.ofInt 8 ((2 ^ p : Nat) : Int)).toNat : Int) = _
    rw [BitVec.toNat_xor, BitVec.ofInt_natCast, BitVec.ofInt_natCast, BitVec.toNat_ofNat, BitVec.toNat_ofNat, Nat.mod_eq_of_lt hy, Nat.mod_eq_of_lt h2]
  have hx := xor_lt hy hp
  rw [h, u8_wrap]
  unfold bv
  rw [UInt8.toNat_ofNat']

set_option maxHeartbeats 1000000 in
set_option maxRecDepth 100000 in
theorem refEncode_any (A : Option Addr) (n c : Nat) (l : List UInt8) (w : World) (h : Bs w A n l) (hn : n ≤ 1073741824) :
    Calls Try.prog 18 #[.slice A n c] w fun e w' => ∃ A2 c2 o p, e = .returned (.slice A2 o.length c2) ∧ Bs w' A2 o.length o ∧ bitsB o = bitsL l ++ List.replicate p true ∧ p ≤ 7 ∧ Below w.heap.size w w' := by
  obtain ⟨i0, hi0, hz0, hz1, hz2⟩ := info_parts big_info
  have hi := hid hi0
  have hz := hid hz0
  have hsz := hid hz1
  have hby := hid hz2
  clear hi0 hz0 hz1 hz2
  have hlen := h.len
  have H := hid h
  clear h
  go_enter Try.func18, Try.ntmps18
  go_wp2_with (go_at_call 15; go_must (refine (refCodes_any _).mono ?_; rintro e w1 ⟨b, d, rfl, hb, hd, hb1⟩; have HD := hid hd; have HC := hid hb; have HB1 := hid hb1; clear hb hd hb1))
  have H1 := hid (H.out.below HB1.out)
  go_loopw [5, 6, 7] (fun out ao io wr => ∃ (k : Nat) (A2 : Option Addr) (c2 p : Nat) (o : List UInt8), k ≤ n ∧ io = .int .i64 (k : Int) ∧ ao = .int .i64 ((bitsL (l.take k)).length : Nat) ∧ out = .slice A2 o.length c2 ∧ wr.ownsRow w1.heap.size 5 1 (.slice A2 o.length c2) o.length (o.map bv) ∧ bitsB o = bitsL (l.take k) ++ List.replicate p true ∧ p ≤ 7 ∧ Below w1.heap.size w1 wr) (fun _ _ io _ => n - (intOf io).toNat)
  case atStart => exact ⟨0, none, 0, 0, [], by omega, rfl, rfl, rfl, World.ownsRow_nil _ _ _ _, rfl, by omega, Below.refl _ _⟩
  case round =>
    obtain ⟨k, A2, c2, p, o, hk, rfl, rfl, rfl, hown, hbits, hp, hb⟩ := hrel
    have HB := hid hb
    have HO := hid hown
    have HBI := hid hbits
    clear hb hown hbits
    by_cases hkn : k < n
    · obtain ⟨b0, o0, rfl, hc⟩ := H1.out.2 (by omega)
      have hcw : w1.cell? ⟨b0, o0 + k, none⟩ = some (.int .u8 ((l[k]'(by omega)).toNat : Int)) := hc k _ (by rw [List.getElem?_map, List.getElem?_eq_getElem (by omega)]; rfl)
      have hc1 : wr.cell? ⟨b0, o0 + k, none⟩ = some (.int .u8 ((l[k]'(by omega)).toNat : Int)) := below_keep HB.out _ _ hcw
      have HT := hid (bitsL_take l k (by omega))
      have HBL := hid (show (bitsL (l.take (k + 1))).length ≤ 36 * (k + 1) by
        rw [bitsL_len]
        have h1 := hbits_le (l.take (k + 1))
        have h2 : (l.take (k + 1)).length ≤ k + 1 := by rw [List.length_take]; exact Nat.min_le_left _ _
        omega)
      have hx := (l[k]'(by omega)).toNat_lt
      generalize (l[k]'(by omega)).toNat = x at hcw hc1 HT hx
      have hx2 : x < 256 := hx
      have hdw := HD.out x (by omega)
      have hbw := HC.out x (by omega)
      have hd1 := below_keep HB.out _ _ hdw
      have h30 := hl_top x (by omega)
      have h5 := (hl_le x).1
      have HCB := hid (show cb x = lowb (hl x) (codeN x) from rfl)
      generalize hne : hl x = z at hd1 hdw h30 h5 HCB
      generalize hce : codeN x = CN at hbw HCB
      have HCW := hid hcw
      have HBW := hid hbw
      have hlk := HBL.out
      rw [HT.out, List.length_append] at hlk
      have hcz : (cb x).length = z := by rw [HCB.out, lowb_len]
      rw [hcz] at hlk
      generalize hBe : bitsL (l.take k) = B0 at HBI HT hlk
      clear hne hce hx hc hBe hcw hbw hdw
      go_wp2_with fail
      have HO2 := hid HO.out
      have HBR := hid HB.out
      clear hc1 hd1 HO HB
      go_loopw [5, 6, 8] (fun out ao ko wr => ∃ (j : Nat) (B : List Bool) (A2 : Option Addr) (c2 p : Nat) (o : List UInt8), j ≤ z ∧ ko = .int .i64 ((z : Int) - 1 - (j : Int)) ∧ ao = .int .i64 (B.length : Nat) ∧ out = .slice A2 o.length c2 ∧ wr.ownsRow w1.heap.size 5 1 (.slice A2 o.length c2) o.length (o.map bv) ∧ bitsB o = B ++ List.replicate p true ∧ p ≤ 7 ∧ B ++ (cb x).drop j = bitsL (l.take (k + 1)) ∧ Below w1.heap.size w1 wr) (fun _ _ ko _ => (intOf ko + 1).toNat)
      case atStart => exact ⟨0, B0, A2, c2, p, o, by omega, by first | rfl | (congr 1; omega), rfl, rfl, HO2.out, HBI.out, hp, HT.out.symm, HBR.out⟩
      case round =>
        obtain ⟨j, B, A3, c3, p3, o3, hj, rfl, rfl, rfl, hown, hbits, hp3, hpre, hb⟩ := hrel
        have HB := hid hb
        have HO := hid hown
        have HBJ := hid hbits
        have HPR := hid hpre
        have hbs := hb.size
        have hl8 := congrArg List.length hbits
        rw [bitsB_len, List.length_append, List.length_replicate] at hl8
        have hBl : B.length ≤ 36 * (k + 1) := by
          have h1 := congrArg List.length hpre
          rw [List.length_append] at h1
          have := HBL.out
          omega
        clear hb hown hbits hpre HO2 HBR HBI
        by_cases hjz : j < z
        · obtain ⟨kk, hkk⟩ : ∃ kk, kk + j + 1 = z := ⟨z - j - 1, by omega⟩
          have hke : (z : Int) - 1 - (j : Int) = (kk : Int) := by omega
          have HDJ : Hid ((cb x).drop j = CN.testBit kk :: (cb x).drop (j + 1)) := hid (by
            have h1 : (cb x)[j]? = some (CN.testBit kk) := by
              rw [HCB.out, lowb_get hjz, show z - 1 - j = kk by omega]
            obtain ⟨h2, h3⟩ := List.getElem?_eq_some_iff.1 h1
            rw [List.drop_eq_getElem_cons h2, h3])
          have hcx : wr.cell? ⟨b0, o0 + k, none⟩ = some (.int .u8 (x : Int)) := below_keep HB.out _ _ HCW.out
          have hcc : wr.cell? ⟨b, x, none⟩ = some (.int .u32 (CN : Int)) := below_keep HB.out _ _ HBW.out
          have hgt := bit_get32 (x := CN) (p := kk)
          by_cases hp0 : p3 = 0
          · subst hp0
            have hm8 : ((B.length : Nat) : Int) % 8 = 0 := by omega
            have hol3 : o3.length ≤ 6000000000 := by omega
            go_upto_region 12 with (first
              | (at_builtin; go_loud (refine wpList_app _ rfl _ _ _ rfl w1.heap.size 5 i0 _ 1 1 Try.underlying22 hi.out hz.out hsz.out hby.out rfl (by omega) _ o3.length _ rfl (HO.out.alloc _) _ 1 1 _ rfl (rd_one rfl) (by simp [Value.oneCell']) (by omega) (by omega) (by simp; omega) ?_; intro A5 c5 w5 ho5 hg5 hc5; have HO5 := hid ho5; have HG5 := hid hg5; clear ho5 hg5 hc5)))
            have hbl5 : Below w1.heap.size w1 w5 := below_app (HB.out.alloc (by omega) _) (HO.out.alloc _) HG5.out (Nat.le_refl _) (by simp; omega)
            have HB5 := hid hbl5
            have HO6 := hid (show w5.ownsRow w1.heap.size 5 1 (.slice A5 (o3.length + 1) c5) (o3.length + 1) ((o3 ++ [255]).map bv) by rw [List.map_append]; exact HO5.out)
            have hcx5 : w5.cell? ⟨b0, o0 + k, none⟩ = some (.int .u8 (x : Int)) := below_keep hbl5 _ _ HCW.out
            have hcc5 : w5.cell? ⟨b, x, none⟩ = some (.int .u32 (CN : Int)) := below_keep hbl5 _ _ HBW.out
            have HBK := hid (show bitsB (o3 ++ [255]) = B ++ List.replicate (7 + 1) true by rw [bitsB_append, HBJ.out, byte_ones, List.replicate_zero, List.append_nil])
            obtain ⟨g, cap, hform, hg1, hg2⟩ := HO6.out.form (by omega)
            injection hform with hA _ _
            subst hA
            have clast : w5.cell? ⟨g, o3.length, none⟩ = some (.int .u8 255) := by
              rw [HO6.out.cellAt _ (by omega), List.map_append, List.getElem?_append_right (by simp), List.length_map, Nat.sub_self]
              rfl
            have flast := HO6.out.frozenAt o3.length
            clear HO HG5 HO5 HB hcx hcc hbl5
            rcases hv : CN.testBit kk with _ | _
            · rw [hv] at HDJ
              simp only [hv, Bool.toNat_false] at hgt
              have hgt0 : bits BinOp.and IntKind.u32 ((CN : Int) / 2 ^ kk) 1 = 0 := hgt
              clear hgt
              go_wp2_with fail
              have hx7 : Value.int .u8 (bits .xor .u8 255 128) = bv 127 := by kernel_rfl
              rw [hx7]
              have hst := (HO6.out.stored o3.length (bv 127)).1
              have hse : ((o3 ++ [255]).map bv).set o3.length (bv 127) = (o3 ++ [127]).map bv := by
                rw [List.map_append, List.map_append, List.set_append_right _ _ (by simp)]
                simp
              rw [hse] at hst
              have hfl := last_flip (x := 255) (p := 7) (by omega) HBK.out
              have hbl6 : Below w1.heap.size w1 (w5.setCell ⟨g, o3.length, none⟩ (bv 127)) := HB5.out.setCell (p := ⟨g, o3.length, none⟩) hg1 _
              refine ⟨⟨j + 1, B ++ [false], some ⟨g, 0, none⟩, c5, 7, o3 ++ [127], by omega, congrArg (Value.int .i64) (by omega), congrArg (Value.int .i64) (by rw [List.length_append, List.length_singleton]; omega), ?_, ?_, hfl, by omega, ?_, hbl6⟩, by simp [intOf]; omega⟩
              · rw [List.length_append, List.length_singleton]
              · rw [List.length_append, List.length_singleton]
                exact hst
              · rw [← HPR.out, HDJ.out, List.append_assoc]
                rfl
            · rw [hv] at HDJ
              simp only [hv, Bool.toNat_true] at hgt
              have hgt0 : bits BinOp.and IntKind.u32 ((CN : Int) / 2 ^ kk) 1 = 1 := hgt
              clear hgt
              go_wp2_with fail
              refine ⟨⟨j + 1, B ++ [true], some ⟨g, 0, none⟩, c5, 7, o3 ++ [255], by omega, congrArg (Value.int .i64) (by omega), congrArg (Value.int .i64) (by rw [List.length_append, List.length_singleton]; omega), ?_, ?_, ?_, by omega, ?_, HB5.out⟩, by simp [intOf]; omega⟩
              · rw [List.length_append, List.length_singleton]
              · rw [List.length_append, List.length_singleton]
                exact HO6.out
              · rw [HBK.out, List.replicate_succ, List.append_assoc]
                rfl
              · rw [← HPR.out, HDJ.out, List.append_assoc]
                rfl
          · have hm8 : ¬ (((B.length : Nat) : Int) % 8 = 0) := by omega
            obtain ⟨pp, rfl⟩ : ∃ q, p3 = q + 1 := ⟨p3 - 1, by omega⟩
            have hs7 : 7 - ((B.length : Nat) : Int) % 8 = (pp : Int) := by omega
            obtain ⟨ini, last, rfl⟩ : ∃ ini last, o3 = ini ++ [last] := by
              rcases List.eq_nil_or_concat o3 with h | ⟨a, b, h⟩
              · subst h
                simp at hl8
              · exact ⟨a, b, by rw [h, List.concat_eq_append]⟩
            have hli : (ini ++ [last]).length = ini.length + 1 := by rw [List.length_append, List.length_singleton]
            rw [hli] at HO ⊢
            obtain ⟨g, cap, hform, hg1, hg2⟩ := HO.out.form (by omega)
            injection hform with hA _ _
            subst hA
            have clast : wr.cell? ⟨g, ini.length, none⟩ = some (.int .u8 (last.toNat : Int)) := by
              rw [HO.out.cellAt _ (by omega), List.map_append, List.getElem?_append_right (by simp), List.length_map, Nat.sub_self]
              rfl
            have flast := HO.out.frozenAt ini.length
            rcases hv : CN.testBit kk with _ | _
            · rw [hv] at HDJ
              simp only [hv, Bool.toNat_false] at hgt
              have hgt0 : bits BinOp.and IntKind.u32 ((CN : Int) / 2 ^ kk) 1 = 0 := hgt
              clear hgt
              go_wp2_with fail
              have hlt := last.toNat_lt
              rw [xor_val hlt (by omega)]
              have hst := (HO.out.stored ini.length (bv (UInt8.ofNat (last.toNat ^^^ 2 ^ pp)))).1
              have hse : ((ini ++ [last]).map bv).set ini.length (bv (UInt8.ofNat (last.toNat ^^^ 2 ^ pp))) = (ini ++ [UInt8.ofNat (last.toNat ^^^ 2 ^ pp)]).map bv := by
                rw [List.map_append, List.map_append, List.set_append_right _ _ (by simp)]
                simp
              rw [hse] at hst
              have hfl := last_flip (p := pp) (by omega) HBJ.out
              have hbl6 : Below w1.heap.size w1 (wr.setCell ⟨g, ini.length, none⟩ (bv (UInt8.ofNat (last.toNat ^^^ 2 ^ pp)))) := HB.out.setCell (p := ⟨g, ini.length, none⟩) hg1 _
              refine ⟨⟨j + 1, B ++ [false], some ⟨g, 0, none⟩, c3, pp, ini ++ [UInt8.ofNat (last.toNat ^^^ 2 ^ pp)], by omega, congrArg (Value.int .i64) (by omega), congrArg (Value.int .i64) (by rw [List.length_append, List.length_singleton]; omega), ?_, ?_, hfl, by omega, ?_, hbl6⟩, by simp [intOf]; omega⟩
              · rw [List.length_append, List.length_singleton]
              · rw [List.length_append, List.length_singleton]
                exact hst
              · rw [← HPR.out, HDJ.out, List.append_assoc]
                rfl
            · rw [hv] at HDJ
              simp only [hv, Bool.toNat_true] at hgt
              have hgt0 : bits BinOp.and IntKind.u32 ((CN : Int) / 2 ^ kk) 1 = 1 := hgt
              clear hgt
              go_wp2_with fail
              refine ⟨⟨j + 1, B ++ [true], some ⟨g, 0, none⟩, c3, pp, ini ++ [last], by omega, congrArg (Value.int .i64) (by omega), congrArg (Value.int .i64) (by rw [List.length_append, List.length_singleton]; omega), ?_, ?_, ?_, by omega, ?_, HB.out⟩, by simp [intOf]; omega⟩
              · rw [List.length_append, List.length_singleton]
              · rw [List.length_append, List.length_singleton]
                exact HO.out
              · rw [HBJ.out, List.replicate_succ, List.append_assoc]
                rfl
              · rw [← HPR.out, HDJ.out, List.append_assoc]
                rfl
        · obtain rfl : j = z := by omega
          have hBe : B = bitsL (l.take (k + 1)) := by
            have h1 := HPR.out
            rw [List.drop_of_length_le (by omega), List.append_nil] at h1
            exact h1
          subst hBe
          go_wp2_with fail
          exact ⟨⟨k + 1, A3, c3, p3, o3, by omega, by go_num, rfl, rfl, HO.out, HBJ.out, hp3, HB.out⟩, by simp [intOf]; omega⟩
    · obtain rfl : k = n := by omega
      have hbj := HBI.out
      rw [List.take_of_length_le (by omega)] at hbj
      have HBJ := hid hbj
      clear hbj HBI
      go_wp2_with fail
      refine bodyPost_ret (v := .slice A2 o.length c2) (by simp [results, Try.results18, go_sem]) rfl ?_
      exact ⟨A2, c2, o, p, rfl, Bs.of_own HO.out, HBJ.out, hp, HB1.out.trans (HB.out.mono HB1.out.size)⟩
end Go.Proofs.Ytimklfdofldhaaa
