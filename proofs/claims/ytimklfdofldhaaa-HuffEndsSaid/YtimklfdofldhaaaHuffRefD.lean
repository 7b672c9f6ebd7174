/- What the reference's Decode answers. Condition: the row is no longer than 2^30. -/
import Derived.Test.YtimklfdofldhaaaHuffRef2
namespace Go.Proofs.Ytimklfdofldhaaa
open Go.RowKit
attribute [local go_sem] kd kdS

theorem ord_split (k : Nat) : ∀ m, ∃ R, ordB (k + m) = ordB k ++ R := by
  intro m
  induction m with
  | zero => exact ⟨[], by simp⟩
  | succ m ih =>
    obtain ⟨R, h⟩ := ih
    exact ⟨R ++ signs (5 + (k + m)), by rw [show k + (m + 1) = k + m + 1 by omega, ordB_succ, h, List.append_assoc]⟩
theorem sign_len {k j : Nat} (hk : k < 26) (hj : j < (signs (5 + k)).length) : hl ((ordB 26).getD ((ordB k).length + j) 0) = 5 + k := by
  obtain ⟨R, hR⟩ := ord_split (k + 1) (25 - k)
  rw [show k + 1 + (25 - k) = 26 by omega, ordB_succ k, List.append_assoc] at hR
  rw [hR, List.getD_eq_getElem?_getD, List.getElem?_append_right (by omega), List.getElem?_append_left (by omega), Nat.add_sub_cancel_left, List.getElem?_eq_getElem hj, Option.getD_some]
  have h := List.getElem_mem hj
  unfold signs at h
  rw [List.mem_filter] at h
  exact beq_iff_eq.1 h.2
/-- What the look-up finds is a sign with just that code. -/
theorem dec_sign_of {n c s : Nat} (hn : n < 31) (h : decS n c = some s) : s < 257 ∧ hl s = n ∧ codeN s = c := by
  unfold decS at h
  split at h
  · rename_i hc
    obtain ⟨h5, h1, h2⟩ := hc
    injection h with h
    have hin := dec_in n hn h5
    obtain ⟨a1, a2⟩ := ord_at ((ordB (n - 5)).length + c - first n) (by omega)
    rw [h] at a1 a2
    have hlen := sign_len (k := n - 5) (j := c - first n) (by omega) (by rw [show 5 + (n - 5) = n by omega]; show _ < many n; omega)
    rw [show (ordB (n - 5)).length + (c - first n) = (ordB (n - 5)).length + c - first n by omega, h, show 5 + (n - 5) = n by omega] at hlen
    refine ⟨a1, hlen, ?_⟩
    have h3 := code_first a1
    rw [hlen, a2] at h3
    omega
  · cases h
/-- What the reference has found among the signs below i. -/
def fnd (n c i : Nat) : Int := match decS n c with | some s => if s < i then (s : Int) else -1 | none => -1
theorem fnd_zero (n c : Nat) : fnd n c 0 = -1 := by
  unfold fnd
  split <;> simp
theorem fnd_hit {n c i : Nat} (hi : i < 257) (h1 : hl i = n) (h2 : codeN i = c) : fnd n c (i + 1) = i := by
  have := full_some hi
  rw [h1, h2] at this
  unfold fnd
  rw [this]
  simp
theorem fnd_miss {n c i : Nat} (hn : n < 31) (h : ¬ (hl i = n ∧ codeN i = c)) : fnd n c (i + 1) = fnd n c i := by
  unfold fnd
  rcases hd : decS n c with _ | s
  · rfl
  · obtain ⟨_, a2, a3⟩ := dec_sign_of hn hd
    have hne : s ≠ i := by
      intro e
      subst e
      exact h ⟨a2, a3⟩
    simp only
    by_cases hs : s < i
    · rw [if_pos hs, if_pos (by omega)]
    · rw [if_neg hs, if_neg (by omega)]
theorem fnd_all {n c : Nat} (hn : n < 31) : fnd n c 257 = match decS n c with | some s => (s : Int) | none => -1 := by
  unfold fnd
  rcases hd : decS n c with _ | s
  · rfl
  · simp only
    rw [if_pos (dec_sign_of hn hd).1]
theorem fnd_few {n c : Nat} (h : n < 5) : decS n c = none := by
  unfold decS
  rw [if_neg (by omega)]
theorem bit_put32 {c : Nat} {b : Bool} (hc : c < 536870912) : bits .or .u32 ((c : Int) * 2) ((b.toNat : Int) % 4294967296) = ((2 * c + b.toNat : Nat) : Int) := by
  have hb : b.toNat ≤ 1 := by cases b <;> decide
  have u32_wrap : ∀ v : Nat, IntKind.u32.wrap (v : Int) = ((v % 2 ^ 32 : Nat) : Int) := fun v => by
    unfold IntKind.wrap
    simp [IntKind.bits, IntKind.signed]
  rw [show (c : Int) * 2 = ((2 * c : Nat) : Int) by omega, show (b.toNat : Int) % 4294967296 = (b.toNat : Int) by omega]
  have h : bits .or .u32 ((2 * c : Nat) : Int) (b.toNat : Int) = IntKind.u32.wrap ((2 * c ||| b.toNat : Nat) : Int) := by
    show IntKind.u32.wrap ((BitVec.ofInt 32 ((2 * c : Nat) : Int) ||| BitVec.ofInt 32 (b.toNat : Int)).toNat : Int) = _
    rw [BitVec.toNat_or, BitVec.ofInt_natCast, BitVec.ofInt_natCast, BitVec.toNat_ofNat, BitVec.toNat_ofNat, Nat.mod_eq_of_lt (show 2 * c < 2 ^ 32 by omega), Nat.mod_eq_of_lt (show b.toNat < 2 ^ 32 by omega)]
  have h2 := Nat.two_pow_add_eq_or_of_lt (i := 1) (b := b.toNat) (by omega) c
  rw [Nat.pow_one] at h2
  rw [h, ← h2, u32_wrap, Nat.mod_eq_of_lt (show 2 * c + b.toNat < 2 ^ 32 by omega)]

set_option maxHeartbeats 1000000 in
set_option maxRecDepth 100000 in
theorem refDecode_any (A : Option Addr) (n c : Nat) (most : Int) (l : List UInt8) (w : World) (h : Bs w A n l) (hn : n ≤ 1073741824) :
    Calls Try.prog 14 #[.slice A n c, .int .i64 most] w fun e w' => ∃ A2 c2, e = .returned (.tuple #[.slice A2 (dec most (bitsB l) 0 0 []).1.length c2, .int .i64 ((dec most (bitsB l) 0 0 []).2 : Nat)]) ∧ Bs w' A2 (dec most (bitsB l) 0 0 []).1.length (dec most (bitsB l) 0 0 []).1 ∧ Below w.heap.size w w' := by
  obtain ⟨i0, hi0, hz0, hz1, hz2⟩ := info_parts big_info
  have hi := hid hi0
  have hz := hid hz0
  have hsz := hid hz1
  have hby := hid hz2
  clear hi0 hz0 hz1 hz2
  have hlen := h.len
  have H := hid h
  clear h
  generalize hdr : dec most (bitsB l) 0 0 [] = R
  have HR := hid hdr
  clear hdr
  go_enter Try.func14, Try.ntmps14
  go_wp2_with (go_at_call 15; go_must (refine (refCodes_any _).mono ?_; rintro e w1 ⟨b, d, rfl, hb, hd, hb1⟩; have HD := hid hd; have HC := hid hb; have HB1 := hid hb1; clear hb hd hb1))
  have H1 := hid (H.out.below HB1.out)
  go_loopw [8, 9, 10, 11] (fun out co lo ao wr => ∃ (k : Nat) (A2 : Option Addr) (c2 cd m : Nat) (o : List UInt8), k ≤ 8 * n ∧ ao = .int .i64 (k : Int) ∧ lo = .int .i64 (m : Int) ∧ co = .int .u32 (cd : Int) ∧ out = .slice A2 o.length c2 ∧ Inv m cd ∧ o.length ≤ k ∧ wr.ownsRow w1.heap.size 5 1 (.slice A2 o.length c2) o.length (o.map bv) ∧ R = dec most ((bitsB l).drop k) cd m o ∧ Below w1.heap.size w1 wr) (fun _ _ _ ao _ => 8 * n - (intOf ao).toNat)
  case atStart => exact ⟨0, none, 0, 0, 0, [], by omega, rfl, rfl, rfl, rfl, inv_zero, Nat.le_refl _, World.ownsRow_nil _ _ _ _, by rw [← HR.out]; rfl, Below.refl _ _⟩
  case round =>
    obtain ⟨k, A2, c2, cd, m, o, hk, rfl, rfl, rfl, rfl, hinv, hol, hown, hdec, hb⟩ := hrel
    have HB := hid hb
    have HO := hid hown
    have HDE := hid hdec
    have HI := hid hinv
    have hm29 := hinv.1
    clear hb hown hdec hinv
    by_cases hkn : k < 8 * n
    · obtain ⟨b0, oi, rfl, hc⟩ := H1.out.2 (by omega)
      obtain ⟨q, hq⟩ : ∃ q, k / 8 = q := ⟨_, rfl⟩
      obtain ⟨r, hr⟩ : ∃ r, k % 8 = r := ⟨_, rfl⟩
      obtain ⟨p, hp⟩ : ∃ p, p + r = 7 := ⟨7 - r, by omega⟩
      have hqn : q < n := by omega
      have hcw : w1.cell? ⟨b0, oi + q, none⟩ = some (.int .u8 ((l[q]'(by omega)).toNat : Int)) := hc q _ (by rw [List.getElem?_map, List.getElem?_eq_getElem (by omega)]; rfl)
      have hc1 : wr.cell? ⟨b0, oi + q, none⟩ = some (.int .u8 ((l[q]'(by omega)).toNat : Int)) := below_keep HB.out _ _ hcw
      have hba : (bitsB l)[k]? = some ((l[q]'(by omega)).toNat.testBit p) := by
        have h := bitsB_at l k (by omega)
        rw [show 7 - k % 8 = p by omega] at h
        simpa only [hq] using h
      have hq8 : (k : Int) / 8 = (q : Int) := by omega
      have hr8 : (k : Int) % 8 = (r : Int) := by omega
      have hp7 : IntKind.i64.wrap (7 - (r : Int)) = (p : Int) := by rw [IntWalk.i64_in _ (by omega)]; omega
      have hx := (l[q]'(by omega)).toNat_lt
      generalize (l[q]'(by omega)).toNat = x at hc1 hx hba
      have HDR : Hid ((bitsB l).drop k = x.testBit p :: (bitsB l).drop (k + 1)) := hid (by
        obtain ⟨h1, h2⟩ := List.getElem?_eq_some_iff.1 hba
        rw [List.drop_eq_getElem_cons h1, h2])
      clear hba
      have hx2 : x < 256 := hx
      have hp2 : 2 ^ m ≤ 2 ^ 29 := Nat.pow_le_pow_right (by omega) hm29
      have hcd : cd < 536870912 := by
        have := HI.out.2.1
        have h4 : 2 ^ 29 = 536870912 := by decide
        omega
      clear hx hcw hc hp2
      have hbp := bit_put32 (c := cd) (b := x.testBit p) hcd
      rw [← bit_get] at hbp
      generalize hcv : 2 * cd + (x.testBit p).toNat = cv at hbp
      have hcv2 : cv < 1073741824 := by
        have hbt : (x.testBit p).toNat ≤ 1 := by cases x.testBit p <;> decide
        omega
      have HCV := hid hcv
      clear hcv
      have HOr := hid HO.out
      have HBr := hid HB.out
      have hbs := HB.out.size
      go_upto_region 9 with fail
      have hol2 : o.length ≤ 8589934592 := by omega
      have hm30 : m + 1 < 31 := by omega
      clear hbp hc1 hr8 hq8 hp7
      rename (k : Int) < 8 * (n : Int) => hcond
      clear hcond
      go_wp2_with fail
      go_loopw [12, 13] (fun fo io wv => ∃ i : Nat, i ≤ 257 ∧ io = .int .i64 (i : Int) ∧ fo = .int .i64 (fnd (m + 1) cv i) ∧ wr = wv) (fun _ io _ => 257 - (intOf io).toNat)
      case atStart => exact ⟨0, by omega, rfl, by rw [fnd_zero], rfl⟩
      case round =>
        obtain ⟨i, hi7, rfl, rfl, rfl⟩ := hrel
        by_cases hgo : i < 257 ∧ 5 ≤ m + 1
        · obtain ⟨hi6, hm5⟩ := hgo
          have hdc := below_keep HB.out _ _ (HD.out i hi6)
          have hcc := below_keep HB.out _ _ (HC.out i hi6)
          by_cases hhit : hl i = m + 1 ∧ codeN i = cv
          · have HF := hid (fnd_hit hi6 hhit.1 hhit.2)
            rw [hhit.1] at hdc
            rw [hhit.2] at hcc
            clear hhit
            go_wp2_with fail
            first
              | exact ⟨⟨i + 1, by omega, by omega, by rw [HF.out]⟩, by simp [intOf]; omega⟩
              | exact ⟨⟨i + 1, by omega, congrArg (Value.int .i64) (by omega), by rw [HF.out], by trivial⟩, by simp [intOf]; omega⟩
              | exact ⟨⟨i + 1, by omega, congrArg (Value.int .i64) (by omega), by rw [HF.out]⟩, by simp [intOf]; omega⟩
          · have HF := hid (fnd_miss (n := m + 1) (c := cv) (i := i) hm30 hhit)
            have hh : (hl i : Int) ≠ ((m + 1 : Nat) : Int) ∨ ((hl i : Int) = ((m + 1 : Nat) : Int) ∧ (codeN i : Int) ≠ (cv : Int)) := by omega
            generalize hl i = hli at hdc hh
            generalize codeN i = cni at hcc hh
            clear hhit
            rcases hh with hh | ⟨hh, hh2⟩
            · have hh' : ¬ ((hli : Int) = (m : Int) + 1) := by omega
              go_wp2_with fail
              first
                | exact ⟨⟨i + 1, by omega, by omega, by rw [HF.out]⟩, by simp [intOf]; omega⟩
                | exact ⟨⟨i + 1, by omega, congrArg (Value.int .i64) (by omega), by rw [HF.out], by trivial⟩, by simp [intOf]; omega⟩
                | exact ⟨⟨i + 1, by omega, congrArg (Value.int .i64) (by omega), by rw [HF.out]⟩, by simp [intOf]; omega⟩
            · have hhe : hli = m + 1 := by omega
              subst hhe
              go_wp2_with fail
              first
                | exact ⟨⟨i + 1, by omega, by omega, by rw [HF.out]⟩, by simp [intOf]; omega⟩
                | exact ⟨⟨i + 1, by omega, congrArg (Value.int .i64) (by omega), by rw [HF.out], by trivial⟩, by simp [intOf]; omega⟩
                | exact ⟨⟨i + 1, by omega, congrArg (Value.int .i64) (by omega), by rw [HF.out]⟩, by simp [intOf]; omega⟩
        · have hF : fnd (m + 1) cv i = match decS (m + 1) cv with | some s => (s : Int) | none => -1 := by
            by_cases h5 : 5 ≤ m + 1
            · obtain rfl : i = 257 := by omega
              exact fnd_all hm30
            · unfold fnd
              rw [fnd_few (by omega)]
          rw [hF]
          have hex : ¬ (i < 257) ∨ (i < 257 ∧ m + 1 < 5) := by omega
          clear hF hgo
          rcases hd : decS (m + 1) cv with _ | s
          · have HDN := hid hd
            rcases hex with hex | ⟨hex, hex2⟩
            · go_wp2_with fail
              exact ⟨⟨k + 1, A2, c2, cv, m + 1, o, by omega, by go_num, congrArg (Value.int .i64) (by omega), rfl, rfl, by have := inv_step (b := x.testBit p) HI.out (by rw [HCV.out]; exact HDN.out); rwa [HCV.out] at this, by omega, HO.out, by rw [HDE.out, HDR.out, dec_first _ _ _ _ _ _ (by rw [HCV.out]; exact HDN.out), HCV.out], HB.out⟩, by simp [intOf]; omega⟩
            · go_wp2_with fail
              exact ⟨⟨k + 1, A2, c2, cv, m + 1, o, by omega, by go_num, congrArg (Value.int .i64) (by omega), rfl, rfl, by have := inv_step (b := x.testBit p) HI.out (by rw [HCV.out]; exact HDN.out); rwa [HCV.out] at this, by omega, HO.out, by rw [HDE.out, HDR.out, dec_first _ _ _ _ _ _ (by rw [HCV.out]; exact HDN.out), HCV.out], HB.out⟩, by simp [intOf]; omega⟩
          · have HDN := hid hd
            obtain ⟨hs7, hsl, _⟩ := dec_sign_of hm30 hd
            have hs5 := (hl_le s).1
            have hex3 : i = 257 := by omega
            clear hex hsl hd
            subst hex3
            have HDV : Hid (R = if s = 256 then ([], 2) else if most ≤ (o.length : Int) then ([], 3) else dec most ((bitsB l).drop (k + 1)) 0 0 (o ++ [UInt8.ofNat s])) := hid (by rw [HDE.out, HDR.out, dec_some _ _ _ _ _ s _ (by rw [HCV.out]; exact HDN.out)])
            by_cases hs6 : s = 256
            · subst hs6
              go_wp2_with fail
              have hR : R = ([], 2) := by rw [HDV.out]; simp
              subst hR
              refine bodyPost_ret (v := .tuple #[.slice none 0 0, .int .i64 2]) (by simp [results, Try.results14, go_sem]) rfl ?_
              first | exact ⟨none, 0, rfl, Bs.nil _ _, HB1.out.trans (HB.out.mono HB1.out.size)⟩ | exact ⟨none, ⟨0, rfl⟩, Bs.nil _ _, HB1.out.trans (HB.out.mono HB1.out.size)⟩
            · have hs6' : ¬ ((s : Int) = 256) := by omega
              by_cases hmo : most ≤ (o.length : Int)
              · go_wp2_with fail
                have hR : R = ([], 3) := by rw [HDV.out, if_neg hs6, if_pos hmo]
                subst hR
                refine bodyPost_ret (v := .tuple #[.slice none 0 0, .int .i64 3]) (by simp [results, Try.results14, go_sem]) rfl ?_
                first | exact ⟨none, 0, rfl, Bs.nil _ _, HB1.out.trans (HB.out.mono HB1.out.size)⟩ | exact ⟨none, ⟨0, rfl⟩, Bs.nil _ _, HB1.out.trans (HB.out.mono HB1.out.size)⟩
              · have hws : IntKind.u8.wrap (s : Int) = (s : Int) := by rw [u8_wrap, Nat.mod_eq_of_lt (by omega)]
                have hs8 : (s : Int) < 256 := by omega
                go_wp2_with (at_builtin; go_loud (refine wpList_app _ rfl _ _ _ rfl w1.heap.size 5 i0 _ 1 1 Try.underlying22 hi.out hz.out hsz.out hby.out rfl (by omega) _ o.length _ rfl (HO.out.alloc _) _ 1 1 _ rfl (rd_one rfl) (by simp [Value.oneCell']) (by omega) (by omega) (by simp; omega) ?_; intro A5 c5 w5 ho5 hg5 hc5; have HO5 := hid ho5; have HG5 := hid hg5; clear ho5 hg5 hc5))
                have hbv : Value.int .u8 (s : Int) = bv (UInt8.ofNat s) := by
                  unfold bv
                  rw [UInt8.toNat_ofNat', Nat.mod_eq_of_lt (by omega)]
                rw [hbv] at HO5
                have HD2 : Hid (R = dec most ((bitsB l).drop (k + 1)) 0 0 (o ++ [UInt8.ofNat s])) := hid (HDV.out.trans ((if_neg hs6).trans (if_neg (by omega))))
                have hbl : Below w1.heap.size w1 w5 := below_app (HB.out.alloc (by omega) _) (HO.out.alloc _) HG5.out (Nat.le_refl _) (by simp; omega)
                have hlo : (o ++ [UInt8.ofNat s]).length = o.length + 1 := by rw [List.length_append, List.length_singleton]
                refine ⟨⟨k + 1, A5, c5, 0, 0, o ++ [UInt8.ofNat s], by omega, by go_num, rfl, rfl, by rw [hlo], inv_zero, by omega, by rw [hlo, List.map_append]; exact HO5.out, HD2.out, hbl⟩, by simp [intOf]; omega⟩
    · obtain rfl : k = 8 * n := by omega
      have HE : Hid (R = if m ≤ 7 ∧ cd = 2 ^ m - 1 then (o, 0) else ([], 2)) := hid (by rw [HDE.out, List.drop_eq_nil_of_le (by rw [bitsB_len]; omega)]; rfl)
      by_cases hm7 : m ≤ 7
      · have hp0 : 0 < 2 ^ m := Nat.pow_pos (by omega)
        have hpl : 2 ^ m ≤ 2 ^ 7 := Nat.pow_le_pow_right (by omega) hm7
        have HPO : Hid (((2 : Int) ^ m - 1) % 4294967296 = ((2 ^ m - 1 : Nat) : Int)) := hid (by
          rw [show (2 : Int) ^ m = ((2 ^ m : Nat) : Int) by rw [Int.natCast_pow]; rfl]
          generalize 2 ^ m = y at hp0 hpl
          omega)
        clear hp0 hpl
        go_wp2_with fail
        · rename_i h1 h2
          rw [HPO.out] at h2
          have hR : R = ([], 2) := by
            rw [HE.out, if_neg (by rintro ⟨_, h4⟩; rcases h2 with h2 | h2; (· omega); rw [h4] at h2; simp at h2)]
          subst hR
          refine bodyPost_ret (v := .tuple #[.slice none 0 0, .int .i64 2]) (by simp [results, Try.results14, go_sem]) rfl ?_
          first | exact ⟨none, 0, rfl, Bs.nil _ _, HB1.out.trans (HB.out.mono HB1.out.size)⟩ | exact ⟨none, ⟨0, rfl⟩, Bs.nil _ _, HB1.out.trans (HB.out.mono HB1.out.size)⟩
        · rename_i h1 h2
          rw [HPO.out] at h2
          have hR : R = (o, 0) := by
            rw [HE.out, if_pos ⟨hm7, by have h4 := h2.2; simp at h4; omega⟩]
          subst hR
          refine bodyPost_ret (v := .tuple #[.slice A2 o.length c2, .int .i64 0]) (by simp [results, Try.results14, go_sem]) rfl ?_
          first | exact ⟨A2, c2, rfl, Bs.of_own HO.out, HB1.out.trans (HB.out.mono HB1.out.size)⟩ | exact ⟨A2, ⟨c2, rfl⟩, Bs.of_own HO.out, HB1.out.trans (HB.out.mono HB1.out.size)⟩
      · have hm8 : (7 : Int) < m := by omega
        have hR : R = ([], 2) := by rw [HE.out, if_neg (by omega)]
        subst hR
        go_wp2_with fail
        refine bodyPost_ret (v := .tuple #[.slice none 0 0, .int .i64 2]) (by simp [results, Try.results14, go_sem]) rfl ?_
        first | exact ⟨none, 0, rfl, Bs.nil _ _, HB1.out.trans (HB.out.mono HB1.out.size)⟩ | exact ⟨none, ⟨0, rfl⟩, Bs.nil _ _, HB1.out.trans (HB.out.mono HB1.out.size)⟩
end Go.Proofs.Ytimklfdofldhaaa
