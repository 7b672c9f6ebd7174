/- What the reference's Codes answers. No condition. -/
import Derived.Test.YtimklfdofldhaaaHuffLawP
namespace Go.Proofs.Ytimklfdofldhaaa
open Go.RowKit
attribute [local go_sem] kd kdS

def lenA : Array Value := #[.int .i64 13, .int .i64 23, .int .i64 28, .int .i64 28, .int .i64 28, .int .i64 28, .int .i64 28, .int .i64 28, .int .i64 28, .int .i64 24, .int .i64 30, .int .i64 28, .int .i64 28, .int .i64 30, .int .i64 28, .int .i64 28, .int .i64 28, .int .i64 28, .int .i64 28, .int .i64 28, .int .i64 28, .int .i64 28, .int .i64 30, .int .i64 28, .int .i64 28, .int .i64 28, .int .i64 28, .int .i64 28, .int .i64 28, .int .i64 28, .int .i64 28, .int .i64 28, .int .i64 6, .int .i64 10, .int .i64 10, .int .i64 12, .int .i64 13, .int .i64 6, .int .i64 8, .int .i64 11, .int .i64 10, .int .i64 10, .int .i64 8, .int .i64 11, .int .i64 8, .int .i64 6, .int .i64 6, .int .i64 6, .int .i64 5, .int .i64 5, .int .i64 5, .int .i64 6, .int .i64 6, .int .i64 6, .int .i64 6, .int .i64 6, .int .i64 6, .int .i64 6, .int .i64 7, .int .i64 8, .int .i64 15, .int .i64 6, .int .i64 12, .int .i64 10, .int .i64 13, .int .i64 6, .int .i64 7, .int .i64 7, .int .i64 7, .int .i64 7, .int .i64 7, .int .i64 7, .int .i64 7, .int .i64 7, .int .i64 7, .int .i64 7, .int .i64 7, .int .i64 7, .int .i64 7, .int .i64 7, .int .i64 7, .int .i64 7, .int .i64 7, .int .i64 7, .int .i64 7, .int .i64 7, .int .i64 7, .int .i64 7, .int .i64 8, .int .i64 7, .int .i64 8, .int .i64 13, .int .i64 19, .int .i64 13, .int .i64 14, .int .i64 6, .int .i64 15, .int .i64 5, .int .i64 6, .int .i64 5, .int .i64 6, .int .i64 5, .int .i64 6, .int .i64 6, .int .i64 6, .int .i64 5, .int .i64 7, .int .i64 7, .int .i64 6, .int .i64 6, .int .i64 6, .int .i64 5, .int .i64 6, .int .i64 7, .int .i64 6, .int .i64 5, .int .i64 5, .int .i64 6, .int .i64 7, .int .i64 7, .int .i64 7, .int .i64 7, .int .i64 7, .int .i64 15, .int .i64 11, .int .i64 14, .int .i64 13, .int .i64 28, .int .i64 20, .int .i64 22, .int .i64 20, .int .i64 20, .int .i64 22, .int .i64 22, .int .i64 22, .int .i64 23, .int .i64 22, .int .i64 23, .int .i64 23, .int .i64 23, .int .i64 23, .int .i64 23, .int .i64 24, .int .i64 23, .int .i64 24, .int .i64 24, .int .i64 22, .int .i64 23, .int .i64 24, .int .i64 23, .int .i64 23, .int .i64 23, .int .i64 23, .int .i64 21, .int .i64 22, .int .i64 23, .int .i64 22, .int .i64 23, .int .i64 23, .int .i64 24, .int .i64 22, .int .i64 21, .int .i64 20, .int .i64 22, .int .i64 22, .int .i64 23, .int .i64 23, .int .i64 21, .int .i64 23, .int .i64 22, .int .i64 22, .int .i64 24, .int .i64 21, .int .i64 22, .int .i64 23, .int .i64 23, .int .i64 21, .int .i64 21, .int .i64 22, .int .i64 21, .int .i64 23, .int .i64 22, .int .i64 23, .int .i64 23, .int .i64 20, .int .i64 22, .int .i64 22, .int .i64 22, .int .i64 23, .int .i64 22, .int .i64 22, .int .i64 23, .int .i64 26, .int .i64 26, .int .i64 20, .int .i64 19, .int .i64 22, .int .i64 23, .int .i64 22, .int .i64 25, .int .i64 26, .int .i64 26, .int .i64 26, .int .i64 27, .int .i64 27, .int .i64 26, .int .i64 24, .int .i64 25, .int .i64 19, .int .i64 21, .int .i64 26, .int .i64 27, .int .i64 27, .int .i64 26, .int .i64 27, .int .i64 24, .int .i64 21, .int .i64 21, .int .i64 26, .int .i64 26, .int .i64 28, .int .i64 27, .int .i64 27, .int .i64 27, .int .i64 20, .int .i64 24, .int .i64 20, .int .i64 21, .int .i64 22, .int .i64 21, .int .i64 21, .int .i64 23, .int .i64 22, .int .i64 22, .int .i64 25, .int .i64 25, .int .i64 24, .int .i64 24, .int .i64 26, .int .i64 23, .int .i64 26, .int .i64 27, .int .i64 26, .int .i64 26, .int .i64 27, .int .i64 27, .int .i64 27, .int .i64 27, .int .i64 27, .int .i64 28, .int .i64 27, .int .i64 27, .int .i64 27, .int .i64 27, .int .i64 27, .int .i64 26, .int .i64 30]
theorem lenA_at : ∀ s, s < 257 → lenA[s]? = some (.int .i64 (hl s)) := by
  have h : lenA = cellsF (fun s => (hl s : Int)) := by kernel_rfl
  intro s hs
  rw [h]
  exact cellsF_at hs
theorem lenA_size : lenA.size = 257 := by kernel_rfl

theorem wp_run {P : Program} {o : Oper} {a : Act} {w w1 : World} {K : Act → World → Prop} {Q : Exit → Act → World → Prop} {v : Value} (h : (execOp a.eval o).run P w = .ok (.value v) w1) (hk : K (a.put o.dst v) w1) : o.wp P a w K Q := by
  unfold Oper.wp
  rw [h]
  exact hk

set_option maxHeartbeats 1000000 in
set_option maxRecDepth 100000 in
theorem lengths_any (w : World) : Calls Try.prog 22 #[] w fun e w' => ∃ b, e = .returned (.slice (some ⟨b, 0, none⟩) 257 257) ∧ (∀ s, s < 257 → w'.cell? ⟨b, s, none⟩ = some (.int .i64 (hl s))) ∧ Below w.heap.size w w' := by
  have hb : Below w.heap.size w (w.alloc (.cells lenA 3)) := (Below.refl _ _).alloc (Nat.le_refl _) _
  have hk : Blk (w.alloc (.cells lenA 3)) w.heap.size 3 lenA := Blk.new w _ _
  have HB := hid hb
  have HK := hid hk
  clear hb hk
  go_enter Try.func22, Try.ntmps22
  go_upto_region 1 with fail
  refine wp_region_lit ?_
  refine wpList_plain rfl fun K hK => ?_
  refine wp_run (v := .slice (some ⟨w.heap.size, 0, none⟩) 257 257) (w1 := w.alloc (.cells lenA 3)) (by kernel_rfl) ?_
  refine hK _ _ ?_
  generalize w.alloc (.cells lenA 3) = w1 at HB HK
  go_wp2_with fail
  go_ret
  refine ⟨_, rfl, fun s hs => ?_, HB.out⟩
  rw [HK.out.cell s]
  exact lenA_at s hs

/-- The reference's codes while they are made: those of fewer than l bits, and of l bits those below i. -/
def gK (l i : Nat) : Nat → Int := fun s => if hl s < l ∨ (hl s = l ∧ s < i) then (codeN s : Int) else 0
def cellsU (f : Nat → Int) : Array Value := ((List.range 257).map fun s => Value.int .u32 (f s)).toArray
theorem cellsU_at {f : Nat → Int} {j : Nat} (h : j < 257) : (cellsU f)[j]? = some (.int .u32 (f j)) := by
  unfold cellsU
  simp [List.getElem?_map, List.getElem?_range h]
theorem cellsU_ext {f g : Nat → Int} (h : ∀ s, s < 257 → f s = g s) : cellsU f = cellsU g := by
  unfold cellsU
  congr 1
  apply List.map_congr_left
  intro s hs
  rw [h s (by simpa using hs)]
theorem cellsU_set {f : Nat → Int} {j : Nat} {x : Int} : (cellsU f).setIfInBounds j (.int .u32 x) = cellsU (upd f j x) := by
  unfold cellsU
  rw [List.setIfInBounds_toArray]
  congr 1
  apply List.ext_getElem?
  intro i
  rw [List.getElem?_set, List.getElem?_map, List.getElem?_map]
  by_cases hi : i < 257
  · rw [List.getElem?_range hi]
    by_cases hj : j = i
    · subst hj
      simp [upd, hi]
    · simp [upd, hj, Ne.symm hj]
  · rw [List.getElem?_eq_none (l := List.range 257) (by simpa using hi)]
    by_cases hj : j = i
    · subst hj
      simp [hi]
    · simp [hj]
theorem gK_set {l i : Nat} (h : hl i = l) : upd (gK l i) i (codeN i) = gK l (i + 1) := by
  funext s
  unfold upd gK
  by_cases hs : s = i
  · subst hs
    rw [if_pos rfl, if_pos (.inr ⟨h, by omega⟩)]
  · rw [if_neg hs]
    by_cases h1 : hl s < l ∨ (hl s = l ∧ s < i)
    · rw [if_pos h1, if_pos (by omega)]
    · rw [if_neg h1, if_neg (by omega)]
theorem gK_skip {l i : Nat} (h : hl i ≠ l) : gK l i = gK l (i + 1) := by
  funext s
  unfold gK
  by_cases hs : s = i
  · subst hs
    by_cases h1 : hl s < l
    · rw [if_pos (.inl h1), if_pos (.inl h1)]
    · rw [if_neg (by omega), if_neg (by omega)]
  · by_cases h1 : hl s < l ∨ (hl s = l ∧ s < i)
    · rw [if_pos h1, if_pos (by omega)]
    · rw [if_neg h1, if_neg (by omega)]
theorem gK_next (l : Nat) : cellsU (gK l 257) = cellsU (gK (l + 1) 0) := cellsU_ext fun s hs => by
  unfold gK
  by_cases h1 : hl s < l ∨ (hl s = l ∧ s < 257)
  · rw [if_pos h1, if_pos (by omega)]
  · rw [if_neg h1, if_neg (by omega)]
theorem gK_all : cellsU (gK 31 0) = cellsU (fun s => codeN s) := cellsU_ext fun s hs => by
  have := hl_top s hs
  unfold gK
  rw [if_pos (by omega)]
/-- How many signs below i have codes of l bits. -/
def rank (l i : Nat) : Nat := ((List.range i).filter fun s => hl s == l).length
theorem rank_succ (l i : Nat) : rank l (i + 1) = rank l i + (if hl i = l then 1 else 0) := by
  unfold rank
  rw [List.range_succ, List.filter_append, List.length_append]
  by_cases h : hl i = l <;> simp [h]
theorem rank_le (l i : Nat) : rank l i ≤ i := by
  unfold rank
  have := List.length_filter_le (fun s => hl s == l) (List.range i)
  simpa using this
theorem rank_all (l : Nat) : rank l 257 = many l := rfl
theorem code_rank : ∀ i, i < 257 → codeN i = first (hl i) + rank (hl i) i := by decide +kernel
/-- What the reference's code is ahead of the codes of l bits. -/
def cur (l : Nat) : Nat := if l ≤ 5 then 0 else first (l - 1) + many (l - 1)
def fst (l : Nat) : Nat := if l < 5 then 0 else first l
theorem cur_dbl {l : Nat} : 2 * cur l = fst l := by
  unfold cur fst
  by_cases h : l ≤ 5
  · rw [if_pos h]
    by_cases h' : l < 5
    · rw [if_pos h']
    · obtain rfl : l = 5 := by omega
      rfl
  · rw [if_neg h, if_neg (by omega)]
    have := first_succ (l - 1) (by omega)
    rw [show l - 1 + 1 = l by omega] at this
    omega
theorem few_none : ∀ l, l < 5 → rank l 257 = 0 := by decide +kernel
theorem cur_next {l : Nat} (h : l < 31) : fst l + rank l 257 = cur (l + 1) := by
  unfold cur fst
  by_cases h' : l < 5
  · rw [if_pos h', if_pos (by omega), few_none l h']
  · rw [if_neg h', if_neg (by omega), Nat.add_sub_cancel, rank_all]
theorem cur_le : ∀ l, l < 32 → cur l ≤ 1073741824 := by decide +kernel
theorem fst_le : ∀ l, l < 31 → fst l + 257 < 4294967296 := by decide +kernel
theorem outs_make : ∀ w, (Instr.makeSlice 33 (.int .i64 257) (.int .i64 257)).run Try.prog w = .ok (.slice (some ⟨w.heap.size, 0, none⟩) 257 257) (w.alloc (.cells (List.replicate 257 (Value.int .u32 0)).toArray 37)) := fun _ => by kernel_rfl
theorem gK_zero : cellsU (gK 1 0) = (List.replicate 257 (Value.int .u32 0)).toArray := by
  have h : cellsU (gK 1 0) = cellsU (fun _ => 0) := cellsU_ext fun s _ => by
    unfold gK
    have := (hl_le s).1
    rw [if_neg (by omega)]
  rw [h]
  unfold cellsU
  exact congrArg List.toArray (by rw [List.map_const', List.length_range])

set_option maxHeartbeats 1000000 in
set_option maxRecDepth 100000 in
theorem refCodes_any (w : World) : Calls Try.prog 15 #[] w fun e w' => ∃ b d, e = .returned (.tuple #[.slice (some ⟨b, 0, none⟩) 257 257, .slice (some ⟨d, 0, none⟩) 257 257]) ∧ (∀ s, s < 257 → w'.cell? ⟨b, s, none⟩ = some (.int .u32 (codeN s))) ∧ (∀ s, s < 257 → w'.cell? ⟨d, s, none⟩ = some (.int .i64 (hl s))) ∧ Below w.heap.size w w' := by
  have hmk := outs_make
  rw [← gK_zero] at hmk
  generalize hva : cellsU (gK 1 0) = va at hmk
  go_enter Try.func15, Try.ntmps15
  go_upto_region 3 with (go_at_call 22; go_must (refine (lengths_any _).mono ?_; rintro e w1 ⟨d, rfl, hd, hb1⟩; have HD := hid hd; have HB1 := hid hb1; clear hd hb1))
  subst hva
  have hblk : Blk (w1.alloc (.cells (cellsU (gK 1 0)) 37)) w1.heap.size 37 (cellsU (gK 1 0)) := Blk.new w1 _ _
  have hbw : Below w1.heap.size w1 (w1.alloc (.cells (cellsU (gK 1 0)) 37)) := (Below.refl _ _).alloc (Nat.le_refl _) _
  generalize w1.alloc (.cells (cellsU (gK 1 0)) 37) = W at hblk hbw ⊢
  have HBK := hid hblk
  have HBW := hid hbw
  clear hmk hblk hbw
  have HQW := hid (show w.heap.size ≤ w1.heap.size from HB1.out.size)
  generalize hq : w1.heap.size = q at HBK HBW HQW ⊢
  have HQ := hid hq
  clear hq
  go_wp2_with fail
  go_loopw [4, 5] (fun co lo wr => ∃ l : Nat, 1 ≤ l ∧ l ≤ 31 ∧ lo = .int .i64 (l : Int) ∧ co = .int .u32 (cur l : Nat) ∧ Blk wr q 37 (cellsU (gK l 0)) ∧ Below q w1 wr) (fun _ lo _ => 31 - (intOf lo).toNat)
  case atStart => exact ⟨1, by omega, by omega, rfl, rfl, HBK.out, HBW.out⟩
  case round =>
    obtain ⟨l, hl1, hl31, rfl, rfl, hbk, hb⟩ := hrel
    have HK := hid hbk
    have HB := hid hb
    clear hbk hb HBK HBW
    by_cases hl30 : l ≤ 30
    · have hcl := cur_le l (by omega)
      have HDB := hid (cur_dbl (l := l))
      have hfl := fst_le l (by omega)
      have HNX := hid (cur_next (l := l) (by omega))
      have hw : IntKind.u32.wrap ((cur l : Nat) * 2 : Int) = (fst l : Nat) := by
        rw [← HDB.out]
        unfold IntKind.wrap
        simp [IntKind.bits, IntKind.signed]
        omega
      generalize cur l = c0 at HDB hcl hw
      generalize hfe : fst l = f0 at HDB hfl HNX hw
      have HFE := hid hfe
      clear hfe
      go_wp2_with fail
      go_loopw [4, 6] (fun co io wv => ∃ i : Nat, i ≤ 257 ∧ io = .int .i64 (i : Int) ∧ co = .int .u32 ((f0 + rank l i : Nat) : Int) ∧ Blk wv q 37 (cellsU (gK l i)) ∧ Below q w1 wv) (fun _ io _ => 257 - (intOf io).toNat)
      case atStart => exact ⟨0, by omega, rfl, rfl, HK.out, HB.out⟩
      case round =>
        obtain ⟨i, hi, rfl, rfl, hbk, hb⟩ := hrel
        have HK2 := hid hbk
        have HB2 := hid hb
        clear hbk hb HK HB
        by_cases hi7 : i < 257
        · have hdc : w1.cell? ⟨d, i, none⟩ = some (.int .i64 (hl i)) := HD.out i hi7
          have hdc1 : wr.cell? ⟨d, i, none⟩ = some (.int .i64 (hl i)) := below_keep (by rw [HQ.out]; exact HB2.out) _ _ hdc
          have hrk := rank_le l i
          have HRK := hid (rank_succ l i)
          have HCR := hid (code_rank i hi7)
          by_cases hil : hl i = l
          · have HGS := hid (gK_set hil)
            rw [hil] at hdc1 HCR
            rw [if_pos hil] at HRK
            have hfst : fst l = first l := by
              unfold fst
              rw [if_neg (by have := (hl_le i).1; omega)]
            have hcn : codeN i = f0 + rank l i := by
              rw [HCR.out, ← hfst, HFE.out]
            have cq := HK2.out.cell i
            rw [cellsU_at hi7] at cq
            have fq := HK2.out.frozen i
            rw [hcn] at HGS
            clear hil hdc hfst hcn HCR
            generalize rank l i = rk at HRK HGS hrk
            have hw2 : IntKind.u32.wrap (((f0 + rk : Nat) : Int) + 1) = ((f0 + rk + 1 : Nat) : Int) := by
              unfold IntKind.wrap
              simp [IntKind.bits, IntKind.signed]
              omega
            generalize hfr : f0 + rk = fr at HGS hw2
            have HFR := hid hfr
            clear hfr
            go_wp2_with fail
            have hset := HK2.out.set_ i (.int .u32 ((fr : Nat) : Int))
            rw [cellsU_set, HGS.out] at hset
            have hbl : Below q w1 (wr.setCell ⟨q, i, none⟩ (.int .u32 ((fr : Nat) : Int))) := HB2.out.setCell (p := ⟨q, i, none⟩) (Nat.le_refl _) _
            refine ⟨⟨i + 1, by omega, by go_num, ?_, hset, hbl⟩, by simp [intOf]; omega⟩
            have h1 := HRK.out
            have h2 := HFR.out
            rw [h1, show f0 + (rk + 1) = fr + 1 by omega]
            exact congrArg (Value.int .u32) (by omega)
          · have HGS := hid (gK_skip hil)
            rw [if_neg hil, Nat.add_zero] at HRK
            have hil2 : ¬ ((hl i : Int) = (l : Int)) := by omega
            generalize hl i = h9 at hdc1 hil2
            go_wp2_with fail
            exact ⟨⟨i + 1, by omega, by go_num, by rw [HRK.out, Nat.add_zero], by rw [← HGS.out]; exact HK2.out, HB2.out⟩, by simp [intOf]; omega⟩
        · obtain rfl : i = 257 := by omega
          go_wp2_with fail
          exact ⟨⟨l + 1, by omega, by omega, by go_num, by rw [HNX.out], by rw [← gK_next]; exact HK2.out, HB2.out⟩, by simp [intOf]; omega⟩
    · obtain rfl : l = 31 := by omega
      have hk31 := HK.out
      rw [gK_all] at hk31
      have HK3 := hid hk31
      clear hk31 HK
      go_wp2_with fail
      refine bodyPost_ret (v := .tuple #[.slice (some ⟨q, 0, none⟩) 257 257, .slice (some ⟨d, 0, none⟩) 257 257]) (by simp [results, Try.results15, go_sem]) rfl ?_
      refine ⟨q, d, rfl, fun s hs => ?_, fun s hs => ?_, ?_⟩
      · rw [HK3.out.cell s]
        exact cellsU_at hs
      · exact below_keep (by rw [HQ.out]; exact HB.out) _ _ (HD.out s hs)
      · exact HB1.out.trans ((show Below w1.heap.size w1 wr by rw [HQ.out]; exact HB.out).mono HB1.out.size)
end Go.Proofs.Ytimklfdofldhaaa
