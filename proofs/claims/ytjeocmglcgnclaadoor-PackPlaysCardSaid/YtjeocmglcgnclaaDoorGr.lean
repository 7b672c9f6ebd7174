/- Joined texts: HuffRef HuffRef2 StatKn StatRefF StatFindQ DynRef DynRefAdd. Each names its own conditions. -/
import Derived.Test.YtjeocmglcgnclaaDoorGh
import Derived.Test.YtjeocmglcgnclaaDoorGs
import Derived.Test.YtjeocmglcgnclaaDoorGd
import Derived.Deep.RegionLaw

/- What the reference's Codes answers. No condition. -/
namespace Go.Proofs.YtjeocmglcgnclaaDoor
open Go.RowKit
attribute [local go_sem] kd kdS

def lenA : Array Value := #[.int .i64 13, .int .i64 23, .int .i64 28, .int .i64 28, .int .i64 28, .int .i64 28, .int .i64 28, .int .i64 28, .int .i64 28, .int .i64 24, .int .i64 30, .int .i64 28, .int .i64 28, .int .i64 30, .int .i64 28, .int .i64 28, .int .i64 28, .int .i64 28, .int .i64 28, .int .i64 28, .int .i64 28, .int .i64 28, .int .i64 30, .int .i64 28, .int .i64 28, .int .i64 28, .int .i64 28, .int .i64 28, .int .i64 28, .int .i64 28, .int .i64 28, .int .i64 28, .int .i64 6, .int .i64 10, .int .i64 10, .int .i64 12, .int .i64 13, .int .i64 6, .int .i64 8, .int .i64 11, .int .i64 10, .int .i64 10, .int .i64 8, .int .i64 11, .int .i64 8, .int .i64 6, .int .i64 6, .int .i64 6, .int .i64 5, .int .i64 5, .int .i64 5, .int .i64 6, .int .i64 6, .int .i64 6, .int .i64 6, .int .i64 6, .int .i64 6, .int .i64 6, .int .i64 7, .int .i64 8, .int .i64 15, .int .i64 6, .int .i64 12, .int .i64 10, .int .i64 13, .int .i64 6, .int .i64 7, .int .i64 7, .int .i64 7, .int .i64 7, .int .i64 7, .int .i64 7, .int .i64 7, .int .i64 7, .int .i64 7, .int .i64 7, .int .i64 7, .int .i64 7, .int .i64 7, .int .i64 7, .int .i64 7, .int .i64 7, .int .i64 7, .int .i64 7, .int .i64 7, .int .i64 7, .int .i64 7, .int .i64 7, .int .i64 8, .int .i64 7, .int .i64 8, .int .i64 13, .int .i64 19, .int .i64 13, .int .i64 14, .int .i64 6, .int .i64 15, .int .i64 5, .int .i64 6, .int .i64 5, .int .i64 6, .int .i64 5, .int .i64 6, .int .i64 6, .int .i64 6, .int .i64 5, .int .i64 7, .int .i64 7, .int .i64 6, .int .i64 6, .int .i64 6, .int .i64 5, .int .i64 6, .int .i64 7, .int .i64 6, .int .i64 5, .int .i64 5, .int .i64 6, .int .i64 7, .int .i64 7, .int .i64 7, .int .i64 7, .int .i64 7, .int .i64 15, .int .i64 11, .int .i64 14, .int .i64 13, .int .i64 28, .int .i64 20, .int .i64 22, .int .i64 20, .int .i64 20, .int .i64 22, .int .i64 22, .int .i64 22, .int .i64 23, .int .i64 22, .int .i64 23, .int .i64 23, .int .i64 23, .int .i64 23, .int .i64 23, .int .i64 24, .int .i64 23, .int .i64 24, .int .i64 24, .int .i64 22, .int .i64 23, .int .i64 24, .int .i64 23, .int .i64 23, .int .i64 23, .int .i64 23, .int .i64 21, .int .i64 22, .int .i64 23, .int .i64 22, .int .i64 23, .int .i64 23, .int .i64 24, .int .i64 22, .int .i64 21, .int .i64 20, .int .i64 22, .int .i64 22, .int .i64 23, .int .i64 23, .int .i64 21, .int .i64 23, .int .i64 22, .int .i64 22, .int .i64 24, .int .i64 21, .int .i64 22, .int .i64 23, .int .i64 23, .int .i64 21, .int .i64 21, .int .i64 22, .int .i64 21, .int .i64 23, .int .i64 22, .int .i64 23, .int .i64 23, .int .i64 20, .int .i64 22, .int .i64 22, .int .i64 22, .int .i64 23, .int .i64 22, .int .i64 22, .int .i64 23, .int .i64 26, .int .i64 26, .int .i64 20, .int .i64 19, .int .i64 22, .int .i64 23, .int .i64 22, .int .i64 25, .int .i64 26, .int .i64 26, .int .i64 26, .int .i64 27, .int .i64 27, .int .i64 26, .int .i64 24, .int .i64 25, .int .i64 19, .int .i64 21, .int .i64 26, .int .i64 27, .int .i64 27, .int .i64 26, .int .i64 27, .int .i64 24, .int .i64 21, .int .i64 21, .int .i64 26, .int .i64 26, .int .i64 28, .int .i64 27, .int .i64 27, .int .i64 27, .int .i64 20, .int .i64 24, .int .i64 20, .int .i64 21, .int .i64 22, .int .i64 21, .int .i64 21, .int .i64 23, .int .i64 22, .int .i64 22, .int .i64 25, .int .i64 25, .int .i64 24, .int .i64 24, .int .i64 26, .int .i64 23, .int .i64 26, .int .i64 27, .int .i64 26, .int .i64 26, .int .i64 27, .int .i64 27, .int .i64 27, .int .i64 27, .int .i64 27, .int .i64 28, .int .i64 27, .int .i64 27, .int .i64 27, .int .i64 27, .int .i64 27, .int .i64 26, .int .i64 30]
theorem lenA_at : ∀ s, s < 257 → lenA[s]? = some (.int .i64 (hl s)) := by
  have h : lenA = cellsF (fun s => (hl s : Int)) := by kernel_rfl
  intro s hs
  rw [h]
  exact cellsF_at hs
theorem lenA_size : lenA.size = 257 := by kernel_rfl

theorem wp_run {P : Program} {o : Oper} {a : Act} {w w1 : World} {K : Act → World → Prop} {Q : Exit → Act → World → Prop} {v : Value} (h : (execOp a.eval o).run P w = .ok (.value v) w1) (hk : K (a.put o.dst v) w1) : o.wp P a w K Q := by
  unfold Oper.wp
  rw [h]
  exact hk

set_option maxHeartbeats 1000000 in
set_option maxRecDepth 100000 in
theorem lengths_any (w : World) : Calls Tryd.prog 84 #[] w fun e w' => ∃ b, e = .returned (.slice (some ⟨b, 0, none⟩) 257 257) ∧ (∀ s, s < 257 → w'.cell? ⟨b, s, none⟩ = some (.int .i64 (hl s))) ∧ Below w.heap.size w w' := by
  have hb : Below w.heap.size w (w.alloc (.cells lenA 3)) := (Below.refl _ _).alloc (Nat.le_refl _) _
  have hk : Blk (w.alloc (.cells lenA 3)) w.heap.size 3 lenA := Blk.new w _ _
  have HB := hid hb
  have HK := hid hk
  clear hb hk
  go_enter Tryd.func84, Tryd.ntmps84
  go_upto_region 1 with fail
  refine wp_region_lit ?_
  refine wpList_plain rfl fun K hK => ?_
  refine wp_run (v := .slice (some ⟨w.heap.size, 0, none⟩) 257 257) (w1 := w.alloc (.cells lenA 3)) (by kernel_rfl) ?_
  refine hK _ _ ?_
  generalize w.alloc (.cells lenA 3) = w1 at HB HK
  go_wp2_with fail
  go_ret
  refine ⟨_, rfl, fun s hs => ?_, HB.out⟩
  rw [HK.out.cell s]
  exact lenA_at s hs

/-- The reference's codes while they are made: those of fewer than l bits, and of l bits those below i. -/
def gK (l i : Nat) : Nat → Int := fun s => if hl s < l ∨ (hl s = l ∧ s < i) then (codeN s : Int) else 0
def cellsU (f : Nat → Int) : Array Value := ((List.range 257).map fun s => Value.int .u32 (f s)).toArray
theorem cellsU_at {f : Nat → Int} {j : Nat} (h : j < 257) : (cellsU f)[j]? = some (.int .u32 (f j)) := by
  unfold cellsU
  simp [List.getElem?_map, List.getElem?_range h]
theorem cellsU_ext {f g : Nat → Int} (h : ∀ s, s < 257 → f s = g s) : cellsU f = cellsU g := by
  unfold cellsU
  congr 1
  apply List.map_congr_left
  intro s hs
  rw [h s (by simpa using hs)]
theorem cellsU_set {f : Nat → Int} {j : Nat} {x : Int} : (cellsU f).setIfInBounds j (.int .u32 x) = cellsU (upd f j x) := by
  unfold cellsU
  rw [List.setIfInBounds_toArray]
  congr 1
  apply List.ext_getElem?
  intro i
  rw [List.getElem?_set, List.getElem?_map, List.getElem?_map]
  by_cases hi : i < 257
  · rw [List.getElem?_range hi]
    by_cases hj : j = i
    · subst hj
      simp [upd, hi]
    · simp [upd, hj, Ne.symm hj]
  · rw [List.getElem?_eq_none (l := List.range 257) (by simpa using hi)]
    by_cases hj : j = i
    · subst hj
      simp [hi]
    · simp [hj]
theorem gK_set {l i : Nat} (h : hl i = l) : upd (gK l i) i (codeN i) = gK l (i + 1) := by
  funext s
  unfold upd gK
  by_cases hs : s = i
  · subst hs
    rw [if_pos rfl, if_pos (.inr ⟨h, by omega⟩)]
  · rw [if_neg hs]
    by_cases h1 : hl s < l ∨ (hl s = l ∧ s < i)
    · rw [if_pos h1, if_pos (by omega)]
    · rw [if_neg h1, if_neg (by omega)]
theorem gK_skip {l i : Nat} (h : hl i ≠ l) : gK l i = gK l (i + 1) := by
  funext s
  unfold gK
  by_cases hs : s = i
  · subst hs
    by_cases h1 : hl s < l
    · rw [if_pos (.inl h1), if_pos (.inl h1)]
    · rw [if_neg (by omega), if_neg (by omega)]
  · by_cases h1 : hl s < l ∨ (hl s = l ∧ s < i)
    · rw [if_pos h1, if_pos (by omega)]
    · rw [if_neg h1, if_neg (by omega)]
theorem gK_next (l : Nat) : cellsU (gK l 257) = cellsU (gK (l + 1) 0) := cellsU_ext fun s hs => by
  unfold gK
  by_cases h1 : hl s < l ∨ (hl s = l ∧ s < 257)
  · rw [if_pos h1, if_pos (by omega)]
  · rw [if_neg h1, if_neg (by omega)]
theorem gK_all : cellsU (gK 31 0) = cellsU (fun s => codeN s) := cellsU_ext fun s hs => by
  have := hl_top s hs
  unfold gK
  rw [if_pos (by omega)]
/-- How many signs below i have codes of l bits. -/
def rank (l i : Nat) : Nat := ((List.range i).filter fun s => hl s == l).length
theorem rank_succ (l i : Nat) : rank l (i + 1) = rank l i + (if hl i = l then 1 else 0) := by
  unfold rank
  rw [List.range_succ, List.filter_append, List.length_append]
  by_cases h : hl i = l <;> simp [h]
theorem rank_le (l i : Nat) : rank l i ≤ i := by
  unfold rank
  have := List.length_filter_le (fun s => hl s == l) (List.range i)
  simpa using this
theorem rank_all (l : Nat) : rank l 257 = many l := rfl
theorem code_rank : ∀ i, i < 257 → codeN i = first (hl i) + rank (hl i) i := by decide +kernel
/-- What the reference's code is ahead of the codes of l bits. -/
def cur (l : Nat) : Nat := if l ≤ 5 then 0 else first (l - 1) + many (l - 1)
def fst (l : Nat) : Nat := if l < 5 then 0 else first l
theorem cur_dbl {l : Nat} : 2 * cur l = fst l := by
  unfold cur fst
  by_cases h : l ≤ 5
  · rw [if_pos h]
    by_cases h' : l < 5
    · rw [if_pos h']
    · obtain rfl : l = 5 := by omega
      rfl
  · rw [if_neg h, if_neg (by omega)]
    have := first_succ (l - 1) (by omega)
    rw [show l - 1 + 1 = l by omega] at this
    omega
theorem few_none : ∀ l, l < 5 → rank l 257 = 0 := by decide +kernel
theorem cur_next {l : Nat} (h : l < 31) : fst l + rank l 257 = cur (l + 1) := by
  unfold cur fst
  by_cases h' : l < 5
  · rw [if_pos h', if_pos (by omega), few_none l h']
  · rw [if_neg h', if_neg (by omega), Nat.add_sub_cancel, rank_all]
theorem cur_le : ∀ l, l < 32 → cur l ≤ 1073741824 := by decide +kernel
theorem fst_le : ∀ l, l < 31 → fst l + 257 < 4294967296 := by decide +kernel
theorem outs_make : ∀ w, (Instr.makeSlice 109 (.int .i64 257) (.int .i64 257)).run Tryd.prog w = .ok (.slice (some ⟨w.heap.size, 0, none⟩) 257 257) (w.alloc (.cells (List.replicate 257 (Value.int .u32 0)).toArray 112)) := fun _ => by kernel_rfl
theorem gK_zero : cellsU (gK 1 0) = (List.replicate 257 (Value.int .u32 0)).toArray := by
  have h : cellsU (gK 1 0) = cellsU (fun _ => 0) := cellsU_ext fun s _ => by
    unfold gK
    have := (hl_le s).1
    rw [if_neg (by omega)]
  rw [h]
  unfold cellsU
  exact congrArg List.toArray (by rw [List.map_const', List.length_range])

set_option maxHeartbeats 1000000 in
set_option maxRecDepth 100000 in
theorem refCodes_any (w : World) : Calls Tryd.prog 78 #[] w fun e w' => ∃ b d, e = .returned (.tuple #[.slice (some ⟨b, 0, none⟩) 257 257, .slice (some ⟨d, 0, none⟩) 257 257]) ∧ (∀ s, s < 257 → w'.cell? ⟨b, s, none⟩ = some (.int .u32 (codeN s))) ∧ (∀ s, s < 257 → w'.cell? ⟨d, s, none⟩ = some (.int .i64 (hl s))) ∧ Below w.heap.size w w' := by
  have hmk := outs_make
  rw [← gK_zero] at hmk
  generalize hva : cellsU (gK 1 0) = va at hmk
  go_enter Tryd.func78, Tryd.ntmps78
  go_upto_region 3 with (go_at_call 84; go_must (refine (lengths_any _).mono ?_; rintro e w1 ⟨d, rfl, hd, hb1⟩; have HD := hid hd; have HB1 := hid hb1; clear hd hb1))
  subst hva
  have hblk : Blk (w1.alloc (.cells (cellsU (gK 1 0)) 112)) w1.heap.size 112 (cellsU (gK 1 0)) := Blk.new w1 _ _
  have hbw : Below w1.heap.size w1 (w1.alloc (.cells (cellsU (gK 1 0)) 112)) := (Below.refl _ _).alloc (Nat.le_refl _) _
  generalize w1.alloc (.cells (cellsU (gK 1 0)) 112) = W at hblk hbw ⊢
  have HBK := hid hblk
  have HBW := hid hbw
  clear hmk hblk hbw
  have HQW := hid (show w.heap.size ≤ w1.heap.size from HB1.out.size)
  generalize hq : w1.heap.size = q at HBK HBW HQW ⊢
  have HQ := hid hq
  clear hq
  go_wp2_with fail
  go_loopw [4, 5] (fun co lo wr => ∃ l : Nat, 1 ≤ l ∧ l ≤ 31 ∧ lo = .int .i64 (l : Int) ∧ co = .int .u32 (cur l : Nat) ∧ Blk wr q 112 (cellsU (gK l 0)) ∧ Below q w1 wr) (fun _ lo _ => 31 - (intOf lo).toNat)
  case atStart => exact ⟨1, by omega, by omega, rfl, rfl, HBK.out, HBW.out⟩
  case round =>
    obtain ⟨l, hl1, hl31, rfl, rfl, hbk, hb⟩ := hrel
    have HK := hid hbk
    have HB := hid hb
    clear hbk hb HBK HBW
    by_cases hl30 : l ≤ 30
    · have hcl := cur_le l (by omega)
      have HDB := hid (cur_dbl (l := l))
      have hfl := fst_le l (by omega)
      have HNX := hid (cur_next (l := l) (by omega))
      have hw : IntKind.u32.wrap ((cur l : Nat) * 2 : Int) = (fst l : Nat) := by
        rw [← HDB.out]
        unfold IntKind.wrap
        simp [IntKind.bits, IntKind.signed]
        omega
      generalize cur l = c0 at HDB hcl hw
      generalize hfe : fst l = f0 at HDB hfl HNX hw
      have HFE := hid hfe
      clear hfe
      go_wp2_with fail
      go_loopw [4, 6] (fun co io wv => ∃ i : Nat, i ≤ 257 ∧ io = .int .i64 (i : Int) ∧ co = .int .u32 ((f0 + rank l i : Nat) : Int) ∧ Blk wv q 112 (cellsU (gK l i)) ∧ Below q w1 wv) (fun _ io _ => 257 - (intOf io).toNat)
      case atStart => exact ⟨0, by omega, rfl, rfl, HK.out, HB.out⟩
      case round =>
        obtain ⟨i, hi, rfl, rfl, hbk, hb⟩ := hrel
        have HK2 := hid hbk
        have HB2 := hid hb
        clear hbk hb HK HB
        by_cases hi7 : i < 257
        · have hdc : w1.cell? ⟨d, i, none⟩ = some (.int .i64 (hl i)) := HD.out i hi7
          have hdc1 : wr.cell? ⟨d, i, none⟩ = some (.int .i64 (hl i)) := below_keep (by rw [HQ.out]; exact HB2.out) _ _ hdc
          have hrk := rank_le l i
          have HRK := hid (rank_succ l i)
          have HCR := hid (code_rank i hi7)
          by_cases hil : hl i = l
          · have HGS := hid (gK_set hil)
            rw [hil] at hdc1 HCR
            rw [if_pos hil] at HRK
            have hfst : fst l = first l := by
              unfold fst
              rw [if_neg (by have := (hl_le i).1; omega)]
            have hcn : codeN i = f0 + rank l i := by
              rw [HCR.out, ← hfst, HFE.out]
            have cq := HK2.out.cell i
            rw [cellsU_at hi7] at cq
            have fq := HK2.out.frozen i
            rw [hcn] at HGS
            clear hil hdc hfst hcn HCR
            generalize rank l i = rk at HRK HGS hrk
            have hw2 : IntKind.u32.wrap (((f0 + rk : Nat) : Int) + 1) = ((f0 + rk + 1 : Nat) : Int) := by
              unfold IntKind.wrap
              simp [IntKind.bits, IntKind.signed]
              omega
            generalize hfr : f0 + rk = fr at HGS hw2
            have HFR := hid hfr
            clear hfr
            go_wp2_with fail
            have hset := HK2.out.set_ i (.int .u32 ((fr : Nat) : Int))
            rw [cellsU_set, HGS.out] at hset
            have hbl : Below q w1 (wr.setCell ⟨q, i, none⟩ (.int .u32 ((fr : Nat) : Int))) := HB2.out.setCell (p := ⟨q, i, none⟩) (Nat.le_refl _) _
            refine ⟨⟨i + 1, by omega, by go_num, ?_, hset, hbl⟩, by simp [intOf]; omega⟩
            have h1 := HRK.out
            have h2 := HFR.out
            rw [h1, show f0 + (rk + 1) = fr + 1 by omega]
            exact congrArg (Value.int .u32) (by omega)
          · have HGS := hid (gK_skip hil)
            rw [if_neg hil, Nat.add_zero] at HRK
            have hil2 : ¬ ((hl i : Int) = (l : Int)) := by omega
            generalize hl i = h9 at hdc1 hil2
            go_wp2_with fail
            exact ⟨⟨i + 1, by omega, by go_num, by rw [HRK.out, Nat.add_zero], by rw [← HGS.out]; exact HK2.out, HB2.out⟩, by simp [intOf]; omega⟩
        · obtain rfl : i = 257 := by omega
          go_wp2_with fail
          exact ⟨⟨l + 1, by omega, by omega, by go_num, by rw [HNX.out], by rw [← gK_next]; exact HK2.out, HB2.out⟩, by simp [intOf]; omega⟩
    · obtain rfl : l = 31 := by omega
      have hk31 := HK.out
      rw [gK_all] at hk31
      have HK3 := hid hk31
      clear hk31 HK
      go_wp2_with fail
      refine bodyPost_ret (v := .tuple #[.slice (some ⟨q, 0, none⟩) 257 257, .slice (some ⟨d, 0, none⟩) 257 257]) (by simp [results, Tryd.results78, go_sem]) rfl ?_
      refine ⟨q, d, rfl, fun s hs => ?_, fun s hs => ?_, ?_⟩
      · rw [HK3.out.cell s]
        exact cellsU_at hs
      · exact below_keep (by rw [HQ.out]; exact HB.out) _ _ (HD.out s hs)
      · exact HB1.out.trans ((show Below w1.heap.size w1 wr by rw [HQ.out]; exact HB.out).mono HB1.out.size)
end Go.Proofs.YtjeocmglcgnclaaDoor

/- What the reference's Bits, Encode and Decode answer. Conditions: the row is no longer than 2^30 (Bits: 2^40). -/
namespace Go.Proofs.YtjeocmglcgnclaaDoor
open Go.RowKit
attribute [local go_sem] kd kdS

set_option maxHeartbeats 1000000 in
set_option maxRecDepth 100000 in
theorem refBits_any (A : Option Addr) (n c : Nat) (l : List UInt8) (w : World) (h : Bs w A n l) (hn : n ≤ 1099511627776) :
    Calls Tryd.prog 66 #[.slice A n c] w fun e w' => e = .returned (.int .i64 (hbits l)) ∧ Below w.heap.size w w' := by
  have hlen := h.len
  have H := hid h
  clear h
  go_enter Tryd.func66, Tryd.ntmps66
  go_wp2_with (go_at_call 78; go_must (refine (refCodes_any _).mono ?_; rintro e w1 ⟨b, d, rfl, hb, hd, hb1⟩; have HD := hid hd; have HB1 := hid hb1; clear hb hd hb1))
  have hw := hid (rfl : w1 = w1)
  have H1 := hid (H.out.below HB1.out)
  go_loopw [5, 6] (fun nn co wr => ∃ k : Nat, k ≤ n ∧ co = .int .i64 (k : Int) ∧ nn = .int .i64 (hbits (l.take k) : Nat) ∧ w1 = wr) (fun _ co _ => n - (intOf co).toNat)
  case atStart => exact ⟨0, by omega, rfl, rfl, rfl⟩
  case round =>
    obtain ⟨k, hk, rfl, rfl, rfl⟩ := hrel
    have hle := hbits_le (l.take k)
    have hlt : (l.take k).length ≤ k := by rw [List.length_take]; exact Nat.min_le_left _ _
    by_cases hkn : k < n
    · obtain ⟨b0, o, rfl, hc⟩ := H1.out.2 (by omega)
      have hc1 : w1.cell? ⟨b0, o + k, none⟩ = some (.int .u8 ((l[k]'(by omega)).toNat : Int)) := hc k _ (by rw [List.getElem?_map, List.getElem?_eq_getElem (by omega)]; rfl)
      have HT := hid (hbits_take l k (by omega))
      have hx := (l[k]'(by omega)).toNat_lt
      generalize (l[k]'(by omega)).toNat = x at hc1 HT hx
      have hx2 : x < 256 := hx
      have hd1 := HD.out x (by omega)
      have hln := hl_le x
      generalize hne : hl x = m at HT hln hd1
      generalize hqe : hbits (l.take k) = q at HT hle
      clear hne hqe hx hc
      go_wp2_with fail
      exact ⟨⟨k + 1, by omega, by go_num, by rw [HT.out]; go_num, by trivial⟩, by simp [intOf]; omega⟩
    · obtain rfl : k = n := by omega
      go_wp2_with fail
      go_ret
      exact ⟨by rw [List.take_of_length_le (by omega)]; rfl, HB1.out⟩

/-! One bit more behind what is written: the row's bits are those so far and ones behind. -/
theorem flip_bit : ∀ p, p < 8 → ∀ x, x < 256 → x.testBit p = true → ∀ i, i < 8 → (x ^^^ 2 ^ p).testBit i = (if i = p then false else x.testBit i) := by
  intro p _ x _ h i _
  rw [Nat.testBit_xor, Nat.testBit_two_pow]
  by_cases hi : i = p
  · subst hi
    simp [h]
  · simp [hi, Ne.symm hi]
theorem xor_lt {x p : Nat} (hx : x < 256) (hp : p < 8) : x ^^^ 2 ^ p < 256 := Nat.xor_lt_two_pow (n := 8) hx (Nat.lt_of_lt_of_le (Nat.pow_lt_pow_right (by omega) hp) (Nat.le_refl _))
/-- The last byte: q bits and p ones behind. -/
theorem last_flip {o : List UInt8} {x : UInt8} {B : List Bool} {p : Nat} (hp : p < 8) (h : bitsB (o ++ [x]) = B ++ List.replicate (p + 1) true) :
    bitsB (o ++ [UInt8.ofNat (x.toNat ^^^ 2 ^ p)]) = (B ++ [false]) ++ List.replicate p true := by
  have hx := x.toNat_lt
  have hxl := xor_lt (x := x.toNat) (p := p) hx hp
  rw [bitsB_append, bitsB_one] at h ⊢
  rw [UInt8.toNat_ofNat', Nat.mod_eq_of_lt hxl]
  have hl := congrArg List.length h
  rw [List.length_append, List.length_append, lowb_len, List.length_replicate, bitsB_len] at hl
  have get : ∀ i : Nat, (bitsB o ++ lowb 8 x.toNat)[i]? = (B ++ List.replicate (p + 1) true)[i]? := fun i => by rw [h]
  have hbit : ∀ j, j ≤ p → x.toNat.testBit j = true := by
    intro j hj
    have h1 := get (8 * o.length + (7 - j))
    rw [List.getElem?_append_right (by rw [bitsB_len]; omega), bitsB_len, show 8 * o.length + (7 - j) - 8 * o.length = 7 - j by omega, lowb_get (by omega), List.getElem?_append_right (by omega), List.getElem?_replicate, if_pos (by omega)] at h1
    rw [show 8 - 1 - (7 - j) = j by omega] at h1
    injection h1
  apply List.ext_getElem?
  intro i
  have h0 := get i
  by_cases hi : i < B.length
  · rw [List.getElem?_append_left (l₁ := B) hi] at h0
    rw [List.append_assoc, List.getElem?_append_left (l₁ := B) hi, ← h0]
    by_cases hi8 : i < 8 * o.length
    · rw [List.getElem?_append_left (by rw [bitsB_len]; exact hi8), List.getElem?_append_left (by rw [bitsB_len]; exact hi8)]
    · rw [List.getElem?_append_right (by rw [bitsB_len]; omega), List.getElem?_append_right (by rw [bitsB_len]; omega), bitsB_len, lowb_get (by omega), lowb_get (by omega), flip_bit p hp _ hx (hbit p (Nat.le_refl _)) _ (by omega), if_neg (by omega)]
  · by_cases hiB : i < B.length + 1 + p
    · rw [List.getElem?_append_right (by rw [bitsB_len]; omega), bitsB_len, lowb_get (by omega), flip_bit p hp _ hx (hbit p (Nat.le_refl _)) _ (by omega)]
      by_cases hie : i = B.length
      · subst hie
        rw [if_pos (by omega), List.append_assoc, List.getElem?_append_right (Nat.le_refl _)]
        simp
      · rw [if_neg (by omega), hbit _ (by omega), List.getElem?_append_right (by rw [List.length_append, List.length_singleton]; omega), List.getElem?_replicate, List.length_append, List.length_singleton, if_pos (by omega)]
    · rw [List.getElem?_eq_none (by rw [List.length_append, bitsB_len, lowb_len]; omega), List.getElem?_eq_none (by rw [List.length_append, List.length_append, List.length_singleton, List.length_replicate]; omega)]
theorem bit_get32 {x p : Nat} : bits .and .u32 ((x : Int) / 2 ^ p) 1 = ((x.testBit p).toNat : Int) := by
  have e : (x : Int) / 2 ^ p = ((x / 2 ^ p : Nat) : Int) := by
    rw [show (2 : Int) ^ p = ((2 ^ p : Nat) : Int) by rw [Int.natCast_pow]; rfl]
    exact (Int.natCast_ediv _ _).symm
  rw [e, Nat.testBit_eq_decide_div_mod_eq]
  generalize x / 2 ^ p = y
  have h : bits .and .u32 (y : Int) 1 = IntKind.u32.wrap (((y % 2 ^ 32) &&& 1 : Nat) : Int) := by
    show IntKind.u32.wrap ((BitVec.ofInt 32 (y : Int) &&& BitVec.ofInt 32 ((1 : Nat) : Int)).toNat : Int) = _
    rw [BitVec.toNat_and, BitVec.ofInt_natCast, BitVec.ofInt_natCast, BitVec.toNat_ofNat, BitVec.toNat_ofNat]
  have u32_wrap : ∀ v : Nat, IntKind.u32.wrap (v : Int) = ((v % 2 ^ 32 : Nat) : Int) := fun v => by
    unfold IntKind.wrap
    simp [IntKind.bits, IntKind.signed]
  rw [h, Nat.and_one_is_mod, u32_wrap]
  by_cases h1 : y % 2 = 1
  · rw [decide_eq_true h1]
    simp only [Bool.toNat_true]
    omega
  · rw [decide_eq_false h1]
    simp only [Bool.toNat_false]
    omega

theorem xor_val {y p : Nat} (hy : y < 256) (hp : p < 8) : Value.int .u8 (bits .xor .u8 (y : Int) (2 ^ p % 256)) = bv (UInt8.ofNat (y ^^^ 2 ^ p)) := by
  have h2 : 2 ^ p < 256 := Nat.lt_of_lt_of_le (Nat.pow_lt_pow_right (by omega) hp) (Nat.le_refl _)
  have e : (2 : Int) ^ p % 256 = ((2 ^ p : Nat) : Int) := by
    rw [show (2 : Int) ^ p = ((2 ^ p : Nat) : Int) by rw [Int.natCast_pow]; rfl]
    generalize 2 ^ p = q at h2
    omega
  rw [e]
  have h : bits .xor .u8 (y : Int) ((2 ^ p : Nat) : Int) = IntKind.u8.wrap ((y ^^^ 2 ^ p : Nat) : Int) := by
    show IntKind.u8.wrap ((BitVec.ofInt 8 (y : Int) ^^^ BitVec.ofInt 8 ((2 ^ p : Nat) : Int)).toNat : Int) = _
    rw [BitVec.toNat_xor, BitVec.ofInt_natCast, BitVec.ofInt_natCast, BitVec.toNat_ofNat, BitVec.toNat_ofNat, Nat.mod_eq_of_lt hy, Nat.mod_eq_of_lt h2]
  have hx := xor_lt hy hp
  rw [h, u8_wrap]
  unfold bv
  rw [UInt8.toNat_ofNat']

set_option maxHeartbeats 1000000 in
set_option maxRecDepth 100000 in
theorem refEncode_any (A : Option Addr) (n c : Nat) (l : List UInt8) (w : World) (h : Bs w A n l) (hn : n ≤ 1073741824) :
    Calls Tryd.prog 67 #[.slice A n c] w fun e w' => ∃ A2 c2 o p, e = .returned (.slice A2 o.length c2) ∧ Bs w' A2 o.length o ∧ bitsB o = bitsL l ++ List.replicate p true ∧ p ≤ 7 ∧ Below w.heap.size w w' := by
  obtain ⟨i0, hi0, hz0, hz1, hz2⟩ := info_parts big_info
  have hi := hid hi0
  have hz := hid hz0
  have hsz := hid hz1
  have hby := hid hz2
  clear hi0 hz0 hz1 hz2
  have hlen := h.len
  have H := hid h
  clear h
  go_enter Tryd.func67, Tryd.ntmps67
  go_wp2_with (go_at_call 78; go_must (refine (refCodes_any _).mono ?_; rintro e w1 ⟨b, d, rfl, hb, hd, hb1⟩; have HD := hid hd; have HC := hid hb; have HB1 := hid hb1; clear hb hd hb1))
  have H1 := hid (H.out.below HB1.out)
  go_loopw [5, 6, 7] (fun out ao io wr => ∃ (k : Nat) (A2 : Option Addr) (c2 p : Nat) (o : List UInt8), k ≤ n ∧ io = .int .i64 (k : Int) ∧ ao = .int .i64 ((bitsL (l.take k)).length : Nat) ∧ out = .slice A2 o.length c2 ∧ wr.ownsRow w1.heap.size 5 1 (.slice A2 o.length c2) o.length (o.map bv) ∧ bitsB o = bitsL (l.take k) ++ List.replicate p true ∧ p ≤ 7 ∧ Below w1.heap.size w1 wr) (fun _ _ io _ => n - (intOf io).toNat)
  case atStart => exact ⟨0, none, 0, 0, [], by omega, rfl, rfl, rfl, World.ownsRow_nil _ _ _ _, rfl, by omega, Below.refl _ _⟩
  case round =>
    obtain ⟨k, A2, c2, p, o, hk, rfl, rfl, rfl, hown, hbits, hp, hb⟩ := hrel
    have HB := hid hb
    have HO := hid hown
    have HBI := hid hbits
    clear hb hown hbits
    by_cases hkn : k < n
    · obtain ⟨b0, o0, rfl, hc⟩ := H1.out.2 (by omega)
      have hcw : w1.cell? ⟨b0, o0 + k, none⟩ = some (.int .u8 ((l[k]'(by omega)).toNat : Int)) := hc k _ (by rw [List.getElem?_map, List.getElem?_eq_getElem (by omega)]; rfl)
      have hc1 : wr.cell? ⟨b0, o0 + k, none⟩ = some (.int .u8 ((l[k]'(by omega)).toNat : Int)) := below_keep HB.out _ _ hcw
      have HT := hid (bitsL_take l k (by omega))
      have HBL := hid (show (bitsL (l.take (k + 1))).length ≤ 36 * (k + 1) by
        rw [bitsL_len]
        have h1 := hbits_le (l.take (k + 1))
        have h2 : (l.take (k + 1)).length ≤ k + 1 := by rw [List.length_take]; exact Nat.min_le_left _ _
        omega)
      have hx := (l[k]'(by omega)).toNat_lt
      generalize (l[k]'(by omega)).toNat = x at hcw hc1 HT hx
      have hx2 : x < 256 := hx
      have hdw := HD.out x (by omega)
      have hbw := HC.out x (by omega)
      have hd1 := below_keep HB.out _ _ hdw
      have h30 := hl_top x (by omega)
      have h5 := (hl_le x).1
      have HCB := hid (show cb x = lowb (hl x) (codeN x) from rfl)
      generalize hne : hl x = z at hd1 hdw h30 h5 HCB
      generalize hce : codeN x = CN at hbw HCB
      have HCW := hid hcw
      have HBW := hid hbw
      have hlk := HBL.out
      rw [HT.out, List.length_append] at hlk
      have hcz : (cb x).length = z := by rw [HCB.out, lowb_len]
      rw [hcz] at hlk
      generalize hBe : bitsL (l.take k) = B0 at HBI HT hlk
      clear hne hce hx hc hBe hcw hbw hdw
      go_wp2_with fail
      have HO2 := hid HO.out
      have HBR := hid HB.out
      clear hc1 hd1 HO HB
      go_loopw [5, 6, 8] (fun out ao ko wr => ∃ (j : Nat) (B : List Bool) (A2 : Option Addr) (c2 p : Nat) (o : List UInt8), j ≤ z ∧ ko = .int .i64 ((z : Int) - 1 - (j : Int)) ∧ ao = .int .i64 (B.length : Nat) ∧ out = .slice A2 o.length c2 ∧ wr.ownsRow w1.heap.size 5 1 (.slice A2 o.length c2) o.length (o.map bv) ∧ bitsB o = B ++ List.replicate p true ∧ p ≤ 7 ∧ B ++ (cb x).drop j = bitsL (l.take (k + 1)) ∧ Below w1.heap.size w1 wr) (fun _ _ ko _ => (intOf ko + 1).toNat)
      case atStart => exact ⟨0, B0, A2, c2, p, o, by omega, by first | rfl | (congr 1; omega), rfl, rfl, HO2.out, HBI.out, hp, HT.out.symm, HBR.out⟩
      case round =>
        obtain ⟨j, B, A3, c3, p3, o3, hj, rfl, rfl, rfl, hown, hbits, hp3, hpre, hb⟩ := hrel
        have HB := hid hb
        have HO := hid hown
        have HBJ := hid hbits
        have HPR := hid hpre
        have hbs := hb.size
        have hl8 := congrArg List.length hbits
        rw [bitsB_len, List.length_append, List.length_replicate] at hl8
        have hBl : B.length ≤ 36 * (k + 1) := by
          have h1 := congrArg List.length hpre
          rw [List.length_append] at h1
          have := HBL.out
          omega
        clear hb hown hbits hpre HO2 HBR HBI
        by_cases hjz : j < z
        · obtain ⟨kk, hkk⟩ : ∃ kk, kk + j + 1 = z := ⟨z - j - 1, by omega⟩
          have hke : (z : Int) - 1 - (j : Int) = (kk : Int) := by omega
          have HDJ : Hid ((cb x).drop j = CN.testBit kk :: (cb x).drop (j + 1)) := hid (by
            have h1 : (cb x)[j]? = some (CN.testBit kk) := by
              rw [HCB.out, lowb_get hjz, show z - 1 - j = kk by omega]
            obtain ⟨h2, h3⟩ := List.getElem?_eq_some_iff.1 h1
            rw [List.drop_eq_getElem_cons h2, h3])
          have hcx : wr.cell? ⟨b0, o0 + k, none⟩ = some (.int .u8 (x : Int)) := below_keep HB.out _ _ HCW.out
          have hcc : wr.cell? ⟨b, x, none⟩ = some (.int .u32 (CN : Int)) := below_keep HB.out _ _ HBW.out
          have hgt := bit_get32 (x := CN) (p := kk)
          by_cases hp0 : p3 = 0
          · subst hp0
            have hm8 : ((B.length : Nat) : Int) % 8 = 0 := by omega
            have hol3 : o3.length ≤ 6000000000 := by omega
            go_upto_region 12 with (first
              | (at_builtin; go_loud (refine wpList_app _ rfl _ _ _ rfl w1.heap.size 5 i0 _ 1 1 Tryd.underlying29 hi.out hz.out hsz.out hby.out rfl (by omega) _ o3.length _ rfl (HO.out.alloc _) _ 1 1 _ rfl (rd_one rfl) (by simp [Value.oneCell']) (by omega) (by omega) (by simp; omega) ?_; intro A5 c5 w5 ho5 hg5 hc5; have HO5 := hid ho5; have HG5 := hid hg5; clear ho5 hg5 hc5)))
            have hbl5 : Below w1.heap.size w1 w5 := below_app (HB.out.alloc (by omega) _) (HO.out.alloc _) HG5.out (Nat.le_refl _) (by simp; omega)
            have HB5 := hid hbl5
            have HO6 := hid (show w5.ownsRow w1.heap.size 5 1 (.slice A5 (o3.length + 1) c5) (o3.length + 1) ((o3 ++ [255]).map bv) by rw [List.map_append]; exact HO5.out)
            have hcx5 : w5.cell? ⟨b0, o0 + k, none⟩ = some (.int .u8 (x : Int)) := below_keep hbl5 _ _ HCW.out
            have hcc5 : w5.cell? ⟨b, x, none⟩ = some (.int .u32 (CN : Int)) := below_keep hbl5 _ _ HBW.out
            have HBK := hid (show bitsB (o3 ++ [255]) = B ++ List.replicate (7 + 1) true by rw [bitsB_append, HBJ.out, byte_ones, List.replicate_zero, List.append_nil])
            obtain ⟨g, cap, hform, hg1, hg2⟩ := HO6.out.form (by omega)
            injection hform with hA _ _
            subst hA
            have clast : w5.cell? ⟨g, o3.length, none⟩ = some (.int .u8 255) := by
              rw [HO6.out.cellAt _ (by omega), List.map_append, List.getElem?_append_right (by simp), List.length_map, Nat.sub_self]
              rfl
            have flast := HO6.out.frozenAt o3.length
            clear HO HG5 HO5 HB hcx hcc hbl5
            rcases hv : CN.testBit kk with _ | _
            · rw [hv] at HDJ
              simp only [hv, Bool.toNat_false] at hgt
              have hgt0 : bits BinOp.and IntKind.u32 ((CN : Int) / 2 ^ kk) 1 = 0 := hgt
              clear hgt
              go_wp2_with fail
              have hx7 : Value.int .u8 (bits .xor .u8 255 128) = bv 127 := by kernel_rfl
              rw [hx7]
              have hst := (HO6.out.stored o3.length (bv 127)).1
              have hse : ((o3 ++ [255]).map bv).set o3.length (bv 127) = (o3 ++ [127]).map bv := by
                rw [List.map_append, List.map_append, List.set_append_right _ _ (by simp)]
                simp
              rw [hse] at hst
              have hfl := last_flip (x := 255) (p := 7) (by omega) HBK.out
              have hbl6 : Below w1.heap.size w1 (w5.setCell ⟨g, o3.length, none⟩ (bv 127)) := HB5.out.setCell (p := ⟨g, o3.length, none⟩) hg1 _
              refine ⟨⟨j + 1, B ++ [false], some ⟨g, 0, none⟩, c5, 7, o3 ++ [127], by omega, congrArg (Value.int .i64) (by omega), congrArg (Value.int .i64) (by rw [List.length_append, List.length_singleton]; omega), ?_, ?_, hfl, by omega, ?_, hbl6⟩, by simp [intOf]; omega⟩
              · rw [List.length_append, List.length_singleton]
              · rw [List.length_append, List.length_singleton]
                exact hst
              · rw [← HPR.out, HDJ.out, List.append_assoc]
                rfl
            · rw [hv] at HDJ
              simp only [hv, Bool.toNat_true] at hgt
              have hgt0 : bits BinOp.and IntKind.u32 ((CN : Int) / 2 ^ kk) 1 = 1 := hgt
              clear hgt
              go_wp2_with fail
              refine ⟨⟨j + 1, B ++ [true], some ⟨g, 0, none⟩, c5, 7, o3 ++ [255], by omega, congrArg (Value.int .i64) (by omega), congrArg (Value.int .i64) (by rw [List.length_append, List.length_singleton]; omega), ?_, ?_, ?_, by omega, ?_, HB5.out⟩, by simp [intOf]; omega⟩
              · rw [List.length_append, List.length_singleton]
              · rw [List.length_append, List.length_singleton]
                exact HO6.out
              · rw [HBK.out, List.replicate_succ, List.append_assoc]
                rfl
              · rw [← HPR.out, HDJ.out, List.append_assoc]
                rfl
          · have hm8 : ¬ (((B.length : Nat) : Int) % 8 = 0) := by omega
            obtain ⟨pp, rfl⟩ : ∃ q, p3 = q + 1 := ⟨p3 - 1, by omega⟩
            have hs7 : 7 - ((B.length : Nat) : Int) % 8 = (pp : Int) := by omega
            obtain ⟨ini, last, rfl⟩ : ∃ ini last, o3 = ini ++ [last] := by
              rcases List.eq_nil_or_concat o3 with h | ⟨a, b, h⟩
              · subst h
                simp at hl8
              · exact ⟨a, b, by rw [h, List.concat_eq_append]⟩
            have hli : (ini ++ [last]).length = ini.length + 1 := by rw [List.length_append, List.length_singleton]
            rw [hli] at HO ⊢
            obtain ⟨g, cap, hform, hg1, hg2⟩ := HO.out.form (by omega)
            injection hform with hA _ _
            subst hA
            have clast : wr.cell? ⟨g, ini.length, none⟩ = some (.int .u8 (last.toNat : Int)) := by
              rw [HO.out.cellAt _ (by omega), List.map_append, List.getElem?_append_right (by simp), List.length_map, Nat.sub_self]
              rfl
            have flast := HO.out.frozenAt ini.length
            rcases hv : CN.testBit kk with _ | _
            · rw [hv] at HDJ
              simp only [hv, Bool.toNat_false] at hgt
              have hgt0 : bits BinOp.and IntKind.u32 ((CN : Int) / 2 ^ kk) 1 = 0 := hgt
              clear hgt
              go_wp2_with fail
              have hlt := last.toNat_lt
              rw [xor_val hlt (by omega)]
              have hst := (HO.out.stored ini.length (bv (UInt8.ofNat (last.toNat ^^^ 2 ^ pp)))).1
              have hse : ((ini ++ [last]).map bv).set ini.length (bv (UInt8.ofNat (last.toNat ^^^ 2 ^ pp))) = (ini ++ [UInt8.ofNat (last.toNat ^^^ 2 ^ pp)]).map bv := by
                rw [List.map_append, List.map_append, List.set_append_right _ _ (by simp)]
                simp
              rw [hse] at hst
              have hfl := last_flip (p := pp) (by omega) HBJ.out
              have hbl6 : Below w1.heap.size w1 (wr.setCell ⟨g, ini.length, none⟩ (bv (UInt8.ofNat (last.toNat ^^^ 2 ^ pp)))) := HB.out.setCell (p := ⟨g, ini.length, none⟩) hg1 _
              refine ⟨⟨j + 1, B ++ [false], some ⟨g, 0, none⟩, c3, pp, ini ++ [UInt8.ofNat (last.toNat ^^^ 2 ^ pp)], by omega, congrArg (Value.int .i64) (by omega), congrArg (Value.int .i64) (by rw [List.length_append, List.length_singleton]; omega), ?_, ?_, hfl, by omega, ?_, hbl6⟩, by simp [intOf]; omega⟩
              · rw [List.length_append, List.length_singleton]
              · rw [List.length_append, List.length_singleton]
                exact hst
              · rw [← HPR.out, HDJ.out, List.append_assoc]
                rfl
            · rw [hv] at HDJ
              simp only [hv, Bool.toNat_true] at hgt
              have hgt0 : bits BinOp.and IntKind.u32 ((CN : Int) / 2 ^ kk) 1 = 1 := hgt
              clear hgt
              go_wp2_with fail
              refine ⟨⟨j + 1, B ++ [true], some ⟨g, 0, none⟩, c3, pp, ini ++ [last], by omega, congrArg (Value.int .i64) (by omega), congrArg (Value.int .i64) (by rw [List.length_append, List.length_singleton]; omega), ?_, ?_, ?_, by omega, ?_, HB.out⟩, by simp [intOf]; omega⟩
              · rw [List.length_append, List.length_singleton]
              · rw [List.length_append, List.length_singleton]
                exact HO.out
              · rw [HBJ.out, List.replicate_succ, List.append_assoc]
                rfl
              · rw [← HPR.out, HDJ.out, List.append_assoc]
                rfl
        · obtain rfl : j = z := by omega
          have hBe : B = bitsL (l.take (k + 1)) := by
            have h1 := HPR.out
            rw [List.drop_of_length_le (by omega), List.append_nil] at h1
            exact h1
          subst hBe
          go_wp2_with fail
          exact ⟨⟨k + 1, A3, c3, p3, o3, by omega, by go_num, rfl, rfl, HO.out, HBJ.out, hp3, HB.out⟩, by simp [intOf]; omega⟩
    · obtain rfl : k = n := by omega
      have hbj := HBI.out
      rw [List.take_of_length_le (by omega)] at hbj
      have HBJ := hid hbj
      clear hbj HBI
      go_wp2_with fail
      refine bodyPost_ret (v := .slice A2 o.length c2) (by simp [results, Tryd.results67, go_sem]) rfl ?_
      exact ⟨A2, c2, o, p, rfl, Bs.of_own HO.out, HBJ.out, hp, HB1.out.trans (HB.out.mono HB1.out.size)⟩
end Go.Proofs.YtjeocmglcgnclaaDoor

/- The reference's table: the same entries. Plain, and its call. -/
namespace Go.Proofs.YtjeocmglcgnclaaDoor
open Go.RowKit
attribute [local go_sem] kd kdS

set_option maxRecDepth 100000 in
def knL : List (List UInt8) := [[58, 97, 117, 116, 104, 111, 114, 105, 116, 121], [], [58, 109, 101, 116, 104, 111, 100], [71, 69, 84], [58, 109, 101, 116, 104, 111, 100], [80, 79, 83, 84], [58, 112, 97, 116, 104], [47], [58, 112, 97, 116, 104], [47, 105, 110, 100, 101, 120, 46, 104, 116, 109, 108], [58, 115, 99, 104, 101, 109, 101], [104, 116, 116, 112], [58, 115, 99, 104, 101, 109, 101], [104, 116, 116, 112, 115], [58, 115, 116, 97, 116, 117, 115], [50, 48, 48], [58, 115, 116, 97, 116, 117, 115], [50, 48, 52], [58, 115, 116, 97, 116, 117, 115], [50, 48, 54], [58, 115, 116, 97, 116, 117, 115], [51, 48, 52], [58, 115, 116, 97, 116, 117, 115], [52, 48, 48], [58, 115, 116, 97, 116, 117, 115], [52, 48, 52], [58, 115, 116, 97, 116, 117, 115], [53, 48, 48], [97, 99, 99, 101, 112, 116, 45, 99, 104, 97, 114, 115, 101, 116], [], [97, 99, 99, 101, 112, 116, 45, 101, 110, 99, 111, 100, 105, 110, 103], [103, 122, 105, 112, 44, 32, 100, 101, 102, 108, 97, 116, 101], [97, 99, 99, 101, 112, 116, 45, 108, 97, 110, 103, 117, 97, 103, 101], [], [97, 99, 99, 101, 112, 116, 45, 114, 97, 110, 103, 101, 115], [], [97, 99, 99, 101, 112, 116], [], [97, 99, 99, 101, 115, 115, 45, 99, 111, 110, 116, 114, 111, 108, 45, 97, 108, 108, 111, 119, 45, 111, 114, 105, 103, 105, 110], [], [97, 103, 101], [], [97, 108, 108, 111, 119], [], [97, 117, 116, 104, 111, 114, 105, 122, 97, 116, 105, 111, 110], [], [99, 97, 99, 104, 101, 45, 99, 111, 110, 116, 114, 111, 108], [], [99, 111, 110, 116, 101, 110, 116, 45, 100, 105, 115, 112, 111, 115, 105, 116, 105, 111, 110], [], [99, 111, 110, 116, 101, 110, 116, 45, 101, 110, 99, 111, 100, 105, 110, 103], [], [99, 111, 110, 116, 101, 110, 116, 45, 108, 97, 110, 103, 117, 97, 103, 101], [], [99, 111, 110, 116, 101, 110, 116, 45, 108, 101, 110, 103, 116, 104], [], [99, 111, 110, 116, 101, 110, 116, 45, 108, 111, 99, 97, 116, 105, 111, 110], [], [99, 111, 110, 116, 101, 110, 116, 45, 114, 97, 110, 103, 101], [], [99, 111, 110, 116, 101, 110, 116, 45, 116, 121, 112, 101], [], [99, 111, 111, 107, 105, 101], [], [100, 97, 116, 101], [], [101, 116, 97, 103], [], [101, 120, 112, 101, 99, 116], [], [101, 120, 112, 105, 114, 101, 115], [], [102, 114, 111, 109], [], [104, 111, 115, 116], [], [105, 102, 45, 109, 97, 116, 99, 104], [], [105, 102, 45, 109, 111, 100, 105, 102, 105, 101, 100, 45, 115, 105, 110, 99, 101], [], [105, 102, 45, 110, 111, 110, 101, 45, 109, 97, 116, 99, 104], [], [105, 102, 45, 114, 97, 110, 103, 101], [], [105, 102, 45, 117, 110, 109, 111, 100, 105, 102, 105, 101, 100, 45, 115, 105, 110, 99, 101], [], [108, 97, 115, 116, 45, 109, 111, 100, 105, 102, 105, 101, 100], [], [108, 105, 110, 107], [], [108, 111, 99, 97, 116, 105, 111, 110], [], [109, 97, 120, 45, 102, 111, 114, 119, 97, 114, 100, 115], [], [112, 114, 111, 120, 121, 45, 97, 117, 116, 104, 101, 110, 116, 105, 99, 97, 116, 101], [], [112, 114, 111, 120, 121, 45, 97, 117, 116, 104, 111, 114, 105, 122, 97, 116, 105, 111, 110], [], [114, 97, 110, 103, 101], [], [114, 101, 102, 101, 114, 101, 114], [], [114, 101, 102, 114, 101, 115, 104], [], [114, 101, 116, 114, 121, 45, 97, 102, 116, 101, 114], [], [115, 101, 114, 118, 101, 114], [], [115, 101, 116, 45, 99, 111, 111, 107, 105, 101], [], [115, 116, 114, 105, 99, 116, 45, 116, 114, 97, 110, 115, 112, 111, 114, 116, 45, 115, 101, 99, 117, 114, 105, 116, 121], [], [116, 114, 97, 110, 115, 102, 101, 114, 45, 101, 110, 99, 111, 100, 105, 110, 103], [], [117, 115, 101, 114, 45, 97, 103, 101, 110, 116], [], [118, 97, 114, 121], [], [118, 105, 97], [], [119, 119, 119, 45, 97, 117, 116, 104, 101, 110, 116, 105, 99, 97, 116, 101], []]
def knA : Array Value := (knL.map fun l => Value.string ⟨l.toArray⟩).toArray
def okK (i : Nat) : Bool := (knL[2 * i]? == some (tabF (i + 1)).1) && (knL[2 * i + 1]? == some (tabF (i + 1)).2)
set_option maxRecDepth 100000 in
theorem okK_all : ((List.range 61).all okK) = true := by decide +kernel
theorem knA_at {i : Nat} (h : i < 61) : knA[2 * i]? = some (.string ⟨(tabF (i + 1)).1.toArray⟩) ∧ knA[2 * i + 1]? = some (.string ⟨(tabF (i + 1)).2.toArray⟩) := by
  have h := List.all_eq_true.1 okK_all i (List.mem_range.2 h)
  unfold okK at h
  simp only [Bool.and_eq_true, beq_iff_eq] at h
  unfold knA
  simp [h.1, h.2]

theorem wp_runK {P : Program} {o : Oper} {a : Act} {w w1 : World} {K : Act → World → Prop} {Q : Exit → Act → World → Prop} {v : Value} (h : (execOp a.eval o).run P w = .ok (.value v) w1) (hk : K (a.put o.dst v) w1) : o.wp P a w K Q := by
  unfold Oper.wp
  rw [h]
  exact hk

set_option maxHeartbeats 1000000 in
set_option maxRecDepth 100000 in
theorem known_any (w : World) : Calls Tryd.prog 65 #[] w fun e w' => ∃ b, e = .returned (.slice (some ⟨b, 0, none⟩) 122 122) ∧ Blk w' b 9 knA ∧ Below w.heap.size w w' := by
  have hb : Below w.heap.size w (w.alloc (.cells knA 9)) := (Below.refl _ _).alloc (Nat.le_refl _) _
  have hk : Blk (w.alloc (.cells knA 9)) w.heap.size 9 knA := Blk.new w _ _
  have HB := hid hb
  have HK := hid hk
  clear hb hk
  go_enter Tryd.func65, Tryd.ntmps65
  go_upto_region 1 with fail
  refine wp_region_lit ?_
  refine wpList_plain rfl fun K hK => ?_
  refine wp_runK (v := .slice (some ⟨w.heap.size, 0, none⟩) 122 122) (w1 := w.alloc (.cells knA 9)) (by kernel_rfl) ?_
  refine hK _ _ ?_
  generalize w.alloc (.cells knA 9) = w1 at HB HK
  go_wp2_with fail
  go_ret
  exact ⟨_, rfl, HK.out, HB.out⟩
end Go.Proofs.YtjeocmglcgnclaaDoor

/- The reference's Find: the same answers. -/
namespace Go.Proofs.YtjeocmglcgnclaaDoor
open Go.RowKit
attribute [local go_sem] kd kdS

/-- What the loop holds behind the entries from k on. -/
def rfindP (nm vl : List UInt8) : Nat → Nat × Nat
  | 0 => (0, 0)
  | d + 1 =>
    let r := rfindP nm vl d
    let i := 61 - d
    if (tabF i).1 = nm then (if (tabF i).2 = vl then i else r.1, i) else r

set_option maxHeartbeats 1000000 in
set_option maxRecDepth 100000 in
theorem rfind_any (nm vl : List UInt8) (w : World) : Calls Tryd.prog 50 #[.string ⟨nm.toArray⟩, .string ⟨vl.toArray⟩] w fun e w' => e = .returned (.tuple #[.int .i64 ((rfindP nm vl 61).1 : Nat), .int .i64 ((rfindP nm vl 61).2 : Nat)]) ∧ Below w.heap.size w w' := by
  go_enter Tryd.func50, Tryd.ntmps50
  go_wp2_with fail
  refine (known_any w).mono ?_
  rintro e w1 ⟨b, rfl, hk, hb1⟩
  have HK := hid hk
  have HB := hid hb1
  clear hk hb1
  go_wp2_with fail
  go_loopw [7, 8, 9] (fun x y i wr => ∃ d : Nat, d ≤ 61 ∧ i = .int .i64 (60 - (d : Int)) ∧ x = .int .i64 ((rfindP nm vl d).1 : Nat) ∧ y = .int .i64 ((rfindP nm vl d).2 : Nat) ∧ wr = w1) (fun _ _ i _ => (intOf i + 1).toNat)
  case atStart => exact ⟨0, by omega, rfl, rfl, rfl, rfl⟩
  case round =>
    obtain ⟨d, hd, rfl, rfl, rfl, rfl⟩ := hrel
    by_cases hgo : d < 61
    · obtain ⟨m, hm⟩ : ∃ m : Nat, (60 : Int) - (d : Int) = m := ⟨60 - d, by omega⟩
      obtain ⟨a0, a1⟩ := knA_at (i := m) (by omega)
      have k0 : wr.cell? ⟨b, 2 * m, none⟩ = some (.string ⟨(tabF (m + 1)).1.toArray⟩) := (HK.out.cell _).trans a0
      have k1 : wr.cell? ⟨b, 2 * m + 1, none⟩ = some (.string ⟨(tabF (m + 1)).2.toArray⟩) := (HK.out.cell _).trans a1
      have hs : rfindP nm vl (d + 1) = (if (tabF (m + 1)).1 = nm then (if (tabF (m + 1)).2 = vl then m + 1 else (rfindP nm vl d).1, m + 1) else rfindP nm vl d) := by
        show (if (tabF (61 - d)).1 = nm then (if (tabF (61 - d)).2 = vl then 61 - d else (rfindP nm vl d).1, 61 - d) else rfindP nm vl d) = _
        rw [show 61 - d = m + 1 by omega]
      have HS := hid hs
      clear a0 a1 hs
      generalize tabF (m + 1) = q at k0 k1 HS
      rw [hm]
      have m60 : m ≤ 60 := by omega
      have x2 : IntKind.i64.wrap (2 * (m : Int)) = ((2 * m : Nat) : Int) := by rw [IntWalk.i64_in _ (by omega)]; omega
      have x3 : (2 * (m : Int)).toNat = 2 * m := by omega
      have x4 : (2 * (m : Int) + 1).toNat = 2 * m + 1 := by omega
      by_cases e1 : q.1 = nm
      · have z1 : (q.1 == nm) = true := beq_iff_eq.2 e1
        by_cases e2 : q.2 = vl
        · have z2 : (q.2 == vl) = true := beq_iff_eq.2 e2
          rw [if_pos e1, if_pos e2] at HS
          clear e1 e2
          go_wp2_with fail
          go_roundw
          case rel => exact ⟨d + 1, by omega, by go_num, by rw [HS.out]; go_num, by rw [HS.out]; go_num, trivial⟩
          case measure => simp [intOf] <;> omega
        · have z2 : (q.2 == vl) = false := beq_eq_false_iff_ne.2 e2
          rw [if_pos e1, if_neg e2] at HS
          clear e1 e2
          go_wp2_with fail
          go_roundw
          case rel => exact ⟨d + 1, by omega, by go_num, by rw [HS.out], by rw [HS.out]; go_num, trivial⟩
          case measure => simp [intOf] <;> omega
      · have z1 : (q.1 == nm) = false := beq_eq_false_iff_ne.2 e1
        rw [if_neg e1] at HS
        clear e1
        go_wp2_with fail
        go_roundw
        case rel => exact ⟨d + 1, by omega, by go_num, by rw [HS.out], by rw [HS.out], trivial⟩
        case measure => simp [intOf] <;> omega
    · obtain rfl : d = 61 := by omega
      clear hgo
      go_wp2_with fail
      refine bodyPost_ret (v := .tuple #[.int .i64 ((rfindP nm vl 61).1 : Nat), .int .i64 ((rfindP nm vl 61).2 : Nat)]) (by simp [results, Tryd.results50, go_sem]) rfl ⟨rfl, HB.out⟩
end Go.Proofs.YtjeocmglcgnclaaDoor

/- The two searches of the table answer alike. Plain. -/
namespace Go.Proofs.YtjeocmglcgnclaaDoor
open Go.RowKit

/-- The least place of a span with M; 0: none. -/
def Least (M : Nat → Prop) (a b r : Nat) : Prop := (r = 0 ∧ ∀ i, a ≤ i → i ≤ b → ¬ M i) ∨ (a ≤ r ∧ r ≤ b ∧ M r ∧ ∀ i, a ≤ i → i < r → ¬ M i)
theorem Least.one {M : Nat → Prop} {a b r s : Nat} (h1 : Least M a b r) (h2 : Least M a b s) : r = s := by
  rcases h1 with ⟨rfl, h1⟩ | ⟨h1, h2', h3, h4⟩
  · rcases h2 with ⟨rfl, _⟩ | ⟨g1, g2, g3, _⟩
    · rfl
    · exact absurd g3 (h1 _ g1 g2)
  · rcases h2 with ⟨rfl, h2⟩ | ⟨g1, g2, g3, g4⟩
    · exact absurd h3 (h2 _ h1 h2')
    · rcases Nat.lt_trichotomy r s with h | h | h
      · exact absurd h3 (g4 _ h1 h)
      · exact h
      · exact absurd g3 (h4 _ g1 h)
/-- One more at the top. -/
theorem Least.up {M : Nat → Prop} [DecidablePred M] {b r : Nat} (h : Least M 1 b r) : Least M 1 (b + 1) (if r = 0 ∧ M (b + 1) then b + 1 else r) := by
  rcases h with ⟨rfl, h⟩ | ⟨h1, h2, h3, h4⟩
  · by_cases hm : M (b + 1)
    · rw [if_pos ⟨rfl, hm⟩]
      exact .inr ⟨by omega, by omega, hm, fun i hi hl => h i hi (by omega)⟩
    · rw [if_neg (fun h => hm h.2)]
      refine .inl ⟨rfl, fun i hi hl => ?_⟩
      by_cases e : i = b + 1
      · exact e ▸ hm
      · exact h i hi (by omega)
  · rw [if_neg (by omega)]
    exact .inr ⟨h1, by omega, h3, h4⟩
/-- One more at the bottom. -/
theorem Least.down {M : Nat → Prop} [DecidablePred M] {a b r : Nat} (ha : a + 1 ≤ b + 1) (ha1 : 1 ≤ a) (h : Least M (a + 1) b r) : Least M a b (if M a then a else r) := by
  by_cases hm : M a
  · rw [if_pos hm]
    exact .inr ⟨by omega, by omega, hm, fun i hi hl => by omega⟩
  · rw [if_neg hm]
    rcases h with ⟨rfl, h⟩ | ⟨h1, h2, h3, h4⟩
    · refine .inl ⟨rfl, fun i hi hl => ?_⟩
      by_cases e : i = a
      · exact e ▸ hm
      · exact h i (by omega) hl
    · refine .inr ⟨by omega, h2, h3, fun i hi hl => ?_⟩
      by_cases e : i = a
      · exact e ▸ hm
      · exact h4 i (by omega) hl

theorem findP_least (nm vl : List UInt8) (k : Nat) : Least (fun i => (tabF i).1 = nm ∧ (tabF i).2 = vl) 1 k (findP nm vl k).1 ∧ Least (fun i => (tabF i).1 = nm) 1 k (findP nm vl k).2 := by
  induction k with
  | zero => exact ⟨.inl ⟨rfl, fun i h1 h2 => by omega⟩, .inl ⟨rfl, fun i h1 h2 => by omega⟩⟩
  | succ k ih =>
    have h1 := ih.1.up
    have h2 := ih.2.up
    rw [findP_succ]
    by_cases e : (tabF (k + 1)).1 = nm
    · rw [if_pos e]
      simp only [e, true_and, and_true] at h1 h2
      exact ⟨h1, h2⟩
    · rw [if_neg e]
      simp only [e, false_and, and_false, if_false] at h1 h2
      exact ⟨h1, h2⟩
theorem rfindP_least (nm vl : List UInt8) (d : Nat) (hd : d ≤ 61) : Least (fun i => (tabF i).1 = nm ∧ (tabF i).2 = vl) (62 - d) 61 (rfindP nm vl d).1 ∧ Least (fun i => (tabF i).1 = nm) (62 - d) 61 (rfindP nm vl d).2 := by
  induction d with
  | zero => exact ⟨.inl ⟨rfl, fun i h1 h2 => by omega⟩, .inl ⟨rfl, fun i h1 h2 => by omega⟩⟩
  | succ d ih =>
    have ih := ih (by omega)
    rw [show 62 - d = 61 - d + 1 by omega] at ih
    have h1 := ih.1.down (by omega) (by omega)
    have h2 := ih.2.down (by omega) (by omega)
    rw [show 62 - (d + 1) = 61 - d by omega]
    unfold rfindP
    dsimp only at h1 h2 ⊢
    by_cases e : (tabF (61 - d)).1 = nm
    · rw [if_pos e]
      simp only [e, true_and, if_true] at h1 h2
      exact ⟨h1, h2⟩
    · rw [if_neg e]
      simp only [e, false_and, if_false] at h1 h2
      exact ⟨h1, h2⟩
theorem rfind_is (nm vl : List UInt8) : rfindP nm vl 61 = findP nm vl 61 := by
  obtain ⟨a1, a2⟩ := findP_least nm vl 61
  obtain ⟨b1, b2⟩ := rfindP_least nm vl 61 (Nat.le_refl _)
  exact Prod.ext (Least.one b1 a1) (Least.one b2 a2)
end Go.Proofs.YtjeocmglcgnclaaDoor

/- The reference's table, each call once: the newest stand first. Conditions: at most 2^40 bytes in all. -/
namespace Go.Proofs.YtjeocmglcgnclaaDoor
open Go.RowKit
attribute [local go_sem] kd kdS
attribute [local go_sem ↓] sliced_word
attribute [local go_sem] offA_zero

/-- The reference's table in block g; it holds l, the eldest first. -/
structure RTab (w : World) (B g : Nat) (most : Int) (A : Option Addr) (n c : Nat) (l : List Fd) : Prop where
  blk : Blk w g 71 #[.int .i64 most, .slice A n c]
  fs : Fs w A n l.reverse
  cap : n ≤ c
  base : B ≤ g
  row : ∀ k, (Value.slice A n c).ownBlock = some k → B ≤ k ∧ k < w.heap.size ∧ k ≠ g
theorem RTab.len {w : World} {B g : Nat} {most : Int} {A : Option Addr} {n c : Nat} {l : List Fd} (h : RTab w B g most A n c l) : l.length = n := by
  have := h.fs.len
  simpa using this
theorem RTab.below {w w' : World} {B g : Nat} {most : Int} {A : Option Addr} {n c : Nat} {l : List Fd} (h : RTab w B g most A n c l) (hb : Below w.heap.size w w') : RTab w' B g most A n c l :=
  ⟨h.blk.below hb h.blk.lt, h.fs.below hb, h.cap, h.base, fun k hk => ⟨(h.row k hk).1, Nat.lt_of_lt_of_le (h.row k hk).2.1 hb.size, (h.row k hk).2.2⟩⟩
theorem RTab.turned {w w' : World} {B g : Nat} {most : Int} {A : Option Addr} {n c : Nat} {l : List Fd} {F : List Nat} (h : RTab w B g most A n c l) (ht : Turned F w w') (hg : g ∉ F) (hF : ∀ k, (Value.slice A n c).ownBlock = some k → k ∉ F) : RTab w' B g most A n c l :=
  ⟨h.blk.turned ht hg, Rd.turned h.fs ht (fun ad e => hF _ (by rw [e]; rfl)), h.cap, h.base, fun k hk => ⟨(h.row k hk).1, Nat.lt_of_lt_of_le (h.row k hk).2.1 ht.size, (h.row k hk).2.2⟩⟩
def RT (w : World) (B : Nat) (G : List Nat) (g : Nat) (most : Int) (l : List Fd) : Prop :=
  ∃ A n c, RTab w B g most A n c l ∧ G = g :: (Value.slice A n c).ownBlock.toList
theorem RT.below {w w' : World} {B g : Nat} {G : List Nat} {most : Int} {l : List Fd} (h : RT w B G g most l) (hb : Below w.heap.size w w') : RT w' B G g most l := by
  obtain ⟨A, n, c, h, rfl⟩ := h
  exact ⟨A, n, c, h.below hb, rfl⟩
theorem RT.turned {w w' : World} {B g : Nat} {G F : List Nat} {most : Int} {l : List Fd} (h : RT w B G g most l) (ht : Turned F w w') (hd : ∀ k ∈ G, k ∉ F) : RT w' B G g most l := by
  obtain ⟨A, n, c, h, rfl⟩ := h
  exact ⟨A, n, c, h.turned ht (hd g (by simp)) (fun k hk => hd k (by simp [hk])), rfl⟩
theorem RT.ge {w : World} {B g : Nat} {G : List Nat} {most : Int} {l : List Fd} (h : RT w B G g most l) : ∀ k ∈ G, B ≤ k ∧ k < w.heap.size := by
  obtain ⟨A, n, c, h, rfl⟩ := h
  intro k hk
  rcases List.mem_cons.1 hk with rfl | hk
  · exact ⟨h.base, h.blk.lt⟩
  · have := h.row k (by simpa using hk)
    exact ⟨this.1, this.2.1⟩
/-- What a call leaves. -/
def RTPost (v : Value) (B : Nat) (G : List Nat) (g : Nat) (most : Int) (l : List Fd) (w : World) (e : Ending) (w' : World) : Prop :=
  ∃ G', e = .returned v ∧ RT w' B G' g most l ∧ Turned [g] w w' ∧ ∀ k ∈ G', k ∈ G ∨ w.heap.size ≤ k

theorem total_rev (l : List Fd) : total l.reverse = total l := by
  unfold total
  rw [List.map_reverse, List.sum_reverse]

set_option maxHeartbeats 400000 in
set_option maxRecDepth 100000 in
theorem drtotal_any (A : Option Addr) (n c : Nat) (l : List Fd) (w : World) (h : Fs w A n l) (ht : total l ≤ 1099511627776) (hn : n ≤ 1099511627776) :
    Calls Tryd.prog 64 #[.slice A n c] w fun e w' => e = .returned (.int .i64 (total l : Nat)) ∧ Below w.heap.size w w' := by
  have H := hid h
  have hlen := h.len
  clear h
  go_enter Tryd.func64, Tryd.ntmps64
  go_wp2_with fail
  go_loopw [3, 4] (fun s i wr => ∃ k : Nat, k ≤ n ∧ i = .int .i64 k ∧ s = .int .i64 (total (l.take k) : Nat) ∧ Below w.heap.size w wr) (fun _ i _ => n - (intOf i).toNat)
  case atStart => exact ⟨0, Nat.zero_le _, rfl, rfl, Below.refl _ _⟩
  case round =>
    obtain ⟨k, hk, rfl, rfl, hb⟩ := hrel
    have HB := hid hb
    by_cases hgo : k < n
    · obtain ⟨b, o, f, rfl, hf, c0, c1, c2⟩ := Fs.at_ (H.out.below hb) hgo
      have hst : total (l.take (k + 1)) = total (l.take k) + f.size := by
        rw [List.take_add_one, hf, total_append]
        simp [total]
      have hle : total (l.take (k + 1)) ≤ total l := by
        have := total_append (l.take (k + 1)) (l.drop (k + 1))
        rw [List.take_append_drop] at this
        omega
      have HST := hid hst
      have hfs : ((total (l.take k) : Nat) : Int) + (f.size : Nat) ≤ 1099511627776 := by omega
      have hfz : f.size ≤ 1099511627776 := by omega
      clear hst hle hf hb
      go_wp2_with fail
      refine (rsize_any f wr (by omega)).mono ?_
      rintro e w2 ⟨rfl, hb2⟩
      have HB2 := hid (HB.out.trans (hb2.mono HB.out.size))
      clear hb2 c0 c1 c2
      go_wp2_with fail
      go_roundw
      case rel => exact ⟨k + 1, by omega, by go_num, by rw [HST.out]; go_num, HB2.out⟩
      case measure => simp [intOf]; omega
    · obtain rfl : k = n := by omega
      have he : l.take k = l := List.take_of_length_le (by omega)
      rw [he]
      clear hb he hgo
      go_wp2_with fail
      go_ret
      exact ⟨rfl, HB.out⟩

theorem shr_not {r : Int} {l : List Fd} (h : ¬ r < (total l : Nat)) : shr r l = l := by
  cases l with
  | nil => rfl
  | cons f l => unfold shr; rw [if_neg h]
theorem shr_step {r : Int} {f : Fd} {l : List Fd} (h : r < (total (f :: l) : Nat)) : shr r (f :: l) = shr r l := by
  rw [shr, if_pos h]

/-- Behind the append and the store: the new row is fresh. -/
theorem fresh_end {B g n5 c5 n0 c0 : Nat} {most : Int} {A0 A5 : Option Addr} {l : List Fd} {xs : List Value} {w12 W w5 : World} {row : Option Nat}
    (hkg : Blk w5 g 71 #[.int .i64 most, .slice A0 n0 c0]) (hBg : B ≤ g) (hg : g < w12.heap.size) (hB : B ≤ w12.heap.size) (hbW : Below w12.heap.size w12 W)
    (hown : w5.ownsRow w12.heap.size 23 3 (.slice A5 n5 c5) n5 xs) (hxs : xs = flat l.reverse) (hgr : W.grownBy w5 row) (hrow : ∀ k, row = some k → w12.heap.size ≤ k) :
    RTab (w5.setCell ⟨g, 1, none⟩ (.slice A5 n5 c5)) B g most A5 n5 c5 l ∧ Turned [g] w12 (w5.setCell ⟨g, 1, none⟩ (.slice A5 n5 c5)) ∧ ∀ k, (Value.slice A5 n5 c5).ownBlock = some k → w12.heap.size ≤ k := by
  subst hxs
  have ht5 : Turned [] w12 w5 := Turned.grown (Turned.of_below hbW) hgr (fun k hk => .inr (hrow k hk))
  have ht6 : Turned [g] w5 (w5.setCell ⟨g, 1, none⟩ (.slice A5 n5 c5)) := (Turned.refl _ _).setCell (by simp) _
  have hrw : ∀ k, (Value.slice A5 n5 c5).ownBlock = some k → w12.heap.size ≤ k := fun k hk => (hown.lt k hk).1
  have hlt : ∀ k, (Value.slice A5 n5 c5).ownBlock = some k → k < w5.heap.size := fun k hk => (hown.lt k hk).2
  have hne : ∀ k, (Value.slice A5 n5 c5).ownBlock = some k → k ≠ g := fun k hk e => by
    have := hrw k hk
    omega
  refine ⟨⟨by simpa using hkg.set_ 1 (.slice A5 n5 c5), Rd.of_own (own_turned hown ht6 (fun k hk hm => hne k hk (List.mem_singleton.1 hm))), own_le hown, hBg, fun k hk => ⟨Nat.le_trans hB (hrw k hk), Nat.lt_of_lt_of_le (hlt k hk) ht6.size, hne k hk⟩⟩, (ht5.mono (by simp)).trans ht6 (fun b hb => .inl hb), hrw⟩
theorem flat_init (f : Fd) (t : List Fd) : List.take (t.length * 3) (flat (f :: t).reverse) = flat t.reverse := by
  rw [flat_take]
  congr 1
  simp

set_option maxHeartbeats 1000000 in
set_option maxRecDepth 100000 in
theorem rcut_any (B g : Nat) (most : Int) (A : Option Addr) (n c : Nat) (l : List Fd) (w : World) (h : RTab w B g most A n c l) (ht : total l ≤ 1099511627776) (hn : n ≤ 1099511627776) (hB : B ≤ w.heap.size) (hm : 0 ≤ most) :
    Calls Tryd.prog 49 #[.pointer (some ⟨g, 0, none⟩)] w (RTPost (.tuple #[]) B (g :: (Value.slice A n c).ownBlock.toList) g most (shr most l) w) := by
  have H := hid h
  have HT := hid ht
  have hlen := h.len
  obtain ⟨i0, hi0, hz0, hz1, hz2⟩ := fd_parts
  have hi := hid hi0
  have hz := hid hz0
  have hsz := hid hz1
  have hby := hid hz2
  clear hi0 hz0 hz1 hz2 h ht
  go_enter Tryd.func49, Tryd.ntmps49
  go_wp2_with fail
  go_loopw [] (fun wr => ∃ (A' : Option Addr) (m c' : Nat) (l' : List Fd), m ≤ n ∧ RTab wr B g most A' m c' l' ∧ shr most l' = shr most l ∧ total l' ≤ total l ∧ Turned [g] w wr ∧ (∀ k, (Value.slice A' m c').ownBlock = some k → (Value.slice A n c).ownBlock = some k ∨ w.heap.size ≤ k)) (fun wr => match wr.cell? ⟨g, 1, none⟩ with | some (.slice _ m _) => m | _ => 0)
  case atStart => exact ⟨A, n, c, l, Nat.le_refl _, H.out, rfl, Nat.le_refl _, Turned.refl _ _, fun k hk => .inl hk⟩
  case round =>
    obtain ⟨A', m, c', l', hmn, hR, hs, htl, htw, hk⟩ := hrel
    have HR := hid hR
    have HTW := hid htw
    have HK := hid hk
    have HS := hid hs
    have hlm := hR.len
    have htl2 : total l' ≤ 1099511627776 := Nat.le_trans htl HT.out
    have c0 := hR.blk.cell 0
    have c1 := hR.blk.cell 1
    simp at c0 c1
    have L0 : Hid (∀ w', Below wr.heap.size wr w' → (Instr.loadAt 3 (.pointer (some ⟨g, 0, none⟩))).run Tryd.prog w' = .ok (.int .i64 most) w') := hid fun w' hw => by
      have q := below_keep hw _ _ c0
      go_simp
    have L1 : Hid (∀ w', Below wr.heap.size wr w' → (Instr.loadAt 33 (.pointer (some ⟨g, 1, none⟩))).run Tryd.prog w' = .ok (.slice A' m c') w') := hid fun w' hw => by
      have q := below_keep hw _ _ c1
      go_simp
    have HM := hid c1
    clear c0 c1 hR htw hk hs
    have HSB := hid (show Below wr.heap.size wr wr.drew from (Below.refl _ _).drew)
    go_wp2_with fail
    by_cases hgt : most < (total l' : Nat)
    · (refine wp_mixC (Below wr.heap.size wr) ?_ ?_ (HSB.out) ?_; (focus kernel_rfl); (focus kernel_rfl); intro KK hKK; go_wp2_with (first
                                              | (first
        | ((with_reducible refine mixS_load L0.out ?_ ?_ ?_); (focus rfl); (focus rfl))
        | ((with_reducible refine mixS_load L1.out ?_ ?_ ?_); (focus rfl); (focus rfl))
        | (go_at_call 64; go_must (refine (drtotal_any A' m c' _ _ (HR.out.fs.below HSB.out) (by rw [total_rev]; omega) (by omega)).mono ?_; rw [total_rev]; rintro e w12 ⟨rfl, hb12⟩; have HSB := hid (HSB.out.trans (hb12.mono HSB.out.size)); clear hb12))
        | ((with_reducible refine And.intro ?_ ?_); (focus (exact HSB.out))))
                                              | (with_reducible refine mix_nil ?_)
                                              | ((with_reducible refine mixS_on ?_ ?_); (focus rfl); intro K K' hK hK'; go_simp; (first | ((with_reducible refine hK _ _ ?_); clear hK hK' K K') | ((with_reducible refine hK' _ _ ?_); clear hK hK' K K') | skip))
                                              | ((with_reducible refine mixS_off ?_ ?_); (focus rfl); intro K hK; go_simp; (first | ((with_reducible refine hK _ _ ?_); clear hK K) | skip))
                                              | ((with_reducible refine mixS_step ?_); intro K K' hK hK'; go_simp; (first | ((with_reducible refine hK _ _ ?_); clear hK hK' K K') | ((with_reducible refine hK' _ _ ?_); clear hK hK' K K') | skip))))
      obtain ⟨f, t, rfl⟩ : ∃ f t, l' = f :: t := by
        cases l' with
        | nil => simp [total] at hgt; omega
        | cons f t => exact ⟨f, t, rfl⟩
      have hmt : m = t.length + 1 := by simpa using hlm.symm
      subst hmt
      have HR2 := hid (HR.out.below HSB.out)
      have HTW2 := hid (HTW.out.trans (Turned.of_below (F := [g]) HSB.out) (fun q hq => .inl hq))
      have hwz := HSB.out.size
      clear HSB L0 L1 HR HTW
      have c1 := HR2.out.blk.cell 1
      simp at c1
      have ga1 := below_keep ((Below.refl w12.heap.size w12).alloc (Nat.le_refl _) (.cells #[] 23)) _ _ c1
      have HOL := hid (World.ownsRow_lit (base := w12.heap.size) (e := 23) (size := 3) w12 #[] 0 (Nat.le_refl _) (by decide) rfl)
      have HRS := hid (Rd.take (k := t.length) (HR2.out.fs) (by omega))
      have hci : (t.length : Int) ≤ c' := by have := HR2.out.cap; omega
      have hw1 := IntWalk.i64_in (t.length : Int) (by omega)
      have hgl := HR2.out.blk.lt
      have hb0 : Below w12.heap.size w12 w12 := Below.refl _ _
      have hs0 : w12.heap.size ≤ w12.heap.size := Nat.le_refl _
      go_region_law (first
        | (refine at_app ?_; go_loud (refine stepL_app w12.heap.size 23 i0 _ 3 40 Tryd.underlying33 hi.out hz.out hsz.out hby.out rfl (by decide) _ 0 _ (own_below HOL.out ?_) A' t.length c' _ (Rd.below HRS.out ?_) ?_ ?_ ?_ ?_ ?_ ?_ ?_; (focus (first | exact (Below.refl _ _).drew | exact Below.refl _ _ | (go_grown; done))); (focus (go_grown; done)); (focus rfl); (focus rfl); (focus (exact fun u hu => flat_one _ u (List.mem_of_mem_take hu))); (focus omega); (focus omega); (focus go_size); intro A5 c5 w5 hown5 hg5 hat5; refine (have hkg : Blk w5 g 71 #[.int .i64 most, .slice A' (t.length + 1) c'] := ?_; ?_); (focus (refine Blk.grown (HR2.out.blk.below ?_ HR2.out.blk.lt) hg5 (by intro e; have e2 : some g = some w12.heap.size := e; injection e2 with e2; omega); (go_grown; done))); have z1 := hkg.cell 1; have zf1 := hkg.frozen 1; simp at z1)))
      all_goals
        obtain ⟨hr6, ht6, hk6⟩ := fresh_end hkg HR2.out.base hgl (by have := HTW2.out.size; omega) (by (go_grown; done)) hown5 (by rw [List.nil_append]; exact flat_init f t) hg5 (fun k hk => by have e2 : some w12.heap.size = some k := hk; injection e2 with e2; omega)
        have HR6 := hid hr6
        have HT6 := hid (HTW2.out.trans ht6 (fun q hq => .inl hq))
        have HK6 := hid hk6
        have hcl := hr6.blk.cell 1
        simp at hcl
        have HCL := hid hcl
        clear hown5 hg5 hat5 hkg z1 zf1 hr6 ht6 hk6 hcl
        go_wp2_with fail
        go_roundw
        case rel => exact ⟨A5, t.length, c5, t, by omega, by have := HR6.out; simp only [Nat.zero_add] at this; exact this, by rw [← HS.out, shr_step hgt], by rw [total_cons] at htl; omega, by have := HT6.out; simp only [Nat.zero_add] at this; exact this, fun k hk => .inr (Nat.le_trans HTW2.out.size (HK6.out k (by rw [Nat.zero_add]; exact hk)))⟩
        case measure =>
          have e1 := HCL.out
          try simp only [Nat.zero_add] at e1
          rw [HM.out]
          first | rw [e1] | (simp only [Nat.zero_add]; rw [e1])
          simp
    · have hng : ((total l' : Nat) : Int) ≤ most := by omega
      (refine wp_mixC (Below wr.heap.size wr) ?_ ?_ (HSB.out) ?_; (focus kernel_rfl); (focus kernel_rfl); intro KK hKK; go_wp2_with (first
                                              | (first
        | ((with_reducible refine mixS_load L0.out ?_ ?_ ?_); (focus rfl); (focus rfl))
        | ((with_reducible refine mixS_load L1.out ?_ ?_ ?_); (focus rfl); (focus rfl))
        | (go_at_call 64; go_must (refine (drtotal_any A' m c' _ _ (HR.out.fs.below HSB.out) (by rw [total_rev]; omega) (by omega)).mono ?_; rw [total_rev]; rintro e w12 ⟨rfl, hb12⟩; have HSB := hid (HSB.out.trans (hb12.mono HSB.out.size)); clear hb12))
        | ((with_reducible refine And.intro ?_ ?_); (focus (exact HSB.out))))
                                              | (with_reducible refine mix_nil ?_)
                                              | ((with_reducible refine mixS_on ?_ ?_); (focus rfl); intro K K' hK hK'; go_simp; (first | ((with_reducible refine hK _ _ ?_); clear hK hK' K K') | ((with_reducible refine hK' _ _ ?_); clear hK hK' K K') | skip))
                                              | ((with_reducible refine mixS_off ?_ ?_); (focus rfl); intro K hK; go_simp; (first | ((with_reducible refine hK _ _ ?_); clear hK K) | skip))
                                              | ((with_reducible refine mixS_step ?_); intro K K' hK hK'; go_simp; (first | ((with_reducible refine hK _ _ ?_); clear hK hK' K K') | ((with_reducible refine hK' _ _ ?_); clear hK hK' K K') | skip))))
      go_end0
      have HR2 := HR.out.below HSB.out
      refine ⟨_, rfl, ⟨A', m, c', by rw [← HS.out, shr_not (by omega)]; exact HR2, rfl⟩, HTW.out.trans (Turned.of_below (F := [g]) HSB.out) (fun q hq => .inl hq), fun k hk => ?_⟩
      rcases List.mem_cons.1 hk with rfl | hk
      · exact .inl (by simp)
      · rcases HK.out k (by simpa using hk) with h3 | h3
        · exact .inl (by simp [h3])
        · exact .inr h3
theorem cut_rt {B g : Nat} {G : List Nat} {most : Int} {l : List Fd} {w : World} (h : RT w B G g most l) (ht : total l ≤ 1099511627776) (hn : l.length ≤ 1099511627776) (hB : B ≤ w.heap.size) (hm : 0 ≤ most) :
    Calls Tryd.prog 49 #[.pointer (some ⟨g, 0, none⟩)] w (RTPost (.tuple #[]) B G g most (shr most l) w) := by
  obtain ⟨A, n, c, h, rfl⟩ := h
  exact rcut_any B g most A n c l w h ht (by have := h.len; omega) hB hm

def RNew (m : Int) (w : World) (e : Ending) (w' : World) : Prop :=
  if m < 0 ∨ 4096 < m then e = .returned (.tuple #[.pointer none, .int .i64 1]) ∧ w = w'
  else ∃ G, e = .returned (.tuple #[.pointer (some ⟨w.heap.size, 0, none⟩), .int .i64 0]) ∧ RT w' w.heap.size G w.heap.size m [] ∧ Below w.heap.size w w'
set_option maxHeartbeats 400000 in
set_option maxRecDepth 100000 in
theorem rnew_any (m : Int) (w : World) : Calls Tryd.prog 32 #[.int .i64 m] w (RNew m w) := by
  have HP : Hid (∀ e w', (if m < 0 ∨ 4096 < m then e = .returned (.tuple #[.pointer none, .int .i64 1]) ∧ w = w'
  else ∃ G, e = .returned (.tuple #[.pointer (some ⟨w.heap.size, 0, none⟩), .int .i64 0]) ∧ RT w' w.heap.size G w.heap.size m [] ∧ Below w.heap.size w w') → RNew m w e w') := hid fun e w' h => h
  go_enter Tryd.func32, Tryd.ntmps32
  have hc : m < 0 ∨ (0 ≤ m ∧ 4096 < m) ∨ (0 ≤ m ∧ m ≤ 4096) := by omega
  rcases hc with h1 | ⟨h1, h2⟩ | ⟨h1, h2⟩
  · have HX := hid (show m < 0 ∨ 4096 < m from .inl h1)
    go_wp2_with fail
    go_ret2
    refine HP.out _ _ ?_
    rw [if_pos HX.out]
    exact ⟨rfl, rfl⟩
  · have HX := hid (show m < 0 ∨ 4096 < m from .inr h2)
    go_wp2_with fail
    go_ret2
    refine HP.out _ _ ?_
    rw [if_pos HX.out]
    exact ⟨rfl, rfl⟩
  · have HX := hid (show ¬ (m < 0 ∨ 4096 < m) by omega)
    go_wp2_with fail
    go_ret2
    refine HP.out _ _ ?_
    rw [if_neg HX.out]
    exact ⟨_, rfl, ⟨none, 0, 0, ⟨Blk.new w _ _, Rd.nil _ _ _, Nat.le_refl _, Nat.le_refl _, fun k hk => by cases hk⟩, rfl⟩, (Below.refl _ _).alloc (Nat.le_refl _) _⟩

/-- What Limit leaves. -/
def RLim (m : Int) (B : Nat) (G : List Nat) (g : Nat) (most : Int) (l : List Fd) (w : World) (e : Ending) (w' : World) : Prop :=
  if m < 0 ∨ 4096 < m then e = .returned (.int .i64 1) ∧ w = w' else RTPost (.int .i64 0) B G g m (shr m l) w e w'
set_option maxHeartbeats 400000 in
set_option maxRecDepth 100000 in
theorem rlimit_any {B g : Nat} {G : List Nat} {most : Int} {l : List Fd} {w : World} (m : Int) (h : RT w B G g most l) (ht : total l ≤ 1099511627776) (hn : l.length ≤ 1099511627776) (hB : B ≤ w.heap.size) :
    Calls Tryd.prog 34 #[.pointer (some ⟨g, 0, none⟩), .int .i64 m] w (RLim m B G g most l w) := by
  have HP : Hid (∀ e w', (if m < 0 ∨ 4096 < m then e = .returned (.int .i64 1) ∧ w = w' else RTPost (.int .i64 0) B G g m (shr m l) w e w') → RLim m B G g most l w e w') := hid fun e w' h => h
  obtain ⟨A, n, c, h, rfl⟩ := h
  have H := hid h
  have k0 := h.blk.cell 0
  have kf := h.blk.frozen 0
  simp at k0
  clear h
  go_enter Tryd.func34, Tryd.ntmps34
  have hc : m < 0 ∨ (0 ≤ m ∧ 4096 < m) ∨ (0 ≤ m ∧ m ≤ 4096) := by omega
  rcases hc with h1 | ⟨h1, h2⟩ | ⟨h1, h2⟩
  · have HX := hid (show m < 0 ∨ 4096 < m from .inl h1)
    go_wp2_with fail
    go_ret
    refine HP.out _ _ ?_
    rw [if_pos HX.out]
    exact ⟨rfl, rfl⟩
  · have HX := hid (show m < 0 ∨ 4096 < m from .inr h2)
    go_wp2_with fail
    go_ret
    refine HP.out _ _ ?_
    rw [if_pos HX.out]
    exact ⟨rfl, rfl⟩
  · have HX := hid (show ¬ (m < 0 ∨ 4096 < m) by omega)
    go_wp2_with fail
    have ht1 : Turned [g] w (w.setCell ⟨g, 0, none⟩ (.int .i64 m)) := (Turned.refl _ _).setCell (by simp) _
    have hr1 : RTab (w.setCell ⟨g, 0, none⟩ (.int .i64 m)) B g m A n c l :=
      ⟨by simpa using H.out.blk.set_ 0 (.int .i64 m), Rd.turned H.out.fs ht1 (fun ad e hm => (H.out.row ad.block (by rw [e]; rfl)).2.2 (List.mem_singleton.1 hm)), H.out.cap, H.out.base, fun k hk => ⟨(H.out.row k hk).1, Nat.lt_of_lt_of_le (H.out.row k hk).2.1 ht1.size, (H.out.row k hk).2.2⟩⟩
    have HR1 := hid hr1
    have HT1 := hid ht1
    clear k0 kf hr1 ht1
    generalize w.setCell ⟨g, 0, none⟩ (.int .i64 m) = w1 at HR1 HT1 ⊢
    refine (cut_rt ⟨A, n, c, HR1.out, rfl⟩ ht hn (by have := HT1.out.size; omega) (by omega)).mono ?_
    rintro e w2 ⟨G', rfl, hr2, ht2, hk2⟩
    have HR2 := hid hr2
    have HT2 := hid (HT1.out.trans ht2 (fun q hq => .inl hq))
    have HK2 := hid hk2
    clear hr2 ht2 hk2
    go_wp2_with fail
    go_ret
    refine HP.out _ _ ?_
    rw [if_neg HX.out]
    exact ⟨G', rfl, HR2.out, HT2.out, fun k hk => (HK2.out k hk).imp id (fun h => Nat.le_trans HT1.out.size h)⟩

set_option maxHeartbeats 1000000 in
set_option maxRecDepth 100000 in
theorem rtfind_any (nm vl : ByteArray) {B g : Nat} {G : List Nat} {most : Int} {l : List Fd} {w : World} (h : RT w B G g most l) (hn : l.length ≤ 1099511627776) :
    Calls Tryd.prog 51 #[.pointer (some ⟨g, 0, none⟩), .string nm, .string vl] w fun e w' => e = .returned (.tuple #[.int .i64 ((findK l nm vl l.length).1 : Nat), .int .i64 ((findK l nm vl l.length).2 : Nat)]) ∧ Below w.heap.size w w' := by
  obtain ⟨A, n, c, h, rfl⟩ := h
  have H := hid h
  have hlen := h.len
  have H1 := hid (show w.cell? ⟨g, 1, none⟩ = some (.slice A n c) from h.blk.cell 1)
  have h1 := H1.out
  clear h
  go_enter Tryd.func51, Tryd.ntmps51
  go_wp2_with fail
  go_loopw [8, 9, 10] (fun x y i wr => ∃ k : Nat, k ≤ n ∧ i = .int .i64 k ∧ x = .int .i64 ((findK l nm vl (n - k)).1 : Nat) ∧ y = .int .i64 ((findK l nm vl (n - k)).2 : Nat) ∧ Below w.heap.size w wr) (fun _ _ i _ => (intOf i).toNat)
  case atStart => exact ⟨n, Nat.le_refl _, rfl, by rw [Nat.sub_self]; rfl, by rw [Nat.sub_self]; rfl, Below.refl _ _⟩
  case round =>
    obtain ⟨k, hk, rfl, rfl, rfl, hb⟩ := hrel
    have HB := hid hb
    clear h1
    by_cases hk0 : 0 < k
    · obtain ⟨b, o, f, rfl, hf, f0, f1, f2⟩ := Fs.at_ (w := wr) (H.out.fs.below hb) (i := k - 1) (by omega)
      have c1 := below_keep hb _ _ H1.out
      have hf2 : l[n - k]? = some f := by
        rw [List.getElem?_reverse (by omega)] at hf
        rw [← hf]
        congr 1
        omega
      have HF := hid (findK_some (nm := nm) (vl := vl) hf2)
      rw [hlen, show n - (n - k) = k by omega, show n - k + 1 = n - (k - 1) by omega] at HF
      have hsub : (k : Int) - 1 = ((k - 1 : Nat) : Int) := by omega
      obtain ⟨d, hd⟩ : ∃ d, k - 1 = d := ⟨_, rfl⟩
      rw [hd] at hf f0 f1 f2 hsub HF
      have hdn : (d : Int) < n := by omega
      have hd0 : (0 : Int) ≤ d := by omega
      have hw1 := IntWalk.i64_in (d : Int) (by omega)
      clear hf hf2 hb
      go_wp2_with fail
      · have a1 : (f.n.toList == nm.toList) = true := by assumption
        have a2 : (f.v.toList == vl.toList) = true := by assumption
        rw [a1, a2] at HF
        go_roundw
        case rel => exact ⟨d, by omega, rfl, by rw [HF.out]; rfl, by rw [HF.out]; rfl, HB.out⟩
        case measure => simp [intOf]; omega
      · have a1 : (f.n.toList == nm.toList) = true := by assumption
        have a2 : (f.v.toList == vl.toList) = false := by assumption
        rw [a1, a2] at HF
        go_roundw
        case rel => exact ⟨d, by omega, rfl, by rw [HF.out]; rfl, by rw [HF.out]; rfl, HB.out⟩
        case measure => simp [intOf]; omega
      · have a1 : (f.n.toList == nm.toList) = false := by assumption
        rw [a1] at HF
        go_roundw
        case rel => exact ⟨d, by omega, rfl, by rw [HF.out]; rfl, by rw [HF.out]; rfl, HB.out⟩
        case measure => simp [intOf]; omega
    · obtain rfl : k = 0 := by omega
      clear hb
      go_wp2_with fail
      go_ret2
      exact ⟨by rw [hlen]; rfl, HB.out⟩

end Go.Proofs.YtjeocmglcgnclaaDoor

/- The reference's table: Add. Conditions: at most 2^39 bytes in all. -/
namespace Go.Proofs.YtjeocmglcgnclaaDoor
open Go.RowKit
attribute [local go_sem] kd kdS

theorem total_one (f : Fd) : total [(⟨f.n, f.v, false⟩ : Fd)] = f.size := by simp [total, Fd.size]
theorem addL_shr {m : Int} (l : List Fd) (f : Fd) (hm : 0 ≤ m) : shr m (l ++ [⟨f.n, f.v, false⟩]) = addL m l f := by
  unfold addL
  by_cases h : (f.size : Int) ≤ m
  · rw [if_pos h]
    induction l with
    | nil =>
      show shr m [_] = [] ++ _
      unfold shr
      rw [total_one, if_neg (by omega)]
      rfl
    | cons g l ih =>
      rw [List.cons_append]
      unfold shr
      rw [total_cons, total_append, total_one, total_cons]
      by_cases h2 : m < ((g.size + (total l + f.size) : Nat) : Int)
      · rw [if_pos h2, if_pos (by omega)]
        exact ih
      · rw [if_neg h2, if_neg (by omega)]
        rfl
  · rw [if_neg h, shr_below (m := m - f.size) (by omega)]
    induction l with
    | nil =>
      show shr m [_] = []
      unfold shr
      rw [total_one, if_pos (by omega)]
      rfl
    | cons g l ih =>
      rw [List.cons_append]
      unfold shr
      rw [total_cons, total_append, total_one, if_pos (by omega)]
      exact ih

set_option maxHeartbeats 2000000 in
set_option maxRecDepth 100000 in
theorem radd_any (f : Fd) {B g : Nat} {G : List Nat} {most : Int} {l : List Fd} {w : World} (h : RT w B G g most l) (ht : total l ≤ 549755813888) (hf : f.size ≤ 549755813888) (hn : l.length ≤ 549755813888) (hB : B ≤ w.heap.size) (hm : 0 ≤ most) :
    Calls Tryd.prog 53 #[.pointer (some ⟨g, 0, none⟩), f.val] w (RTPost (.tuple #[]) B G g most (addL most l f) w) := by
  obtain ⟨A, n, c, h, rfl⟩ := h
  have H := hid h
  have hlen := h.len
  obtain ⟨i0, hi0, hz0, hz1, hz2⟩ := fd_parts
  have hi := hid hi0
  have hz := hid hz0
  have hsz := hid hz1
  have hby := hid hz2
  clear hi0 hz0 hz1 hz2 h
  go_enter Tryd.func53, Tryd.ntmps53
  go_upto_region 1 with fail
  obtain ⟨wa, hwa⟩ : ∃ wa, w.alloc (.cells #[.string f.n, .string f.v, .bool f.x] 23) = wa := ⟨_, rfl⟩
  have hFa : Blk wa w.heap.size 23 #[.string f.n, .string f.v, .bool f.x] := by rw [← hwa]; exact Blk.new w _ _
  have hba : Below w.heap.size w wa := by rw [← hwa]; exact (Below.refl _ _).alloc (Nat.le_refl _) _
  rw [hwa]
  have HF := hid hFa
  have HB := hid hba
  have b2 := hFa.cell 2
  have bf2 := hFa.frozen 2
  simp at b2
  clear hFa hba hwa
  go_upto_region 2 with fail
  have HF4 := hid (show Blk (wa.setCell ⟨w.heap.size, 2, none⟩ (.bool false)) w.heap.size 23 #[.string f.n, .string f.v, .bool false] from by simpa using HF.out.set_ 2 (.bool false))
  have HB4 := hid (HB.out.setCell (p := ⟨w.heap.size, 2, none⟩) (Nat.le_refl _) (.bool false))
  have H4 := hid (H.out.below HB4.out)
  clear b2 bf2 HF HB
  generalize wa.setCell ⟨w.heap.size, 2, none⟩ (.bool false) = w4 at HF4 HB4 H4 ⊢
  have b0 := HF4.out.cell 0
  have b1 := HF4.out.cell 1
  have b2 := HF4.out.cell 2
  have c1 := H4.out.blk.cell 1
  simp at b0 b1 b2 c1
  have ga1 := below_keep ((Below.refl w4.heap.size w4).alloc (Nat.le_refl _) (.cells #[.string f.n, .string f.v, .bool false] 23)) _ _ c1
  have HOL := hid (World.ownsRow_lit (base := w4.heap.size) (e := 23) (size := 3) w4 #[.string f.n, .string f.v, .bool false] 1 (Nat.le_refl _) (by decide) rfl)
  have hgl := H4.out.blk.lt
  have hb0 : Below w4.heap.size w4 w4 := Below.refl _ _
  have hs0 : w4.heap.size ≤ w4.heap.size := Nat.le_refl _
  go_wp2_with fail
  go_region_law (first
    | (refine at_app ?_; go_loud (refine stepL_app w4.heap.size 23 i0 _ 3 40 Tryd.underlying33 hi.out hz.out hsz.out hby.out rfl (by decide) _ 1 _ (own_below HOL.out ?_) A n c _ (Rd.below H4.out.fs ?_) ?_ ?_ ?_ ?_ ?_ ?_ ?_; (focus (first | exact (Below.refl _ _).drew | exact Below.refl _ _ | (go_grown; done))); (focus (go_grown; done)); (focus rfl); (focus rfl); (focus (exact flat_one _)); (focus omega); (focus omega); (focus go_size); intro A5 c5 w5 hown5 hg5 hat5; refine (have hkg : Blk w5 g 71 #[.int .i64 most, .slice A n c] := ?_; ?_); (focus (refine Blk.grown (H4.out.blk.below ?_ H4.out.blk.lt) hg5 (by intro e; have e2 : some g = some w4.heap.size := e; injection e2 with e2; omega); (go_grown; done))); have z1 := hkg.cell 1; have zf1 := hkg.frozen 1; simp at z1)))
  all_goals
    obtain ⟨hr6, ht6, hk6⟩ := fresh_end (l := l ++ [⟨f.n, f.v, false⟩]) hkg H4.out.base hgl (by have := HB4.out.size; omega) (by (go_grown; done)) hown5 (by rw [List.reverse_append]; rfl) hg5 (fun k hk => by have e2 : some w4.heap.size = some k := hk; injection e2 with e2; omega)
    have HR6 := hid hr6
    have HT6 := hid ((Turned.of_below (F := [g]) HB4.out).trans ht6 (fun q hq => .inl hq))
    have HK6 := hid hk6
    clear hown5 hg5 hat5 hkg z1 zf1 hr6 ht6 hk6 ga1 b0 b1 b2 c1
    go_upto_region 3 with fail
    generalize w5.setCell ⟨g, 1, none⟩ (.slice A5 (1 + n) c5) = w6 at HR6 HT6 ⊢
    go_wp2_with fail
    refine (cut_rt ⟨A5, 1 + n, c5, HR6.out, rfl⟩ (by rw [total_append, total_one]; omega) (by simp; omega) (by have := HT6.out.size; omega) hm).mono ?_
    rintro e w7 ⟨G', rfl, hr7, ht7, hk7⟩
    rw [addL_shr l f hm] at hr7
    have HR7 := hid hr7
    have HT7 := hid (HT6.out.trans ht7 (fun q hq => .inl hq))
    have HK7 := hid hk7
    clear hr7 ht7 hk7
    go_wp2_with fail
    go_end0
    refine ⟨G', rfl, HR7.out, HT7.out, fun k hk => ?_⟩
    have hwz := HB4.out.size
    rcases HK7.out k hk with h3 | h3
    · rcases List.mem_cons.1 h3 with rfl | h3
      · exact .inl (by simp)
      · exact .inr (Nat.le_trans hwz (HK6.out k (by simpa using h3)))
    · exact .inr (Nat.le_trans HT6.out.size h3)
end Go.Proofs.YtjeocmglcgnclaaDoor
