/- All codes: what codes and Code answer. No condition. -/
import Derived.Test.YtimklfdofldhaaaHuffOpen
import Derived.Deep.RegionWith
namespace Go.Proofs.Ytimklfdofldhaaa
open Go.RowKit
attribute [local go_sem] kd kdS

theorem ord_len : (ordB 26).length = 257 := by decide +kernel
theorem hl_top : ∀ s, s < 257 → hl s ≤ 30 := by decide +kernel
theorem ord_at : ∀ i, i < 257 → (ordB 26).getD i 0 < 257 ∧ (ordB 26).idxOf ((ordB 26).getD i 0) = i := by decide +kernel
theorem ord_has : ∀ s, s < 257 → (ordB 26).idxOf s < 257 := by decide +kernel
/-- A sign's code. -/
def codeN (s : Nat) : Nat := firstC (hl s - 5) + (ordB 26).idxOf s - (ordB (hl s - 5)).length
theorem code_ge : ∀ s, s < 257 → (ordB (hl s - 5)).length ≤ firstC (hl s - 5) + (ordB 26).idxOf s ∧ codeN s < 2 ^ hl s := by decide +kernel
def cellsF (f : Nat → Int) : Array Value := ((List.range 257).map fun s => Value.int .i64 (f s)).toArray
theorem cellsF_at {f : Nat → Int} {j : Nat} (h : j < 257) : (cellsF f)[j]? = some (.int .i64 (f j)) := by
  unfold cellsF
  simp [List.getElem?_map, List.getElem?_range h]
theorem cellsF_set {f : Nat → Int} {j : Nat} {x : Int} : (cellsF f).setIfInBounds j (.int .i64 x) = cellsF (upd f j x) := by
  unfold cellsF
  rw [List.setIfInBounds_toArray, map_upd]
/-- The codes of the first i signs in order. -/
def cK (i : Nat) : Nat → Int := fun s => if (ordB 26).idxOf s < i then (codeN s : Int) else 0
theorem cK_zero : cellsF (cK 0) = (List.replicate 257 (Value.int .i64 0)).toArray := by
  unfold cellsF cK
  refine congrArg List.toArray (List.ext_getElem? fun i => ?_)
  rw [List.getElem?_map, List.getElem?_replicate]
  by_cases h : i < 257
  · rw [List.getElem?_range h, if_pos h]
    rfl
  · rw [if_neg h, List.getElem?_eq_none (by rw [List.length_range]; omega)]
    rfl
theorem cK_succ {i : Nat} (hi : i < 257) : upd (cK i) ((ordB 26).getD i 0) (codeN ((ordB 26).getD i 0)) = cK (i + 1) := by
  obtain ⟨h1, h2⟩ := ord_at i hi
  funext s
  unfold upd cK
  by_cases h : s = (ordB 26).getD i 0
  · subst h
    rw [if_pos rfl, if_pos (by omega)]
  · rw [if_neg h]
    by_cases h3 : (ordB 26).idxOf s < i
    · rw [if_pos h3, if_pos (by omega)]
    · rw [if_neg h3, if_neg]
      intro h4
      have h5 : (ordB 26).idxOf s = i := by omega
      apply h
      have hlt : (ordB 26).idxOf s < (ordB 26).length := by rw [ord_len]; omega
      rw [← h5, List.getD_eq_getElem?_getD, List.getElem?_eq_getElem hlt, Option.getD_some, List.getElem_idxOf hlt]
theorem cK_all : (List.range 257).map (fun s => Value.int .i64 (cK 257 s)) = (List.range 257).map fun s => Value.int .i64 (codeN s) := by
  apply List.map_congr_left
  intro s hs
  unfold cK
  rw [if_pos (ord_has s (by simpa using hs))]
theorem codes_make : ∀ w, (Instr.makeSlice 34 (.int .i64 257) (.int .i64 257)).run Try.prog w = .ok (.slice (some ⟨w.heap.size, 0, none⟩) 257 257) (w.alloc (.cells (List.replicate 257 (Value.int .i64 0)).toArray 3)) := fun _ => by kernel_rfl
/-- The codes lie at A. -/
def Cods (w : World) (A : Option Addr) : Prop := Rd w 1 A 257 ((List.range 257).map fun s => Value.int .i64 (codeN s))

set_option maxHeartbeats 2000000 in
set_option maxRecDepth 100000 in
theorem codes_any (g : Nat) (A : Option Addr) (c : Nat) (w : World) (h : BookAt w g (fK 26) (mK 26) (pK 26) A c (ordB 26)) :
    Calls Try.prog 20 #[.pointer (some ⟨g, 0, none⟩)] w fun e w' => ∃ A2, e = .returned (.slice A2 257 257) ∧ Cods w' A2 ∧ Below w.heap.size w w' := by
  have H := hid h
  have c93 := h.blk.cell 93
  rw [vals_o, ord_len] at c93
  have hmk := codes_make
  rw [← cK_zero] at hmk
  generalize hva : cellsF (cK 0) = va at hmk
  clear h
  go_enter Try.func20, Try.ntmps20
  go_upto_region 2 with fail
  subst hva
  have hblk : Blk (w.alloc (.cells (cellsF (cK 0)) 3)) w.heap.size 3 (cellsF (cK 0)) := Blk.new w _ _
  have hbw : Below w.heap.size w (w.alloc (.cells (cellsF (cK 0)) 3)) := (Below.refl _ _).alloc (Nat.le_refl _) _
  have hgl := H.out.blk.lt
  generalize w.alloc (.cells (cellsF (cK 0)) 3) = W at hblk hbw ⊢
  have HBK := hid hblk
  have HBW := hid hbw
  have HW := hid (H.out.below hbw)
  have c93 := HW.out.blk.cell 93
  rw [vals_o, ord_len] at c93
  clear hmk hblk hbw
  generalize hq : w.heap.size = q at HBK HBW hgl ⊢
  have HQ := hid hq
  clear hq
  go_wp2_with fail
  go_loopw [18] (fun co wr => ∃ k : Nat, k ≤ 257 ∧ co = .int .i64 (k : Int) ∧ Blk wr q 3 (cellsF (cK k)) ∧ Below q w wr) (fun co _ => 257 - (intOf co).toNat)
  case atStart => exact ⟨0, by omega, rfl, HBK.out, HBW.out⟩
  case round =>
    obtain ⟨k, hk, rfl, hbk, hb⟩ := hrel
    have HK := hid hbk
    have HB := hid hb
    clear hbk hb HBK HBW
    by_cases hk7 : k < 257
    · obtain ⟨hs7, hix⟩ := ord_at k hk7
      have HSU := hid (cK_succ hk7)
      have hBk : BookAt wr g (fK 26) (mK 26) (pK 26) A c (ordB 26) := H.out.below (by rw [HQ.out]; exact HB.out)
      have hrd := Rd.of_own hBk.own
      rw [ord_len] at hrd
      obtain ⟨bo, oo, rfl, hcell⟩ := hrd.2 (by omega)
      have hc1 : wr.cell? ⟨bo, oo + k, none⟩ = some (.int .i64 (((ordB 26).getD k 0 : Nat) : Int)) := by
        apply hcell
        unfold ints
        rw [List.getElem?_map, List.getD_eq_getElem?_getD, List.getElem?_eq_getElem (by rw [ord_len]; exact hk7)]
        rfl
      generalize (ordB 26).getD k 0 = s at hs7 hix HSU hc1
      have h5 := hl_le s
      have h30 := hl_top s hs7
      have hcg := code_ge s hs7
      have hp30 : 2 ^ hl s ≤ 2 ^ 30 := Nat.pow_le_pow_right (by omega) h30
      have cf := hBk.blk.cell (hl s)
      have cp := hBk.blk.cell (62 + hl s)
      rw [vals_f (by omega), show fK 26 (hl s) = (firstC (hl s - 5) : Int) from if_pos (by omega)] at cf
      rw [vals_p (by omega), show pK 26 (hl s) = ((ordB (hl s - 5)).length : Int) from if_pos (by omega)] at cp
      have cq := HK.out.cell s
      rw [cellsF_at hs7] at cq
      have fq := HK.out.frozen s
      have hfc := first_all (hl s - 5) (by omega)
      have hcn : ((firstC (hl s - 5) : Nat) : Int) + (k : Int) - ((ordB (hl s - 5)).length : Int) = (codeN s : Int) := by
        unfold codeN at hcg ⊢
        rw [hix] at hcg ⊢
        omega
      have hs2 : 2 ^ 30 = 1073741824 := by decide
      have hcl : codeN s < 1073741824 := by omega
      clear hcg hp30 hix hBk hrd hcell
      have HCN := hid hcn
      generalize hfe : firstC (hl s - 5) = F at cf hfc hcn
      generalize hpe : (ordB (hl s - 5)).length = PL at cp hcn
      generalize hce : codeN s = CN at HSU hcn hcl
      clear HCN hfe hpe hce
      generalize hnn : hl s = n at cf cp h5 h30
      have HN := hid hnn
      clear hnn
      have hw1 : IntKind.i64.wrap ((F : Int) + (k : Int)) = (F : Int) + (k : Int) := IntWalk.i64_in _ (by omega)
      have hw2 : IntKind.i64.wrap ((F : Int) + (k : Int) - (PL : Int)) = (CN : Int) := by rw [hcn]; exact IntWalk.i64_in _ (by omega)
      go_wp2_with (go_at_call 21; go_must (refine (bitsOf_any s wr hs7).mono ?_; rw [HN.out]; rintro e w2 ⟨rfl, rfl⟩))
      (refine wp_mix ?_ ?_ ?_; (focus kernel_rfl); (focus kernel_rfl); intro KK hKK; go_wp2_with (first
            | (fail)
            | (with_reducible refine mix_nil ?_)
            | ((with_reducible refine mix_on ?_ ?_); (focus rfl); intro K hK; go_simp; (first | ((with_reducible refine hK _ _ ?_); clear hK K) | skip))
            | ((with_reducible refine mix_off ?_ ?_); (focus rfl); intro K hK; go_simp; (first | ((with_reducible refine hK _ _ ?_); clear hK K) | skip))
            | ((with_reducible refine mix_step ?_); intro K hK; go_simp; (first | ((with_reducible refine hK _ _ ?_); clear hK K) | skip))))
      have hset := (HK.out.set_ s (.int .i64 (CN : Int))).drew
      rw [cellsF_set, HSU.out] at hset
      have hbl : Below q w (wr.setCell ⟨q, s, none⟩ (.int .i64 (CN : Int))).drew := (HB.out.setCell (p := ⟨q, s, none⟩) (Nat.le_refl _) _).drew
      exact ⟨⟨k + 1, by omega, rfl, hset, hbl⟩, by simp [intOf]; omega⟩
    · obtain rfl : k = 257 := by omega
      go_wp2_with fail
      go_ret
      refine ⟨_, rfl, ⟨by simp, fun _ => ⟨q, 0, rfl, fun j u hu => ?_⟩⟩, by rw [HQ.out]; exact HB.out⟩
      rw [← cK_all] at hu
      rw [Nat.zero_add, HK.out.cell j]
      unfold cellsF
      rw [List.getElem?_toArray]
      exact hu
theorem opened_calls (w : World) : Calls Try.prog 19 #[] w fun e w' => ∃ g A c, e = .returned (.pointer (some ⟨g, 0, none⟩)) ∧ g = w.heap.size ∧ BookAt w' g (fK 26) (mK 26) (pK 26) A c (ordB 26) ∧ Below w.heap.size w w' :=
  (opened_any w).mono fun _ _ h => by
    obtain ⟨A, c, h1, h2, h3⟩ := h
    exact ⟨_, A, c, h1, rfl, h2, h3⟩
/-- A book lies in block g. -/
def Book (w : World) (g : Nat) : Prop := ∃ A c, BookAt w g (fK 26) (mK 26) (pK 26) A c (ordB 26)
theorem Book.drew {w : World} {g : Nat} (h : Book w g) : Book w.drew g := by
  obtain ⟨A, c, h⟩ := h
  exact ⟨A, c, h.below (Below.refl _ _).drew⟩
theorem open_calls (w : World) : Calls Try.prog 19 #[] w fun e w' => ∃ g, e = .returned (.pointer (some ⟨g, 0, none⟩)) ∧ Book w' g ∧ Below w.heap.size w w' :=
  (opened_any w).mono fun _ _ h => by
    obtain ⟨A, c, h1, h2, h3⟩ := h
    exact ⟨_, h1, ⟨A, c, h2⟩, h3⟩
theorem codes_calls (g : Nat) (w : World) (h : Book w g) :
    Calls Try.prog 20 #[.pointer (some ⟨g, 0, none⟩)] w fun e w' => ∃ b o, e = .returned (.slice (some ⟨b, o, none⟩) 257 257) ∧ (∀ s, s < 257 → w'.cell? ⟨b, o + s, none⟩ = some (.int .i64 (codeN s))) ∧ Below w.heap.size w w' := by
  obtain ⟨A, c, h⟩ := h
  refine (codes_any g A c w h).mono ?_
  rintro e w' ⟨A2, rfl, hc, hb⟩
  obtain ⟨b, o, rfl, hat⟩ := hc.2 (by omega)
  refine ⟨b, o, rfl, fun s hs => hat s _ ?_, hb⟩
  rw [List.getElem?_map, List.getElem?_range hs]
  rfl
theorem bits_calls (s n : Nat) (w : World) (hs : s < 257) (hn : hl s = n) : Calls Try.prog 21 #[.int .i64 s] w fun e w' => e = .returned (.int .i64 n) ∧ w = w' := by
  subst hn
  exact bitsOf_any s w hs

set_option maxHeartbeats 1000000 in
set_option maxRecDepth 100000 in
theorem Code_any (b : Nat) (w : World) (hb : b < 256) : Calls Try.prog 16 #[.int .u8 b] w fun e w' => e = .returned (.tuple #[.int .u32 (codeN b), .int .i64 (hl b)]) ∧ Below w.heap.size w w' := by
  have hcn : codeN b < 1073741824 := by
    have h1 := (code_ge b (by omega)).2
    have h2 := hl_top b (by omega)
    have h3 : 2 ^ hl b ≤ 2 ^ 30 := Nat.pow_le_pow_right (by omega) h2
    have h4 : 2 ^ 30 = 1073741824 := by decide
    omega
  generalize hce : codeN b = CN at hcn
  have HCE := hid hce
  generalize hne : hl b = n
  have HNE := hid hne
  clear hce hne
  have hwb : IntKind.i64.wrap (b : Int) = (b : Int) := IntWalk.i64_in _ (by omega)
  have hwc : IntKind.u32.wrap (CN : Int) = (CN : Int) := by unfold IntKind.wrap; simp [IntKind.bits, IntKind.signed]; omega
  go_enter Try.func16, Try.ntmps16
  go_wp2_with fail
  go_region_with (first
    | (go_at_call 19; go_must (refine (open_calls _).mono ?_; rintro e w1 ⟨g, rfl, hbk, hb1⟩; have HBK := hid hbk; have HB1 := hid hb1; clear hbk hb1))
    | (go_at_call 20; go_must (refine (codes_calls g _ (by first | exact HBK.out | exact HBK.out.drew)).mono ?_; rintro e w2 ⟨bb, oo, rfl, hat, hb2⟩; have HB2 := hid hb2; have hca := hat b (by omega); rw [HCE.out] at hca; clear hat hb2 HBK))
    | (go_at_call 21; go_must (refine (bits_calls b n _ (by omega) HNE.out).mono ?_; rintro e w3 ⟨rfl, rfl⟩)))
  all_goals
    go_wp2_with fail
    refine bodyPost_ret (v := .tuple #[.int .u32 CN, .int .i64 n]) (by simp [results, Try.results16, go_sem]) rfl ⟨rfl, ?_⟩
    exact ((Below.refl w.heap.size w).drew).trans (HB1.out.trans (HB2.out.mono HB1.out.size))
end Go.Proofs.Ytimklfdofldhaaa
