/- strings.Split at one byte. Condition: at most a million bytes. -/
import Derived.Test.YtnmadedmclcdnaaDoorSplitP
import Derived.Deep.OwnRows
import Derived.Deep.CutRange
namespace Go.Proofs.YtnmadedmclcdnaaDoor
open Go.RowKit
attribute [local go_sem] kd kdS if_min if_max if_minN if_maxN
attribute [local go_sem ↓] sliced_word
attribute [local go_sem] offA_zero

/-- A text of given bytes. -/
def sv (l : List UInt8) : Value := .string ⟨l.toArray⟩
theorem str_info : (Tryd.prog.info? 9).map (fun i => (i.zero, i.size, i.bytes)) = some (some (.string ByteArray.empty), 1, 16) := by kernel_rfl

theorem str_cut (l : List UInt8) (i j : Nat) : (⟨l.toArray⟩ : ByteArray).extract i j = ⟨((l.take j).drop i).toArray⟩ := by
  apply ByteArray.ext
  rw [ByteArray.data_extract]
  apply Array.ext'
  simp [List.drop_take]
theorem made_list (z : Value) (k : Nat) : (madeCells #[z] k).toList = List.replicate k z := by
  apply List.ext_getElem
  · simp [madeCells]
  · intro i h1 h2
    simp [madeCells, Nat.mod_one]
theorem rep_set (a : List Value) (z v : Value) (k j : Nat) (ha : a.length = j) : (a ++ List.replicate (k + 1) z).set j v = (a ++ [v]) ++ List.replicate k z := by
  subst ha
  rw [List.set_append_right _ _ (Nat.le_refl _), Nat.sub_self, List.replicate_succ, List.set_cons_zero, List.append_assoc]
  rfl
theorem Rd.of_blk {w : World} {g : Nat} {t : TypeId} {ca : Array Value} {n : Nat} {xs : List Value} (h : Blk w g t ca) (hx : ca.toList = xs) (hn : xs.length = n) : Rd w 1 (some ⟨g, 0, none⟩) n xs := by
  refine ⟨by omega, fun _ => ⟨g, 0, rfl, fun j u hu => ?_⟩⟩
  rw [Nat.zero_add, h.cell j, ← hu, ← hx]
  simp

set_option maxHeartbeats 1000000 in
set_option maxRecDepth 100000 in
theorem gen_split (l : List UInt8) (c : UInt8) (w : World) (hs : l.length ≤ 1000000) :
    Calls Tryd.prog 25 #[.string ⟨l.toArray⟩, .string ⟨#[c]⟩, .int .i64 0, .int .i64 (-1)] w fun e w' => ∃ A cp, e = .returned (.slice A (spl c l).length cp) ∧ Rd w' 1 A (spl c l).length ((spl c l).map sv) ∧ Below w.heap.size w w' := by
  have hcnt : (Lib.countByte l c : Int) = (l.count c : Int) := by simp [Lib.countByte]
  have hle : l.count c ≤ l.length := List.count_le_length
  obtain ⟨n, hn⟩ : ∃ n, l.count c = n := ⟨_, rfl⟩
  have hnl : n ≤ l.length := by omega
  have hmk : ∀ w : World, (Instr.makeSlice 39 (.int .i64 ((n : Int) + 1)) (.int .i64 ((n : Int) + 1))).run Tryd.prog w = .ok (.slice (some ⟨w.heap.size, 0, none⟩) (n + 1) (n + 1)) (w.alloc (.cells (madeCells #[.string ByteArray.empty] (n + 1)) 9)) := by
    intro w
    rw [show ((n : Int) + 1) = ((n + 1 : Nat) : Int) by omega]
    exact run_make_row' (P := Tryd.prog) 39 9 (.string ByteArray.empty) 16 Tryd.underlying39 str_info rfl .i64 .i64 (n + 1) (by omega) (by omega) w
  have hsz : (⟨l.toArray⟩ : ByteArray).size = l.length := by simp [ByteArray.size]
  have HN := hid hn
  have HL := hid (spl_len c l)
  rw [hn] at HL
  clear hle
  go_enter Tryd.func25, Tryd.ntmps25
  go_wp2_with fail
  have hc0 := sCount ⟨l.toArray⟩ c w
  rw [show ((⟨l.toArray⟩ : ByteArray).data.toList) = l from rfl, hcnt, hn] at hc0
  refine hc0.mono ?_
  rintro e w2 ⟨rfl, rfl⟩
  clear hc0 hcnt hn
  have hq1 := IntWalk.i64_in ((n : Int) + 1) (by omega)
  have hq2 := IntWalk.i64_in ((l.length : Int) + 1) (by omega)
  have hif : (if (n : Int) ≤ (l.length : Int) then (n : Int) + 1 else (l.length : Int) + 1) = (n : Int) + 1 := if_pos (by omega)
  have hmin : min ((n : Int) + 1) ((l.length : Int) + 1) = (n : Int) + 1 := by omega
  have hq3 := IntWalk.i64_in (n : Int) (by omega)
  go_upto_region 10 with fail
  have hblk : Blk (w2.alloc (.cells (madeCells #[.string ByteArray.empty] (n + 1)) 9)) w2.heap.size 9 (madeCells #[.string ByteArray.empty] (n + 1)) := Blk.new w2 _ _
  have hbel : Below w2.heap.size w2 (w2.alloc (.cells (madeCells #[.string ByteArray.empty] (n + 1)) 9)) := (Below.refl _ _).alloc (Nat.le_refl _) _
  generalize w2.alloc (.cells (madeCells #[.string ByteArray.empty] (n + 1)) 9) = wa at hblk hbel ⊢
  have HBK := hid hblk
  have HBL := hid hbel
  clear hmk hif hmin hblk hbel
  go_wp2_with fail
  go_loopw [0, 10] (fun s_ i wr => ∃ (j : Nat) (done : List (List UInt8)) (rest : List UInt8) (ca : Array Value), s_ = .string ⟨rest.toArray⟩ ∧ i = .int .i64 j ∧ spl c l = done ++ spl c rest ∧ done.length = j ∧ j + rest.count c = n ∧ rest.length ≤ 1000000 ∧ Blk wr w2.heap.size 9 ca ∧ ca.toList = done.map sv ++ List.replicate (n + 1 - j) (.string ByteArray.empty) ∧ Below w2.heap.size w2 wr) (fun _ i _ => n - (intOf i).toNat)
  case atStart => exact ⟨0, [], l, _, rfl, rfl, rfl, rfl, by rw [HN.out]; omega, hs, HBK.out, by rw [made_list]; rfl, HBL.out⟩
  case round =>
    obtain ⟨j, done, rest, ca, rfl, rfl, hspl, hdl, hjn, hrl, hbk, hca, hbl⟩ := hrel
    have HSP := hid hspl
    have HDL := hid hdl
    have HCA := hid hca
    have HB1 := hid hbk
    have HB2 := hid hbl
    have hcs : ca.size = n + 1 := by
      have := congrArg List.length hca
      simp at this
      omega
    clear hspl hdl hca hbk hbl HBK HBL
    have hrs : (⟨rest.toArray⟩ : ByteArray).size = rest.length := by simp [ByteArray.size]
    by_cases hjk : j < n
    · rcases index_cases c rest with ⟨h1, h2⟩ | ⟨p, r, hpr, h2, h3⟩
      · have : rest.count c = 0 := List.count_eq_zero.2 h1
        omega
      · subst hpr
        have hix := sIndex ⟨(p ++ c :: r).toArray⟩ c wr
        rw [show ((⟨(p ++ c :: r).toArray⟩ : ByteArray).data.toList) = p ++ c :: r from rfl, h3] at hix
        have HIX := hid hix
        have HP := hid h2
        have hpl : p.length + 1 + r.length ≤ 1000000 := by simp at hrl; omega
        have hq4 := IntWalk.i64_in (p.length : Int) (by omega)
        have hq5 := IntWalk.i64_in ((p.length : Int) + 1) (by omega)
        have hneg : ¬ (p.length : Int) < 0 := by omega
        have hcell : wr.cell? ⟨w2.heap.size, j, none⟩ = some (.string ByteArray.empty) := by
          rw [HB1.out.cell j]
          have := HCA.out
          rw [← Array.getElem?_toList, this, List.getElem?_append_right (by simp [HDL.out]), List.getElem?_replicate, if_pos (by rw [List.length_map, HDL.out]; omega)]
        have hco : (p ++ c :: r).count c = 1 + r.count c := by
          rw [List.count_append, List.count_eq_zero.2 h2, List.count_cons_self]
          omega
        have hx0 : (⟨(p ++ c :: r).toArray⟩ : ByteArray).extract 0 p.length = ⟨p.toArray⟩ := by
          rw [str_cut, List.take_left]
          rfl
        have hx1 : (⟨(p ++ c :: r).toArray⟩ : ByteArray).extract (p.length + 1) (p.length + 1 + r.length) = ⟨r.toArray⟩ := by
          rw [str_cut, List.take_of_length_le (by simp; omega), show p ++ c :: r = (p ++ [c]) ++ r by simp, List.drop_left' (by simp)]
        have HX := hid (And.intro hx0 hx1)
        have hjn2 : j + 1 + r.count c = n := by omega
        have HJ := hid hjn2
        clear hco hx0 hx1 hjn hjn2
        have hfz := HB1.out.frozen j
        have hsz2 : (⟨(p ++ c :: r).toArray⟩ : ByteArray).size = p.length + 1 + r.length := by simp [ByteArray.size]; omega
        clear hix h2 h3 hrs hsz
        go_wp2_with fail
        refine HIX.out.mono ?_
        rintro e w3 ⟨rfl, rfl⟩
        go_wp2_with fail
        go_roundw
        rw [HX.out.1, HX.out.2]
        case rel => exact ⟨j + 1, done ++ [p], r, ca.setIfInBounds j (sv p), rfl, by go_num, by rw [HSP.out, spl_at HP.out, List.append_assoc]; rfl, by simp [HDL.out], HJ.out, by omega, HB1.out.set_ j (sv p), by
          rw [Array.toList_setIfInBounds, HCA.out, show n + 1 - j = (n - j) + 1 by omega, rep_set _ _ _ _ _ (by simp [HDL.out]), List.map_append, show n + 1 - (j + 1) = n - j by omega]
          rfl, HB2.out.setCell (Nat.le_refl _) _⟩
        case measure => simp [intOf]; omega
    · have hjn2 : j = n := by omega
      subst hjn2
      have hc0 : c ∉ rest := List.count_eq_zero.1 (by omega)
      have HC0 := hid hc0
      have hcell : wr.cell? ⟨w2.heap.size, j, none⟩ = some (.string ByteArray.empty) := by
        rw [HB1.out.cell j]
        have := HCA.out
        rw [← Array.getElem?_toList, this, List.getElem?_append_right (by simp [HDL.out])]
        simp [HDL.out]
      have hfz := HB1.out.frozen j
      clear hc0 hrs hsz hjn
      go_wp2_with fail
      go_ret
      have hl := HL.out
      have hfin : (ca.setIfInBounds j (sv rest)).toList = (spl c l).map sv := by
        rw [Array.toList_setIfInBounds, HCA.out, HSP.out, spl_none HC0.out, show j + 1 - j = 0 + 1 by omega, rep_set _ _ _ _ _ (by simp [HDL.out])]
        simp
      rw [hl]
      exact ⟨_, _, rfl, Rd.of_blk (HB1.out.set_ j (sv rest)) hfin (by rw [List.length_map, hl]), HB2.out.setCell (Nat.le_refl _) _⟩
end Go.Proofs.YtnmadedmclcdnaaDoor
