/- The package stat: split, Get and Find, each call once. Each lemma names its own conditions. -/
import Derived.Test.YtnmadedmclcdnaaDoorStatP
import Derived.Test.YtnmadedmclcdnaaDoorSplit
import Derived.Test.YtnmadedmclcdnaaDoorTurn
namespace Go.Proofs.YtnmadedmclcdnaaDoor
open Go.RowKit
attribute [local go_sem] kd kdS if_min if_max if_minN if_maxN
attribute [local go_sem ↓] sliced_word
attribute [local go_sem] offA_zero

set_option maxHeartbeats 1000000 in
set_option maxRecDepth 100000 in
theorem cut_in (l : List UInt8) (w : World) (hs : l.length ≤ 1000000) :
    Calls Tryd.prog 26 #[.string ⟨l.toArray⟩, .string { data := #[32] }] w fun e w' => ∃ b, e = .returned (.tuple #[sv (cutP l).1, sv (cutP l).2, .bool b]) ∧ Below w.heap.size w w' := by
  rcases index_cases 32 l with ⟨h1, h2⟩ | ⟨p, r, hpr, h2, h3⟩
  · have hix := sIndexIn ⟨l.toArray⟩ 32 w
    rw [show ((⟨l.toArray⟩ : ByteArray).data.toList) = l from rfl, h2] at hix
    rw [cutP_none h1]
    have HIX := hid hix
    clear hix h1 h2
    go_enter Tryd.func26, Tryd.ntmps26
    go_wp2_with fail
    refine HIX.out.mono ?_
    rintro e w3 ⟨rfl, rfl⟩
    go_wp2_with fail
    refine bodyPost_ret (v := .tuple #[sv l, sv [], .bool false]) (by simp [sv, results, Tryd.results26, go_sem]) rfl ⟨false, rfl, Below.refl _ _⟩
  · subst hpr
    have hix := sIndexIn ⟨(p ++ 32 :: r).toArray⟩ 32 w
    rw [show ((⟨(p ++ 32 :: r).toArray⟩ : ByteArray).data.toList) = p ++ 32 :: r from rfl, h3] at hix
    rw [cutP_at h2]
    have HIX := hid hix
    have hpl : p.length + 1 + r.length ≤ 1000000 := by simp at hs; omega
    have hq4 := IntWalk.i64_in (p.length : Int) (by omega)
    have hq5 := IntWalk.i64_in ((p.length : Int) + 1) (by omega)
    have hneg : (0 : Int) ≤ (p.length : Int) := by omega
    have hsz2 : (⟨(p ++ 32 :: r).toArray⟩ : ByteArray).size = p.length + 1 + r.length := by simp [ByteArray.size]; omega
    have hx0 : (⟨(p ++ 32 :: r).toArray⟩ : ByteArray).extract 0 p.length = ⟨p.toArray⟩ := by
      rw [str_cut, List.take_left]
      rfl
    have hx1 : (⟨(p ++ 32 :: r).toArray⟩ : ByteArray).extract (p.length + 1) (p.length + 1 + r.length) = ⟨r.toArray⟩ := by
      rw [str_cut, List.take_of_length_le (by simp; omega), show p ++ 32 :: r = (p ++ [32]) ++ r by simp, List.drop_left' (by simp)]
    clear hix h2 h3 hs
    go_enter Tryd.func26, Tryd.ntmps26
    go_wp2_with fail
    refine HIX.out.mono ?_
    rintro e w3 ⟨rfl, rfl⟩
    go_wp2_with fail
    (refine wp_mix ?_ ?_ ?_; (focus kernel_rfl); (focus kernel_rfl); intro KK hKK; go_wp2_with (first
          | (fail)
          | (with_reducible refine mix_nil ?_)
          | ((with_reducible refine mix_on ?_ ?_); (focus rfl); intro K hK; go_simp; (first | ((with_reducible refine hK _ _ ?_); clear hK K) | skip))
          | ((with_reducible refine mix_off ?_ ?_); (focus rfl); intro K hK; go_simp; (first | ((with_reducible refine hK _ _ ?_); clear hK K) | skip))
          | ((with_reducible refine mix_step ?_); intro K hK; go_simp; (first | ((with_reducible refine hK _ _ ?_); clear hK K) | skip))))
    refine bodyPost_ret (v := .tuple #[sv p, sv r, .bool true]) (by simp [sv, results, Tryd.results26, go_sem]) rfl ⟨true, rfl, (Below.refl _ _).drew⟩
set_option maxHeartbeats 1000000 in
set_option maxRecDepth 100000 in
theorem cut_any (l : List UInt8) (w : World) (hs : l.length ≤ 1000000) :
    Calls Tryd.prog 24 #[.string ⟨l.toArray⟩, .string { data := #[32] }] w fun e w' => ∃ b, e = .returned (.tuple #[sv (cutP l).1, sv (cutP l).2, .bool b]) ∧ Below w.heap.size w w' := by
  have hc := cut_in l w hs
  generalize cutP l = q at hc ⊢
  have HC := hid hc
  clear hc
  go_enter Tryd.func24, Tryd.ntmps24
  go_wp2_with fail
  refine HC.out.mono ?_
  rintro e w3 ⟨b, rfl, hb⟩
  unfold sv
  go_wp2_with fail
  refine bodyPost_ret (v := .tuple #[sv q.1, sv q.2, .bool b]) (by simp [sv, results, Tryd.results24, go_sem]) rfl ⟨b, rfl, hb⟩
/-- A field. -/
def fdv (q : List UInt8 × List UInt8) : Value := .agg #[sv q.1, sv q.2, .bool false]
set_option maxHeartbeats 1000000 in
set_option maxRecDepth 100000 in
theorem split_any (l : List UInt8) (w : World) (hs : l.length ≤ 1000000) :
    Calls Tryd.prog 19 #[.string ⟨l.toArray⟩] w fun e w' => e = .returned (fdv (cutP l)) ∧ Below w.heap.size w w' := by
  have hc := fun w => cut_any l w hs
  generalize cutP l = q at hc ⊢
  have HC := hid hc
  clear hc
  unfold fdv sv
  go_enter Tryd.func19, Tryd.ntmps19
  go_wp2_with fail
  refine (HC.out _).mono ?_
  rintro e w3 ⟨b, rfl, hb⟩
  have hk := (Blk.new w 24 #[.string ByteArray.empty, .string ByteArray.empty, .bool false]).below hb (by simp)
  have hbw : Below w.heap.size w w3 := ((Below.refl _ _).alloc (Nat.le_refl _) _).trans (hb.mono (by simp))
  have k0 : w3.cell? ⟨w.heap.size, 0, none⟩ = some (.string ByteArray.empty) := hk.cell 0
  have k1 : w3.cell? ⟨w.heap.size, 1, none⟩ = some (.string ByteArray.empty) := hk.cell 1
  have k2 : w3.cell? ⟨w.heap.size, 2, none⟩ = some (.bool false) := hk.cell 2
  have f0 := hk.frozen 0
  have f1 := hk.frozen 1
  have f2 := hk.frozen 2
  have HBW := hid hbw
  clear hk hbw hb HC
  unfold sv
  go_wp2_with fail
  have ht : Turned [w.heap.size] w3 (((w3.setCell ⟨w.heap.size, 0, none⟩ (.string ⟨q.1.toArray⟩)).setCell ⟨w.heap.size, 1, none⟩ (.string ⟨q.2.toArray⟩)).setCell ⟨w.heap.size, 2, none⟩ (.bool false)) :=
    (((Turned.refl _ _).setCell (by simp) _).setCell (by simp) _).setCell (by simp) _
  refine bodyPost_ret (v := .agg #[.string ⟨q.1.toArray⟩, .string ⟨q.2.toArray⟩, .bool false]) (by simp only [results, Tryd.results19]; go_simp) rfl ⟨rfl, HBW.out.trans (ht.below (by simp) HBW.out.size)⟩

theorem tab_small {i : Nat} (h : i < 61) : ∃ l, tabL[i]? = some l ∧ l.length ≤ 100 := by
  have hl := tab_len
  refine ⟨tabL[i]'(by omega), List.getElem?_eq_getElem _, tab_short _ (List.getElem_mem _)⟩
/-- The table's field i, from 1 on. -/
def tabF (i : Nat) : List UInt8 × List UInt8 := cutP (tabL.getD (i - 1) [])

set_option maxHeartbeats 1000000 in
set_option maxRecDepth 100000 in
theorem Split_known (w : World) : Calls Tryd.prog 20 #[.string ⟨knownL.toArray⟩, .string ⟨#[124]⟩] w fun e w' => ∃ A cp, e = .returned (.slice A 61 cp) ∧ Rd w' 1 A 61 (tabL.map sv) ∧ Below w.heap.size w w' := by
  have hg := gen_split knownL 124 w known_len
  rw [show spl 124 knownL = tabL from rfl, tab_len] at hg
  have HG := hid hg
  clear hg
  generalize knownL = kl at HG
  go_enter Tryd.func20, Tryd.ntmps20
  go_wp2_with fail
  refine HG.out.mono ?_
  rintro e w2 ⟨A, cp, rfl, hr, hb⟩
  go_wp2_with fail
  go_ret
  exact ⟨A, cp, rfl, hr, hb⟩

set_option maxHeartbeats 1000000 in
set_option maxRecDepth 100000 in
theorem get_no (i : Int) (w : World) (hi : i < 1 ∨ 61 < i) : Calls Tryd.prog 8 #[.int .i64 i] w fun e w' => e = .returned (.tuple #[.agg #[.string ByteArray.empty, .string ByteArray.empty, .bool false], .bool false]) ∧ Below w.heap.size w w' := by
  go_enter Tryd.func8, Tryd.ntmps8
  by_cases h1 : i < 1
  · clear hi
    go_wp2_with fail
    refine bodyPost_ret (v := .tuple #[.agg #[.string ByteArray.empty, .string ByteArray.empty, .bool false], .bool false]) (by simp only [results, Tryd.results8]; go_simp; rfl) rfl ⟨rfl, (Below.refl _ _).alloc (Nat.le_refl _) _⟩
  · have h2 : 61 < i := by omega
    clear hi
    go_wp2_with fail
    refine bodyPost_ret (v := .tuple #[.agg #[.string ByteArray.empty, .string ByteArray.empty, .bool false], .bool false]) (by simp only [results, Tryd.results8]; go_simp; rfl) rfl ⟨rfl, (Below.refl _ _).alloc (Nat.le_refl _) _⟩
set_option maxHeartbeats 1000000 in
set_option maxRecDepth 100000 in
theorem get_yes (i : Nat) (w : World) (h1 : 1 ≤ i) (h2 : i ≤ 61) : Calls Tryd.prog 8 #[.int .i64 i] w fun e w' => e = .returned (.tuple #[fdv (tabF i), .bool true]) ∧ Below w.heap.size w w' := by
  obtain ⟨l, hl, hll⟩ := tab_small (i := i - 1) (by omega)
  have hF : Hid (tabF i = cutP l) := hid (by unfold tabF; rw [List.getD_eq_getElem?_getD, hl]; rfl)
  have HS := hid (fun w => split_any l w (by omega))
  have hq := IntWalk.i64_in ((i : Int) - 1) (by omega)
  obtain ⟨k, hk⟩ : ∃ k : Nat, (i : Int) - 1 = (k : Int) := ⟨i - 1, by omega⟩
  have hki : k = i - 1 := by omega
  have HL := hid (hki ▸ hl)
  have hk1 : (k : Int) < 61 := by omega
  have hi1 : ¬ (i : Int) < 1 := by omega
  have hi2 : ¬ (61 : Int) < (i : Int) := by omega
  rw [hF.out]
  generalize cutP l = q at HS ⊢
  clear hl hll h1 h2 hki hF
  go_enter Tryd.func8, Tryd.ntmps8
  go_wp2_with fail
  refine (Split_known _).mono ?_
  rintro e w2 ⟨A, cp, rfl, hr, hb⟩
  have hbw : Below w.heap.size w w2 := ((Below.refl _ _).alloc (Nat.le_refl _) _).trans (hb.mono (by simp))
  have hkb := (Blk.new w 24 #[.string ByteArray.empty, .string ByteArray.empty, .bool false]).below hb (by simp)
  obtain ⟨b, o, hA, hc⟩ := hr.2 (by omega)
  subst hA
  have hcell : w2.cell? ⟨b, o + k, none⟩ = some (.string ⟨l.toArray⟩) := hc k _ (by rw [List.getElem?_map, HL.out]; rfl)
  have HBW := hid hbw
  have HKB := hid hkb
  clear hc hr hb hbw hkb
  go_wp2_with fail
  refine (HS.out _).mono ?_
  rintro e w3 ⟨rfl, hb3⟩
  have hk := HKB.out.below hb3 HKB.out.lt
  have k0 : w3.cell? ⟨w.heap.size, 0, none⟩ = some (.string ByteArray.empty) := hk.cell 0
  have k1 : w3.cell? ⟨w.heap.size, 1, none⟩ = some (.string ByteArray.empty) := hk.cell 1
  have k2 : w3.cell? ⟨w.heap.size, 2, none⟩ = some (.bool false) := hk.cell 2
  have f0 := hk.frozen 0
  have f1 := hk.frozen 1
  have f2 := hk.frozen 2
  have HB3 := hid (HBW.out.trans (hb3.mono HBW.out.size))
  clear hk hb3 HKB hcell
  unfold fdv sv
  go_wp2_with fail
  have ht : Turned [w.heap.size] w3 (((w3.setCell ⟨w.heap.size, 0, none⟩ (.string ⟨q.1.toArray⟩)).setCell ⟨w.heap.size, 1, none⟩ (.string ⟨q.2.toArray⟩)).setCell ⟨w.heap.size, 2, none⟩ (.bool false)) :=
    (((Turned.refl _ _).setCell (by simp) _).setCell (by simp) _).setCell (by simp) _
  refine bodyPost_ret (v := .tuple #[.agg #[.string ⟨q.1.toArray⟩, .string ⟨q.2.toArray⟩, .bool false], .bool true]) (by simp only [results, Tryd.results8]; go_simp) rfl ⟨rfl, HB3.out.trans (ht.below (by simp) HB3.out.size)⟩

/-- What Find finds among the first k pieces: the first with both, the first with the name, from 1 on; 0: none. -/
def findP (nm vl : List UInt8) (k : Nat) : Nat × Nat :=
  (List.range k).foldl (fun r i =>
    if (tabF (i + 1)).1 = nm then ((if r.1 = 0 ∧ (tabF (i + 1)).2 = vl then i + 1 else r.1), (if r.2 = 0 then i + 1 else r.2)) else r) (0, 0)
theorem findP_succ (nm vl : List UInt8) (k : Nat) : findP nm vl (k + 1) =
    if (tabF (k + 1)).1 = nm then ((if (findP nm vl k).1 = 0 ∧ (tabF (k + 1)).2 = vl then k + 1 else (findP nm vl k).1), (if (findP nm vl k).2 = 0 then k + 1 else (findP nm vl k).2)) else findP nm vl k := by
  unfold findP
  rw [List.range_succ, List.foldl_append]
  rfl
theorem findP_le (nm vl : List UInt8) (k : Nat) : (findP nm vl k).1 ≤ k ∧ (findP nm vl k).2 ≤ k := by
  induction k with
  | zero => exact ⟨Nat.le_refl _, Nat.le_refl _⟩
  | succ k ih =>
    rw [findP_succ]
    split
    · obtain ⟨h1, h2⟩ := ih
      refine ⟨?_, ?_⟩
      · dsimp only
        split
        · exact Nat.le_refl _
        · exact Nat.le_succ_of_le h1
      · dsimp only
        split
        · exact Nat.le_refl _
        · exact Nat.le_succ_of_le h2
    · exact ⟨Nat.le_succ_of_le ih.1, Nat.le_succ_of_le ih.2⟩
theorem str_eq (a b : List UInt8) : ((⟨a.toArray⟩ : ByteArray) == ⟨b.toArray⟩) = decide (a = b) := by
  rcases h : ((⟨a.toArray⟩ : ByteArray) == ⟨b.toArray⟩) with _ | _
  · symm
    apply decide_eq_false
    intro e
    subst e
    rw [(MapKept.bytes_beq _ _).2 rfl] at h
    cases h
  · have := (MapKept.bytes_beq _ _).1 h
    injection this with this
    have := congrArg Array.toList this
    simp at this
    rw [decide_eq_true this]

set_option maxHeartbeats 4000000 in
set_option maxRecDepth 100000 in
theorem find_any (nm vl : List UInt8) (w : World) : Calls Tryd.prog 9 #[.string ⟨nm.toArray⟩, .string ⟨vl.toArray⟩] w fun e w' => e = .returned (.tuple #[.int .i64 ((findP nm vl 61).1 : Nat), .int .i64 ((findP nm vl 61).2 : Nat)]) ∧ Below w.heap.size w w' := by
  go_enter Tryd.func9, Tryd.ntmps9
  go_wp2_with fail
  refine (Split_known _).mono ?_
  rintro e w2 ⟨A, cp, rfl, hr, hb⟩
  have HR := hid hr
  have HB := hid hb
  clear hr hb
  go_wp2_with fail
  go_loopw [6, 7, 13] (fun both one i wr => ∃ k : Nat, k ≤ 61 ∧ i = .int .i64 k ∧ both = .int .i64 ((findP nm vl k).1 : Nat) ∧ one = .int .i64 ((findP nm vl k).2 : Nat) ∧ Below w2.heap.size w2 wr) (fun _ _ i _ => 61 - (intOf i).toNat)
  case atStart => exact ⟨0, by omega, rfl, rfl, rfl, Below.refl _ _⟩
  case round =>
    obtain ⟨k, hk, rfl, rfl, rfl, hbr⟩ := hrel
    have HBR := hid hbr
    clear hbr
    by_cases hk61 : k < 61
    · obtain ⟨l, hl, hll⟩ := tab_small hk61
      have HF : Hid (tabF (k + 1) = cutP l) := hid (by unfold tabF; rw [Nat.add_sub_cancel, List.getD_eq_getElem?_getD, hl]; rfl)
      have HS := hid (fun w => split_any l w (by omega))
      have HN := hid (findP_succ nm vl k)
      have hfl := findP_le nm vl k
      rw [HF.out] at HN
      generalize cutP l = q at HF HS HN
      generalize findP nm vl k = fk at HN hfl
      obtain ⟨b, o, hA, hc⟩ := HR.out.2 (by omega)
      subst hA
      have hcell : wr.cell? ⟨b, o + k, none⟩ = some (.string ⟨l.toArray⟩) := below_keep HBR.out _ _ (hc k _ (by rw [List.getElem?_map, hl]; rfl))
      clear hc hl hll HF
      go_wp2_with fail
      refine (HS.out _).mono ?_
      rintro e w3 ⟨rfl, hb3⟩
      have HB3 := hid (HBR.out.trans (hb3.mono HBR.out.size))
      clear hb3 hcell
      unfold fdv sv
      have hw := IntWalk.i64_in ((k : Int) + 1) (by omega)
      by_cases h1 : q.1 = nm
      · rw [if_pos h1] at HN
        have b1 : (q.1 == nm) = true := beq_iff_eq.2 h1
        by_cases h2 : fk.2 = 0
        · rw [if_pos h2] at HN
          by_cases h3 : fk.1 = 0
          · by_cases h4 : q.2 = vl
            · rw [if_pos ⟨h3, h4⟩] at HN
              have b4 : (q.2 == vl) = true := beq_iff_eq.2 h4
              clear h1 h4
              go_wp2_with fail
              all_goals
                go_roundw
                case rel => exact ⟨k + 1, by omega, by go_num, by first | (rw [HN.out]; go_num; done) | (rw [HN.out]; done) | (rw [HN.out]; simp [*]; done), by first | (rw [HN.out]; go_num; done) | (rw [HN.out]; done) | (rw [HN.out]; simp [*]; done), HB3.out.alloc HB3.out.size _⟩
                case measure => simp [intOf]; omega
            · rw [if_neg (fun h => h4 h.2)] at HN
              have b4 : (q.2 == vl) = false := beq_eq_false_iff_ne.2 h4
              clear h1 h4
              go_wp2_with fail
              all_goals
                go_roundw
                case rel => exact ⟨k + 1, by omega, by go_num, by first | (rw [HN.out]; go_num; done) | (rw [HN.out]; done) | (rw [HN.out]; simp [*]; done), by first | (rw [HN.out]; go_num; done) | (rw [HN.out]; done) | (rw [HN.out]; simp [*]; done), HB3.out.alloc HB3.out.size _⟩
                case measure => simp [intOf]; omega
          · rw [if_neg (fun h => h3 h.1)] at HN
            have h3' : ¬ (fk.1 : Int) = 0 := by omega
            have b3 : ((fk.1 : Int) == 0) = false := by simp [h3]
            clear h1 h3
            go_wp2_with fail
            all_goals
              go_roundw
              case rel => exact ⟨k + 1, by omega, by go_num, by first | (rw [HN.out]; go_num; done) | (rw [HN.out]; done) | (rw [HN.out]; simp [*]; done), by first | (rw [HN.out]; go_num; done) | (rw [HN.out]; done) | (rw [HN.out]; simp [*]; done), HB3.out.alloc HB3.out.size _⟩
              case measure => simp [intOf]; omega
        · rw [if_neg h2] at HN
          have h2' : ¬ (fk.2 : Int) = 0 := by omega
          have b2 : ((fk.2 : Int) == 0) = false := by simp [h2]
          by_cases h3 : fk.1 = 0
          · by_cases h4 : q.2 = vl
            · rw [if_pos ⟨h3, h4⟩] at HN
              have b4 : (q.2 == vl) = true := beq_iff_eq.2 h4
              clear h1 h2 h4
              go_wp2_with fail
              all_goals
                go_roundw
                case rel => exact ⟨k + 1, by omega, by go_num, by first | (rw [HN.out]; go_num; done) | (rw [HN.out]; done) | (rw [HN.out]; simp [*]; done), by first | (rw [HN.out]; go_num; done) | (rw [HN.out]; done) | (rw [HN.out]; simp [*]; done), HB3.out.alloc HB3.out.size _⟩
                case measure => simp [intOf]; omega
            · rw [if_neg (fun h => h4 h.2)] at HN
              have b4 : (q.2 == vl) = false := beq_eq_false_iff_ne.2 h4
              clear h1 h2 h4
              go_wp2_with fail
              all_goals
                go_roundw
                case rel => exact ⟨k + 1, by omega, by go_num, by first | (rw [HN.out]; go_num; done) | (rw [HN.out]; done) | (rw [HN.out]; simp [*]; done), by first | (rw [HN.out]; go_num; done) | (rw [HN.out]; done) | (rw [HN.out]; simp [*]; done), HB3.out.alloc HB3.out.size _⟩
                case measure => simp [intOf]; omega
          · rw [if_neg (fun h => h3 h.1)] at HN
            have h3' : ¬ (fk.1 : Int) = 0 := by omega
            have b3 : ((fk.1 : Int) == 0) = false := by simp [h3]
            clear h1 h2 h3
            go_wp2_with fail
            all_goals
              go_roundw
              case rel => exact ⟨k + 1, by omega, by go_num, by first | (rw [HN.out]; go_num; done) | (rw [HN.out]; done) | (rw [HN.out]; simp [*]; done), by first | (rw [HN.out]; go_num; done) | (rw [HN.out]; done) | (rw [HN.out]; simp [*]; done), HB3.out.alloc HB3.out.size _⟩
              case measure => simp [intOf]; omega
      · rw [if_neg h1] at HN
        have b1 : (q.1 == nm) = false := beq_eq_false_iff_ne.2 h1
        clear h1
        go_wp2_with fail
        all_goals
          go_roundw
          case rel => exact ⟨k + 1, by omega, by go_num, by first | (rw [HN.out]; go_num; done) | (rw [HN.out]; done) | (rw [HN.out]; simp [*]; done), by first | (rw [HN.out]; go_num; done) | (rw [HN.out]; done) | (rw [HN.out]; simp [*]; done), HB3.out.alloc HB3.out.size _⟩
          case measure => simp [intOf]; omega
    · obtain rfl : k = 61 := by omega
      clear hk hk61
      go_wp2_with fail
      generalize findP nm vl 61 = f61
      refine bodyPost_ret (v := .tuple #[.int .i64 (f61.1 : Nat), .int .i64 (f61.2 : Nat)]) (by simp [results, Tryd.results9, go_sem]) rfl ⟨rfl, HB.out.trans (HBR.out.mono HB.out.size)⟩
end Go.Proofs.YtnmadedmclcdnaaDoor
