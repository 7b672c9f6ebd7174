/- The law StatFinds walked. No condition. -/
import Derived.Test.YtnmadedmclcdnaaDoorStatQ
namespace Go.Proofs.YtnmadedmclcdnaaDoor
open Go.RowKit
attribute [local go_sem] kd kdS if_min if_max if_minN if_maxN
attribute [local go_sem ↓] sliced_word
attribute [local go_sem] offA_zero

theorem tab2 : tabF 2 = ([58, 109, 101, 116, 104, 111, 100], [71, 69, 84]) := by decide +kernel
set_option maxHeartbeats 1000000 in
set_option maxRecDepth 100000 in
theorem first_any (w : World) : Calls Tryd.prog 7 #[] w fun e w' => e = .returned (.bool true) ∧ Below w.heap.size w w' := by
  go_enter Tryd.func7, Tryd.ntmps7
  go_wp2_with fail
  have hg := get_yes 2 w (by omega) (by omega)
  rw [tab2] at hg
  unfold fdv sv at hg
  refine hg.mono ?_
  rintro e w1 ⟨rfl, hb1⟩
  have HB1 := hid hb1
  clear hg hb1
  go_upto_region 2 with fail
  obtain ⟨wa, hwa⟩ : ∃ wa, w1.alloc (.cells #[.string { data := #[58, 109, 101, 116, 104, 111, 100] }, .string { data := #[71, 69, 84] }, .bool false] 24) = wa := ⟨_, rfl⟩
  have hba : Below w1.heap.size w1 wa := by rw [← hwa]; exact (Below.refl _ _).alloc (Nat.le_refl _) _
  have hF : Blk wa w1.heap.size 24 #[.string { data := #[58, 109, 101, 116, 104, 111, 100] }, .string { data := #[71, 69, 84] }, .bool false] := by rw [← hwa]; exact Blk.new w1 _ _
  rw [hwa]
  have HBA := hid (HB1.out.trans (hba.mono HB1.out.size))
  have HF := hid hF
  generalize w1.heap.size = g at HF ⊢
  clear hwa hba hF HB1
  go_wp2_with fail
  refine (get_no 62 wa (.inr (by omega))).mono ?_
  rintro e w2 ⟨rfl, hb2⟩
  have hF2 := HF.out.below hb2 HF.out.lt
  have HB2 := hid (HBA.out.trans (hb2.mono HBA.out.size))
  have k0 : w2.cell? ⟨g, 0, none⟩ = some (.string { data := #[58, 109, 101, 116, 104, 111, 100] }) := hF2.cell 0
  have k1 : w2.cell? ⟨g, 1, none⟩ = some (.string { data := #[71, 69, 84] }) := hF2.cell 1
  have hgl := hF2.lt
  clear hb2 hF2 HF HBA
  go_upto_region 3 with fail
  obtain ⟨wb, hwb⟩ : ∃ wb, w2.alloc (.cells #[.string ByteArray.empty, .string ByteArray.empty, .bool false] 24) = wb := ⟨_, rfl⟩
  have hbb : Below w2.heap.size w2 wb := by rw [← hwb]; exact (Below.refl _ _).alloc (Nat.le_refl _) _
  rw [hwb]
  have k0 := below_keep hbb _ _ k0
  have k1 := below_keep hbb _ _ k1
  have HBB := hid (HB2.out.trans (hbb.mono HB2.out.size))
  clear hwb hbb HB2 hgl
  go_wp2_with fail
  go_ret
  exact ⟨rfl, HBB.out⟩

/-- A field's cells in a block of its own. -/
def FdAt (w : World) (g : Nat) (q : List UInt8 × List UInt8) : Prop := Blk w g 24 #[sv q.1, sv q.2, .bool false]
theorem FdAt.below {w w' : World} {g : Nat} {q : List UInt8 × List UInt8} (h : FdAt w g q) (hb : Below w.heap.size w w') : FdAt w' g q := Blk.below h hb (Blk.lt h)
theorem FdAt.c {w : World} {g : Nat} {q : List UInt8 × List UInt8} (h : FdAt w g q) : w.cell? ⟨g, 0, none⟩ = some (.string ⟨q.1.toArray⟩) ∧ w.cell? ⟨g, 1, none⟩ = some (.string ⟨q.2.toArray⟩) ∧ w.cell? ⟨g, 2, none⟩ = some (.bool false) := ⟨Blk.cell h 0, Blk.cell h 1, Blk.cell h 2⟩
/-- What Get answers, in one form. -/
theorem get_any (i : Int) (w : World) : Calls Tryd.prog 8 #[.int .i64 i] w fun e w' => ∃ q, e = .returned (.tuple #[.agg #[.string ⟨q.1.toArray⟩, .string ⟨q.2.toArray⟩, .bool false], .bool (decide (1 ≤ i ∧ i ≤ 61))]) ∧ (1 ≤ i → i ≤ 61 → q = tabF i.toNat) ∧ Below w.heap.size w w' := by
  by_cases h : 1 ≤ i ∧ i ≤ 61
  · obtain ⟨n, rfl⟩ : ∃ n : Nat, i = n := ⟨i.toNat, by omega⟩
    refine (get_yes n w (by omega) (by omega)).mono ?_
    rintro e w' ⟨rfl, hb⟩
    rw [decide_eq_true h]
    exact ⟨tabF n, rfl, fun _ _ => rfl, hb⟩
  · refine (get_no i w (by omega)).mono ?_
    rintro e w' ⟨rfl, hb⟩
    rw [decide_eq_false h]
    exact ⟨([], []), rfl, fun h1 h2 => absurd ⟨h1, h2⟩ h, hb⟩

/-- Get of an index that may be 0. -/
theorem get_or (r : Nat) (hr : r ≤ 61) (P : List UInt8 × List UInt8 → Prop) (hP : 1 ≤ r → P (tabF r)) : ∃ (a : List UInt8 × List UInt8) (b : Bool), (∀ w, Calls Tryd.prog 8 #[.int .i64 r] w fun e w' => e = .returned (.tuple #[.agg #[.string ⟨a.1.toArray⟩, .string ⟨a.2.toArray⟩, .bool false], .bool b]) ∧ Below w.heap.size w w') ∧ ((r = 0 ∧ b = false) ∨ (1 ≤ r ∧ b = true ∧ P a)) := by
  by_cases h : r = 0
  · subst h
    exact ⟨([], []), false, fun w => get_no 0 w (.inl (by omega)), .inl ⟨rfl, rfl⟩⟩
  · exact ⟨tabF r, true, fun w => get_yes r w (by omega) hr, .inr ⟨by omega, rfl, hP (by omega)⟩⟩

set_option maxHeartbeats 4000000 in
set_option maxRecDepth 100000 in
theorem finds_walk (nm vl : List UInt8) (w : World) :
    Calls Tryd.prog 3 #[.string ⟨nm.toArray⟩, .string ⟨vl.toArray⟩] w fun e w' => e = .returned (.bool true) ∧ Below w.heap.size w w' := by
  have hs1 : (⟨nm.toArray⟩ : ByteArray).size = nm.length := by simp [ByteArray.size]
  have hs2 : (⟨vl.toArray⟩ : ByteArray).size = vl.length := by simp [ByteArray.size]
  by_cases hbad : 1000 < nm.length ∨ 1000 < vl.length
  · go_enter Tryd.func3, Tryd.ntmps3
    go_wp2_with fail
    refine (first_any w).mono ?_
    rintro e w1 ⟨rfl, hb1⟩
    have HB1 := hid hb1
    clear hb1
    go_wp2_with (go_at_call 7; (with_reducible refine (first_any _).mono ?_); rintro e w2 ⟨rfl, hb2⟩; have HB2 := hid hb2; clear hb2)
    all_goals first | (exfalso; omega) | skip
    all_goals
      go_ret
      exact ⟨rfl, HB1.out.trans (HB2.out.mono HB1.out.size)⟩
  · have hn1 : ¬ (1000 : Int) < (nm.length : Int) := by omega
    have hn2 : ¬ (1000 : Int) < (vl.length : Int) := by omega
    clear hbad
    go_enter Tryd.func3, Tryd.ntmps3
    go_wp2_with fail
    refine (first_any w).mono ?_
    rintro e w1 ⟨rfl, hb1⟩
    have HB1 := hid hb1
    clear hb1
    go_wp2_with fail
    clear hs1 hs2 hn1 hn2
    go_loopw [5] (fun i wr => ∃ k : Nat, 1 ≤ k ∧ k ≤ 62 ∧ i = .int .i64 k ∧ Below w.heap.size w wr) (fun i _ => 62 - (intOf i).toNat)
    case atStart => exact ⟨1, Nat.le_refl _, by omega, rfl, HB1.out⟩
    case round =>
      obtain ⟨k, hk1, hk2, rfl, hb⟩ := hrel
      have HB := hid hb
      clear hb HB1
      by_cases hk : k ≤ 61
      · obtain ⟨o1, o2, o3, o4, o5⟩ := okF_at hk1 hk
        have hg1 := fun w => get_yes k w hk1 hk
        have hfn := fun w => find_any (tabF k).1 (tabF k).2 w
        have hg2 := fun w => get_yes (findP (tabF k).1 (tabF k).2 61).1 w o1 (by omega)
        rw [o5] at hg2
        generalize findP (tabF k).1 (tabF k).2 61 = r at o1 o2 o3 o4 hfn hg2
        clear o5
        generalize tabF k = q at hg1 hfn hg2
        unfold fdv sv at hg1 hg2
        have G1 := hid hg1
        have G2 := hid hg2
        have FN := hid hfn
        clear hg1 hg2 hfn
        have t1 : ¬ (r.1 : Int) < 1 := by omega
        have t2 : ¬ (k : Int) < (r.1 : Int) := by omega
        have t3 : ¬ (r.2 : Int) < 1 := by omega
        have t4 : ¬ (r.1 : Int) < (r.2 : Int) := by omega
        go_wp2_with fail
        refine (G1.out wr).mono ?_
        rintro e w2 ⟨rfl, hb2⟩
        have HB2 := hid (HB.out.trans (hb2.mono HB.out.size))
        clear hb2
        go_upto_region 9 with fail
        have hF : FdAt (w2.alloc (.cells #[.string ⟨q.1.toArray⟩, .string ⟨q.2.toArray⟩, .bool false] 24)) w2.heap.size q := Blk.new w2 _ _
        have hba : Below w2.heap.size w2 (w2.alloc (.cells #[.string ⟨q.1.toArray⟩, .string ⟨q.2.toArray⟩, .bool false] 24)) := (Below.refl _ _).alloc (Nat.le_refl _) _
        generalize w2.alloc (.cells #[.string ⟨q.1.toArray⟩, .string ⟨q.2.toArray⟩, .bool false] 24) = wa at hF hba ⊢
        generalize w2.heap.size = g at hF ⊢
        have HF := hid hF
        have HBA := hid (HB2.out.trans (hba.mono HB2.out.size))
        obtain ⟨k0, k1, k2⟩ := hF.c
        clear hF hba HB2
        go_wp2_with fail
        refine (FN.out wa).mono ?_
        rintro e w3 ⟨rfl, hb3⟩
        have HF3 := hid (HF.out.below hb3)
        have HB3 := hid (HBA.out.trans (hb3.mono HBA.out.size))
        clear hb3 k0 k1 k2 HF HBA
        go_wp2_with fail
        refine (G2.out w3).mono ?_
        rintro e w4 ⟨rfl, hb4⟩
        have HF4 := hid (HF3.out.below hb4)
        have HB4 := hid (HB3.out.trans (hb4.mono HB3.out.size))
        clear hb4 HF3 HB3
        go_upto_region 11 with fail
        have hF : FdAt (w4.alloc (.cells #[.string ⟨q.1.toArray⟩, .string ⟨q.2.toArray⟩, .bool false] 24)) w4.heap.size q := Blk.new w4 _ _
        have hba : Below w4.heap.size w4 (w4.alloc (.cells #[.string ⟨q.1.toArray⟩, .string ⟨q.2.toArray⟩, .bool false] 24)) := (Below.refl _ _).alloc (Nat.le_refl _) _
        generalize w4.alloc (.cells #[.string ⟨q.1.toArray⟩, .string ⟨q.2.toArray⟩, .bool false] 24) = wb at hF hba ⊢
        generalize w4.heap.size = g4 at hF ⊢
        obtain ⟨k0, k1, k2⟩ := (HF4.out.below hba).c
        obtain ⟨q0, q1, q2⟩ := hF.c
        have HBB := hid (HB4.out.trans (hba.mono HB4.out.size))
        clear hF hba HF4 HB4
        go_wp2_with fail
        go_roundw
        case rel => exact ⟨k + 1, by omega, by omega, by go_num, HBB.out⟩
        case measure => simp [intOf]; omega
      · obtain rfl : k = 62 := by omega
        have hfn := fun w => find_any nm vl w
        have hle := findP_le nm vl 61
        obtain ⟨hs1, hs2⟩ := findP_says nm vl 61
        generalize findP nm vl 61 = r at hfn hle hs1 hs2
        obtain ⟨a, b1, hg1, hc1⟩ := get_or r.1 hle.1 (fun a => a.1 = nm ∧ a.2 = vl ∧ 1 ≤ r.2) (fun h => by
          rcases hs1 with h0 | h0
          · omega
          · exact ⟨h0.2.1, h0.2.2.1, h0.2.2.2⟩)
        obtain ⟨c, b2, hg2, hc2⟩ := get_or r.2 hle.2 (fun a => a.1 = nm) (fun h => by
          rcases hs2 with h0 | h0
          · omega
          · exact h0.2)
        have G1 := hid hg1
        have G2 := hid hg2
        have FN := hid hfn
        have HC1 := hid hc1
        have HC2 := hid hc2
        clear hg1 hg2 hfn hs1 hs2 hc1 hc2 hk hk1 hk2
        go_wp2_with fail
        refine (FN.out wr).mono ?_
        rintro e w2 ⟨rfl, hb2⟩
        have HB2 := hid (HB.out.trans (hb2.mono HB.out.size))
        clear hb2 HB
        go_wp2_with fail
        refine (G1.out w2).mono ?_
        rintro e w3 ⟨rfl, hb3⟩
        have HB3 := hid (HB2.out.trans (hb3.mono HB2.out.size))
        clear hb3 HB2
        go_upto_region 15 with fail
        have hF : FdAt (w3.alloc (.cells #[.string ⟨a.1.toArray⟩, .string ⟨a.2.toArray⟩, .bool false] 24)) w3.heap.size a := Blk.new w3 _ _
        have hba : Below w3.heap.size w3 (w3.alloc (.cells #[.string ⟨a.1.toArray⟩, .string ⟨a.2.toArray⟩, .bool false] 24)) := (Below.refl _ _).alloc (Nat.le_refl _) _
        generalize w3.alloc (.cells #[.string ⟨a.1.toArray⟩, .string ⟨a.2.toArray⟩, .bool false] 24) = wa at hF hba ⊢
        generalize w3.heap.size = ga at hF ⊢
        have HF := hid hF
        have HBA := hid (HB3.out.trans (hba.mono HB3.out.size))
        clear hF hba HB3
        go_wp2_with fail
        refine (G2.out wa).mono ?_
        rintro e w4 ⟨rfl, hb4⟩
        have HF4 := hid (HF.out.below hb4)
        have HB4 := hid (HBA.out.trans (hb4.mono HBA.out.size))
        clear hb4 HF HBA
        go_upto_region 16 with fail
        have hF : FdAt (w4.alloc (.cells #[.string ⟨c.1.toArray⟩, .string ⟨c.2.toArray⟩, .bool false] 24)) w4.heap.size c := Blk.new w4 _ _
        have hba : Below w4.heap.size w4 (w4.alloc (.cells #[.string ⟨c.1.toArray⟩, .string ⟨c.2.toArray⟩, .bool false] 24)) := (Below.refl _ _).alloc (Nat.le_refl _) _
        generalize w4.alloc (.cells #[.string ⟨c.1.toArray⟩, .string ⟨c.2.toArray⟩, .bool false] 24) = wb at hF hba ⊢
        generalize w4.heap.size = gc at hF ⊢
        have HF5 := hid (HF4.out.below hba)
        have HG5 := hid hF
        have HB5 := hid (HB4.out.trans (hba.mono HB4.out.size))
        clear hF hba HF4 HB4
        go_wp2_with fail
        refine (get_no 0 wb (.inl (by omega))).mono ?_
        rintro e w6 ⟨rfl, hb6⟩
        have HF6 := hid (HF5.out.below hb6)
        have HG6 := hid (HG5.out.below hb6)
        have HB6 := hid (HB5.out.trans (hb6.mono HB5.out.size))
        clear hb6 HF5 HG5 HB5
        go_upto_region 17 with fail
        have hba : Below w6.heap.size w6 (w6.alloc (.cells #[.string ByteArray.empty, .string ByteArray.empty, .bool false] 24)) := (Below.refl _ _).alloc (Nat.le_refl _) _
        generalize w6.alloc (.cells #[.string ByteArray.empty, .string ByteArray.empty, .bool false] 24) = wd at hba ⊢
        have HF7 := hid (HF6.out.below hba)
        have HG7 := hid (HG6.out.below hba)
        have HB7 := hid (HB6.out.trans (hba.mono HB6.out.size))
        generalize w6.heap.size = gd
        clear hba HF6 HG6 HB6
        go_wp2_with fail
        refine (first_any wd).mono ?_
        rintro e w8 ⟨rfl, hb8⟩
        obtain ⟨k0, k1, k2⟩ := (HF7.out.below hb8).c
        obtain ⟨q0, q1, q2⟩ := (HG7.out.below hb8).c
        have HB8 := hid (HB7.out.trans (hb8.mono HB7.out.size))
        clear hb8 HF7 HG7 HB7
        rcases HC1.out with ⟨e1, rfl⟩ | ⟨e1, rfl, e2, e3, e4⟩
        · have z1 : ((r.1 : Nat) : Int) = 0 := by omega
          rcases HC2.out with ⟨e5, rfl⟩ | ⟨e5, rfl, e6⟩
          · have z2 : ((r.2 : Nat) : Int) = 0 := by omega
            rw [z1, z2]
            clear e1 e5 hle
            go_wp2_with fail
            go_ret
            exact ⟨rfl, HB8.out⟩
          · have z2 : (0 : Int) < ((r.2 : Nat) : Int) := by omega
            have z3 : ¬ ((r.2 : Nat) : Int) = 0 := by omega
            have z4 : (((r.2 : Nat) : Int) == 0) = false := by simp; omega
            rw [z1]
            rw [e6] at q0
            clear e1 e5 hle
            go_wp2_with fail
            go_ret
            exact ⟨rfl, HB8.out⟩
        · have z1 : (0 : Int) < ((r.1 : Nat) : Int) := by omega
          have z5 : ¬ ((r.1 : Nat) : Int) = 0 := by omega
          have z6 : (((r.1 : Nat) : Int) == 0) = false := by simp; omega
          have z2 : (0 : Int) < ((r.2 : Nat) : Int) := by omega
          have z3 : ¬ ((r.2 : Nat) : Int) = 0 := by omega
          have z4 : (((r.2 : Nat) : Int) == 0) = false := by simp; omega
          rcases HC2.out with ⟨e5, rfl⟩ | ⟨e5, rfl, e6⟩
          · omega
          · rw [e6] at q0
            rw [e2] at k0
            rw [e3] at k1
            clear e1 e4 e5 hle
            go_wp2_with fail
            go_ret
            exact ⟨rfl, HB8.out⟩
end Go.Proofs.YtnmadedmclcdnaaDoor
