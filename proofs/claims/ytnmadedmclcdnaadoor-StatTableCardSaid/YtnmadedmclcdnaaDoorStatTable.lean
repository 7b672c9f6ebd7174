/- The law StatTable walked. No condition. -/
import Derived.Test.YtnmadedmclcdnaaDoorStatFinds
import Derived.Test.YtnmadedmclcdnaaDoorStatTabQ
namespace Go.Proofs.YtnmadedmclcdnaaDoor
open Go.RowKit
attribute [local go_sem] kd kdS if_min if_max if_minN if_maxN
attribute [local go_sem ↓] sliced_word
attribute [local go_sem] offA_zero

set_option maxHeartbeats 1000000 in
set_option maxRecDepth 100000 in
theorem table_bad (i : Int) (hbad : i < 1 ∨ 61 < i) (w : World) :
    Calls Tryd.prog 4 #[.int .i64 i] w fun e w' => e = .returned (.bool true) ∧ Below w.heap.size w w' := by
  go_enter Tryd.func4, Tryd.ntmps4
  go_wp2_with fail
  refine (first_any w).mono ?_
  rintro e w1 ⟨rfl, hb1⟩
  have HB1 := hid hb1
  clear hb1
  have hg := fun w => get_no i w hbad
  have G := hid hg
  clear hg
  by_cases h : i < 1
  · clear hbad
    go_wp2_with fail
    refine (G.out w1).mono ?_
    rintro e w2 ⟨rfl, hb2⟩
    have HB2 := hid (HB1.out.trans (hb2.mono HB1.out.size))
    clear hb2 HB1 G
    go_upto_region 5 with fail
    have hba : Below w2.heap.size w2 (w2.alloc (.cells #[.string ByteArray.empty, .string ByteArray.empty, .bool false] 24)) := (Below.refl _ _).alloc (Nat.le_refl _) _
    generalize w2.alloc (.cells #[.string ByteArray.empty, .string ByteArray.empty, .bool false] 24) = wd at hba ⊢
    have HB3 := hid (HB2.out.trans (hba.mono HB2.out.size))
    generalize w2.heap.size = gd
    clear hba HB2
    go_wp2_with fail
    refine (first_any wd).mono ?_
    rintro e w4 ⟨rfl, hb4⟩
    have HB4 := hid (HB3.out.trans (hb4.mono HB3.out.size))
    clear hb4 HB3
    go_wp2_with fail
    go_ret
    exact ⟨rfl, HB4.out⟩
  · have h2 : 61 < i := by omega
    clear hbad
    go_wp2_with fail
    refine (G.out w1).mono ?_
    rintro e w2 ⟨rfl, hb2⟩
    have HB2 := hid (HB1.out.trans (hb2.mono HB1.out.size))
    clear hb2 HB1 G
    go_upto_region 5 with fail
    have hba : Below w2.heap.size w2 (w2.alloc (.cells #[.string ByteArray.empty, .string ByteArray.empty, .bool false] 24)) := (Below.refl _ _).alloc (Nat.le_refl _) _
    generalize w2.alloc (.cells #[.string ByteArray.empty, .string ByteArray.empty, .bool false] 24) = wd at hba ⊢
    have HB3 := hid (HB2.out.trans (hba.mono HB2.out.size))
    generalize w2.heap.size = gd
    clear hba HB2
    go_wp2_with fail
    refine (first_any wd).mono ?_
    rintro e w4 ⟨rfl, hb4⟩
    have HB4 := hid (HB3.out.trans (hb4.mono HB3.out.size))
    clear hb4 HB3
    go_wp2_with fail
    go_ret
    exact ⟨rfl, HB4.out⟩

set_option maxHeartbeats 4000000 in
set_option maxRecDepth 100000 in
theorem table_good (n : Nat) (h1 : 1 ≤ n) (h2 : n ≤ 61) (w : World) :
    Calls Tryd.prog 4 #[.int .i64 n] w fun e w' => e = .returned (.bool true) ∧ Below w.heap.size w w' := by
  obtain ⟨p1, p0, p2, p3, p4, p5, p6⟩ := okT_at h1 h2
  have hg1 := fun w => get_yes n w h1 h2
  have hfn : ∀ w, Calls Tryd.prog 9 #[.string ⟨(tabF n).1.toArray⟩, .string ⟨noneL.toArray⟩] w fun e w' => e = .returned (.tuple #[.int .i64 ((findP (tabF n).1 noneL 61).1 : Nat), .int .i64 (oneF n : Nat)]) ∧ Below w.heap.size w w' := fun w => find_any (tabF n).1 noneL w
  have hgk : ∀ k w, oneF n ≤ k → k ≤ n → Calls Tryd.prog 8 #[.int .i64 k] w fun e w' => e = .returned (.tuple #[fdv ((tabF n).1, (tabF k).2), .bool true]) ∧ Below w.heap.size w w' := by
    intro k w hk1 hk2
    have := get_yes k w (by omega) (by omega)
    rwa [show tabF k = ((tabF n).1, (tabF k).2) from by rw [← p6 k hk1 hk2]] at this
  generalize findP (tabF n).1 noneL 61 = r at hfn
  generalize oneF n = one at hfn hgk p4 p5 p6
  clear p6
  generalize tabF n = q at p0 p1 p2 p3 hg1 hfn hgk
  unfold fdv sv at hg1 hgk
  have G1 := hid hg1
  have GK := hid hgk
  have FN := hid hfn
  have P3 := hid p3
  clear hg1 hgk hfn p3
  have t1 : ¬ (n : Int) < 1 := by omega
  have t2 : ¬ (61 : Int) < (n : Int) := by omega
  obtain ⟨c0, hc0⟩ : ∃ c0, q.1[0]? = some c0 := by
    cases hq : q.1 with
    | nil => exact absurd hq p1
    | cons x l => exact ⟨x, rfl⟩
  have hd : q.1.headD 0 = c0 := by
    cases hq : q.1 with
    | nil => exact absurd hq p1
    | cons x l => rw [hq] at hc0; simpa using hc0
  rw [hd] at p2
  have i0 : ∀ w, (Instr.index 9 (.string ⟨q.1.toArray⟩) (.int .i64 0)).run Tryd.prog w = .ok (.int .u8 (c0.toNat : Int)) w := fun w => str_ix hc0 w (by kernel_rfl)
  have I0 := hid i0
  have hz : (⟨q.1.toArray⟩ : ByteArray).size = q.1.length := by simp [ByteArray.size]
  have hl : 0 < q.1.length := List.length_pos_iff.2 p1
  have HZ := hid hz
  have HL := hid hl
  have hc58 : ((c0.toNat : Int) = 58) ↔ n ≤ 14 := by
    rw [← p2]
    constructor
    · intro h
      exact UInt8.toNat_inj.1 (by have : (58 : UInt8).toNat = 58 := rfl; omega)
    · rintro rfl
      rfl
  clear p2 hd p1 hz hl i0
  go_enter Tryd.func4, Tryd.ntmps4
  go_wp2_with fail
  refine (first_any w).mono ?_
  rintro e w1 ⟨rfl, hb1⟩
  have HB1 := hid hb1
  clear hb1
  go_wp2_with fail
  refine (G1.out w1).mono ?_
  rintro e w2 ⟨rfl, hb2⟩
  have HB2 := hid (HB1.out.trans (hb2.mono HB1.out.size))
  clear hb2 HB1 G1 t1 t2
  go_upto_region 7 with fail
  have hF : FdAt (w2.alloc (.cells #[.string ⟨q.1.toArray⟩, .string ⟨q.2.toArray⟩, .bool false] 24)) w2.heap.size q := Blk.new w2 _ _
  have hba : Below w2.heap.size w2 (w2.alloc (.cells #[.string ⟨q.1.toArray⟩, .string ⟨q.2.toArray⟩, .bool false] 24)) := (Below.refl _ _).alloc (Nat.le_refl _) _
  generalize w2.alloc (.cells #[.string ⟨q.1.toArray⟩, .string ⟨q.2.toArray⟩, .bool false] 24) = wa at hF hba ⊢
  generalize w2.heap.size = g at hF ⊢
  have HF := hid hF
  have HBA := hid (HB2.out.trans (hba.mono HB2.out.size))
  obtain ⟨k0, k1, k2⟩ := hF.c
  clear hF hba HB2
  have z0 := HZ.out
  have z1 : ¬ ((q.1.length : Nat) : Int) = 0 := by have := HL.out; omega
  have z2 : (((q.1.length : Nat) : Int) == 0) = false := beq_eq_false_iff_ne.2 z1
  have i0 := I0.out
  by_cases h14 : n ≤ 14
  · have y1 : (n : Int) ≤ 14 := by omega
    have y2 : (c0.toNat : Int) = 58 := hc58.2 h14
    rw [y2] at i0
    clear hc58 y2
    go_wp2_with fail
    clear i0
    go_wp2_with fail
    clear k0 k1 k2 z0 z1 z2
    go_loopw [7] (fun i wr => ∃ k : Nat, i = .int .i64 k ∧ k ≤ q.1.length ∧ wr = wa) (fun i _ => q.1.length - (intOf i).toNat)
    case atStart => exact ⟨0, rfl, by omega, rfl⟩
    case round =>
      obtain ⟨k, rfl, hk, rfl⟩ := hrel
      obtain ⟨k0, k1, k2⟩ := HF.out.c
      have z0 := HZ.out
      by_cases hk2 : k < q.1.length
      · obtain ⟨c, hc⟩ : ∃ c, q.1[k]? = some c := ⟨_, List.getElem?_eq_getElem hk2⟩
        have i1 : ∀ w, (Instr.index 9 (.string ⟨q.1.toArray⟩) (.int .i64 k)).run Tryd.prog w = .ok (.int .u8 (c.toNat : Int)) w := fun w => str_ix hc w (by kernel_rfl)
        have hcc := P3.out c (List.mem_of_getElem? hc)
        clear hc
        by_cases hc1 : 65 ≤ c.toNat
        · have hc2 : ¬ c.toNat ≤ 90 := by omega
          clear hcc
          go_wp2_with fail
          go_roundw
          case rel => exact ⟨k + 1, by go_num, by omega, trivial⟩
          case measure => simp [intOf]; omega
        · clear hcc
          go_wp2_with fail
          go_roundw
          case rel => exact ⟨k + 1, by go_num, by omega, trivial⟩
          case measure => simp [intOf]; omega
      · go_wp2_with fail
        refine (FN.out wr).mono ?_
        rintro e w3 ⟨rfl, hb3⟩
        have HF3 := hid (HF.out.below hb3)
        have HB3 := hid (HBA.out.trans (hb3.mono HBA.out.size))
        clear hb3 k0 k1 k2 HF HBA z0 hk hk2 P3 I0 HZ HL p0 hc0
        go_wp2_with fail
        go_loopw [10] (fun i wx => ∃ k : Nat, i = .int .i64 k ∧ one ≤ k ∧ k ≤ n + 1 ∧ FdAt wx g q ∧ Below w.heap.size w wx) (fun i _ => n + 1 - (intOf i).toNat)
        case atStart => exact ⟨one, rfl, by omega, by omega, HF3.out, HB3.out⟩
        case round =>
          obtain ⟨j, rfl, hj1, hj2, hfx, hbx⟩ := hrel
          have HFX := hid hfx
          have HBX := hid hbx
          clear hfx hbx HF3 HB3
          by_cases hj : j ≤ n
          · have gk := fun w => GK.out j w hj1 hj
            generalize (tabF j).2 = v2 at gk
            have GJ := hid gk
            clear gk
            go_wp2_with fail
            refine (GJ.out _).mono ?_
            rintro e w5 ⟨rfl, hb5⟩
            have HF5 := hid (HFX.out.below hb5)
            have HB5 := hid (HBX.out.trans (hb5.mono HBX.out.size))
            clear hb5 HFX HBX
            go_upto_region 19 with fail
            have hF : FdAt (w5.alloc (.cells #[.string ⟨q.1.toArray⟩, .string ⟨v2.toArray⟩, .bool false] 24)) w5.heap.size (q.1, v2) := Blk.new w5 _ _
            have hba : Below w5.heap.size w5 (w5.alloc (.cells #[.string ⟨q.1.toArray⟩, .string ⟨v2.toArray⟩, .bool false] 24)) := (Below.refl _ _).alloc (Nat.le_refl _) _
            generalize w5.alloc (.cells #[.string ⟨q.1.toArray⟩, .string ⟨v2.toArray⟩, .bool false] 24) = w6 at hF hba ⊢
            generalize w5.heap.size = g5 at hF ⊢
            obtain ⟨k0, k1, k2⟩ := (HF5.out.below hba).c
            obtain ⟨q0, q1, q2⟩ := hF.c
            have HF6 := hid (HF5.out.below hba)
            have HB6 := hid (HB5.out.trans (hba.mono HB5.out.size))
            clear hF hba HF5 HB5
            go_wp2_with fail
            go_roundw
            case rel => exact ⟨j + 1, by go_num, by omega, by omega, HF6.out, HB6.out⟩
            case measure => simp [intOf]; omega
          · have hj3 : ¬ (j : Int) ≤ (n : Int) := by omega
            have u1 : (1 : Int) ≤ (one : Int) := by omega
            have u2 : (one : Int) ≤ (n : Int) := by omega
            go_wp2_with fail
            refine (first_any _).mono ?_
            rintro e w7 ⟨rfl, hb7⟩
            have HB7 := hid (HBX.out.trans (hb7.mono HBX.out.size))
            clear hb7 HBX HFX
            go_wp2_with fail
            go_ret
            exact ⟨rfl, HB7.out⟩
  · have y1 : ¬ (n : Int) ≤ 14 := by omega
    have y2 : ¬ (c0.toNat : Int) = 58 := fun h => h14 (hc58.1 h)
    have y3 : ((c0.toNat : Int) == 58) = false := beq_eq_false_iff_ne.2 y2
    clear hc58
    go_wp2_with fail
    clear k0 k1 k2 z0 z1 z2
    go_loopw [7] (fun i wr => ∃ k : Nat, i = .int .i64 k ∧ k ≤ q.1.length ∧ wr = wa) (fun i _ => q.1.length - (intOf i).toNat)
    case atStart => exact ⟨0, rfl, by omega, rfl⟩
    case round =>
      obtain ⟨k, rfl, hk, rfl⟩ := hrel
      obtain ⟨k0, k1, k2⟩ := HF.out.c
      have z0 := HZ.out
      by_cases hk2 : k < q.1.length
      · obtain ⟨c, hc⟩ : ∃ c, q.1[k]? = some c := ⟨_, List.getElem?_eq_getElem hk2⟩
        have i1 : ∀ w, (Instr.index 9 (.string ⟨q.1.toArray⟩) (.int .i64 k)).run Tryd.prog w = .ok (.int .u8 (c.toNat : Int)) w := fun w => str_ix hc w (by kernel_rfl)
        have hcc := P3.out c (List.mem_of_getElem? hc)
        clear hc
        by_cases hc1 : 65 ≤ c.toNat
        · have hc2 : ¬ c.toNat ≤ 90 := by omega
          clear hcc
          go_wp2_with fail
          go_roundw
          case rel => exact ⟨k + 1, by go_num, by omega, trivial⟩
          case measure => simp [intOf]; omega
        · clear hcc
          go_wp2_with fail
          go_roundw
          case rel => exact ⟨k + 1, by go_num, by omega, trivial⟩
          case measure => simp [intOf]; omega
      · go_wp2_with fail
        refine (FN.out wr).mono ?_
        rintro e w3 ⟨rfl, hb3⟩
        have HF3 := hid (HF.out.below hb3)
        have HB3 := hid (HBA.out.trans (hb3.mono HBA.out.size))
        clear hb3 k0 k1 k2 HF HBA z0 hk hk2 P3 I0 HZ HL p0 hc0
        go_wp2_with fail
        go_loopw [10] (fun i wx => ∃ k : Nat, i = .int .i64 k ∧ one ≤ k ∧ k ≤ n + 1 ∧ FdAt wx g q ∧ Below w.heap.size w wx) (fun i _ => n + 1 - (intOf i).toNat)
        case atStart => exact ⟨one, rfl, by omega, by omega, HF3.out, HB3.out⟩
        case round =>
          obtain ⟨j, rfl, hj1, hj2, hfx, hbx⟩ := hrel
          have HFX := hid hfx
          have HBX := hid hbx
          clear hfx hbx HF3 HB3
          by_cases hj : j ≤ n
          · have gk := fun w => GK.out j w hj1 hj
            generalize (tabF j).2 = v2 at gk
            have GJ := hid gk
            clear gk
            go_wp2_with fail
            refine (GJ.out _).mono ?_
            rintro e w5 ⟨rfl, hb5⟩
            have HF5 := hid (HFX.out.below hb5)
            have HB5 := hid (HBX.out.trans (hb5.mono HBX.out.size))
            clear hb5 HFX HBX
            go_upto_region 19 with fail
            have hF : FdAt (w5.alloc (.cells #[.string ⟨q.1.toArray⟩, .string ⟨v2.toArray⟩, .bool false] 24)) w5.heap.size (q.1, v2) := Blk.new w5 _ _
            have hba : Below w5.heap.size w5 (w5.alloc (.cells #[.string ⟨q.1.toArray⟩, .string ⟨v2.toArray⟩, .bool false] 24)) := (Below.refl _ _).alloc (Nat.le_refl _) _
            generalize w5.alloc (.cells #[.string ⟨q.1.toArray⟩, .string ⟨v2.toArray⟩, .bool false] 24) = w6 at hF hba ⊢
            generalize w5.heap.size = g5 at hF ⊢
            obtain ⟨k0, k1, k2⟩ := (HF5.out.below hba).c
            obtain ⟨q0, q1, q2⟩ := hF.c
            have HF6 := hid (HF5.out.below hba)
            have HB6 := hid (HB5.out.trans (hba.mono HB5.out.size))
            clear hF hba HF5 HB5
            go_wp2_with fail
            go_roundw
            case rel => exact ⟨j + 1, by go_num, by omega, by omega, HF6.out, HB6.out⟩
            case measure => simp [intOf]; omega
          · have hj3 : ¬ (j : Int) ≤ (n : Int) := by omega
            have u1 : (1 : Int) ≤ (one : Int) := by omega
            have u2 : (one : Int) ≤ (n : Int) := by omega
            go_wp2_with fail
            refine (first_any _).mono ?_
            rintro e w7 ⟨rfl, hb7⟩
            have HB7 := hid (HBX.out.trans (hb7.mono HBX.out.size))
            clear hb7 HBX HFX
            go_wp2_with fail
            go_ret
            exact ⟨rfl, HB7.out⟩

theorem table_walk (i : Int) (w : World) : Calls Tryd.prog 4 #[.int .i64 i] w fun e w' => e = .returned (.bool true) ∧ Below w.heap.size w w' := by
  by_cases h : i < 1 ∨ 61 < i
  · exact table_bad i h w
  · obtain ⟨n, rfl⟩ : ∃ n : Nat, i = n := ⟨i.toNat, by omega⟩
    exact table_good n (by omega) (by omega) w
end Go.Proofs.YtnmadedmclcdnaaDoor
