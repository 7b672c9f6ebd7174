/- The reference's Static: the same fields. -/
import Derived.Test.YtnmadedmclcdnaaDoorStatFindQ
namespace Go.Proofs.YtnmadedmclcdnaaDoor
open Go.RowKit
attribute [local go_sem] kd kdS

set_option maxHeartbeats 1000000 in
set_option maxRecDepth 100000 in
theorem static_yes (m : Nat) (h2 : m < 61) (w : World) : Calls Tryd.prog 14 #[.int .i64 ((m + 1 : Nat) : Int)] w fun e w' => e = .returned (.tuple #[.agg #[.string ⟨(tabF (m + 1)).1.toArray⟩, .string ⟨(tabF (m + 1)).2.toArray⟩, .bool false], .bool true]) ∧ Below w.heap.size w w' := by
  obtain ⟨a0, a1⟩ := knA_at h2
  generalize tabF (m + 1) = q at a0 a1
  have A0 := hid a0
  have A1 := hid a1
  clear a0 a1
  go_enter Tryd.func14, Tryd.ntmps14
  go_upto_region 1 with fail
  obtain ⟨wa, hwa⟩ : ∃ wa, w.alloc (.cells #[.string ⟨#[]⟩, .string ⟨#[]⟩, .bool false] 24) = wa := ⟨_, rfl⟩
  have hba : Below w.heap.size w wa := by rw [← hwa]; exact (Below.refl _ _).alloc (Nat.le_refl _) _
  have hF : Blk wa w.heap.size 24 #[.string ⟨#[]⟩, .string ⟨#[]⟩, .bool false] := by rw [← hwa]; exact Blk.new w _ _
  rw [hwa]
  have HF := hid hF
  have HBA := hid hba
  clear hwa hba hF
  go_wp2_with fail
  refine (known_any wa).mono ?_
  rintro e w1 ⟨b, rfl, hk, hb1⟩
  have hk2 := HF.out.below hb1 HF.out.lt
  have k0 : w1.cell? ⟨w.heap.size, 0, none⟩ = some (.string ⟨#[]⟩) := hk2.cell 0
  have k1 : w1.cell? ⟨w.heap.size, 1, none⟩ = some (.string ⟨#[]⟩) := hk2.cell 1
  have k2 : w1.cell? ⟨w.heap.size, 2, none⟩ = some (.bool false) := hk2.cell 2
  have f0 := hk2.frozen 0
  have f1 := hk2.frozen 1
  have f2 := hk2.frozen 2
  have q0 : w1.cell? ⟨b, 2 * m, none⟩ = some (.string ⟨q.1.toArray⟩) := (hk.cell _).trans A0.out
  have q1 : w1.cell? ⟨b, 2 * m + 1, none⟩ = some (.string ⟨q.2.toArray⟩) := (hk.cell _).trans A1.out
  have HB1 := hid (HBA.out.trans (hb1.mono HBA.out.size))
  clear hk hb1 hk2 HF HBA A0 A1
  have u1 : ¬ ((m + 1 : Nat) : Int) < 1 := by omega
  have u2 : ¬ (61 : Int) < ((m + 1 : Nat) : Int) := by omega
  go_wp2_with fail
  have m60 : m ≤ 60 := by omega
  have x1 : (2 * ((m : Int) + 1) - 2).toNat = 2 * m := by omega
  have x2 : (2 * ((m : Int) + 1) - 1).toNat = 2 * m + 1 := by omega
  go_region
  all_goals
    go_wp2_with fail
    refine bodyPost_ret (v := .tuple #[.agg #[.string ⟨q.1.toArray⟩, .string ⟨q.2.toArray⟩, .bool false], .bool true]) (by simp only [results, Tryd.results14]; go_simp) rfl ⟨rfl, HB1.out.trans (Turned.below (F := [w.heap.size]) ?_ (by simp) HB1.out.size)⟩
    first
      | exact (((Turned.refl _ _).setCell (by simp) _).setCell (by simp) _).setCell (by simp) _
      | exact ((((Turned.refl _ _).drew).setCell (by simp) _).setCell (by simp) _).setCell (by simp) _
      | exact ((((Turned.refl _ _).setCell (by simp) _).setCell (by simp) _).setCell (by simp) _).drew

set_option maxHeartbeats 1000000 in
set_option maxRecDepth 100000 in
theorem static_no (i : Int) (hi : i < 1 ∨ 61 < i) (w : World) : Calls Tryd.prog 14 #[.int .i64 i] w fun e w' => e = .returned (.tuple #[.agg #[.string ByteArray.empty, .string ByteArray.empty, .bool false], .bool false]) ∧ Below w.heap.size w w' := by
  have HI := hid hi
  clear hi
  go_enter Tryd.func14, Tryd.ntmps14
  go_upto_region 1 with fail
  obtain ⟨wa, hwa⟩ : ∃ wa, w.alloc (.cells #[.string ⟨#[]⟩, .string ⟨#[]⟩, .bool false] 24) = wa := ⟨_, rfl⟩
  have hba : Below w.heap.size w wa := by rw [← hwa]; exact (Below.refl _ _).alloc (Nat.le_refl _) _
  have hF : Blk wa w.heap.size 24 #[.string ⟨#[]⟩, .string ⟨#[]⟩, .bool false] := by rw [← hwa]; exact Blk.new w _ _
  rw [hwa]
  have HF := hid hF
  have HBA := hid hba
  clear hwa hba hF
  go_wp2_with fail
  refine (known_any wa).mono ?_
  rintro e w1 ⟨b, rfl, hk, hb1⟩
  have hk2 := HF.out.below hb1 HF.out.lt
  have k0 : w1.cell? ⟨w.heap.size, 0, none⟩ = some (.string ⟨#[]⟩) := hk2.cell 0
  have k1 : w1.cell? ⟨w.heap.size, 1, none⟩ = some (.string ⟨#[]⟩) := hk2.cell 1
  have k2 : w1.cell? ⟨w.heap.size, 2, none⟩ = some (.bool false) := hk2.cell 2
  have f0 := hk2.frozen 0
  have f1 := hk2.frozen 1
  have f2 := hk2.frozen 2
  have HB1 := hid (HBA.out.trans (hb1.mono HBA.out.size))
  clear hk hb1 hk2 HF HBA
  by_cases h1 : i < 1
  · go_wp2_with fail
    refine bodyPost_ret (v := .tuple #[.agg #[.string ByteArray.empty, .string ByteArray.empty, .bool false], .bool false]) (by simp only [results, Tryd.results14]; go_simp; rfl) rfl ⟨rfl, HB1.out.trans (Turned.below (F := [w.heap.size]) ?_ (by simp) HB1.out.size)⟩
    exact (((Turned.refl _ _).setCell (by simp) _).setCell (by simp) _).setCell (by simp) _
  · have h2 : 61 < i := by have := HI.out; omega
    go_wp2_with fail
    refine bodyPost_ret (v := .tuple #[.agg #[.string ByteArray.empty, .string ByteArray.empty, .bool false], .bool false]) (by simp only [results, Tryd.results14]; go_simp; rfl) rfl ⟨rfl, HB1.out.trans (Turned.below (F := [w.heap.size]) ?_ (by simp) HB1.out.size)⟩
    exact (((Turned.refl _ _).setCell (by simp) _).setCell (by simp) _).setCell (by simp) _
end Go.Proofs.YtnmadedmclcdnaaDoor
