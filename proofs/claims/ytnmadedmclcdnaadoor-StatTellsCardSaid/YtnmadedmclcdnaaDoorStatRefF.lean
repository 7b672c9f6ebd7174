/- The reference's Find: the same answers. -/
import Derived.Test.YtnmadedmclcdnaaDoorStatKn
namespace Go.Proofs.YtnmadedmclcdnaaDoor
open Go.RowKit
attribute [local go_sem] kd kdS

/-- What the loop holds behind the entries from k on. -/
def rfindP (nm vl : List UInt8) : Nat → Nat × Nat
  | 0 => (0, 0)
  | d + 1 =>
    let r := rfindP nm vl d
    let i := 61 - d
    if (tabF i).1 = nm then (if (tabF i).2 = vl then i else r.1, i) else r

set_option maxHeartbeats 1000000 in
set_option maxRecDepth 100000 in
theorem rfind_any (nm vl : List UInt8) (w : World) : Calls Tryd.prog 15 #[.string ⟨nm.toArray⟩, .string ⟨vl.toArray⟩] w fun e w' => e = .returned (.tuple #[.int .i64 ((rfindP nm vl 61).1 : Nat), .int .i64 ((rfindP nm vl 61).2 : Nat)]) ∧ Below w.heap.size w w' := by
  go_enter Tryd.func15, Tryd.ntmps15
  go_wp2_with fail
  refine (known_any w).mono ?_
  rintro e w1 ⟨b, rfl, hk, hb1⟩
  have HK := hid hk
  have HB := hid hb1
  clear hk hb1
  go_wp2_with fail
  go_loopw [7, 8, 9] (fun x y i wr => ∃ d : Nat, d ≤ 61 ∧ i = .int .i64 (60 - (d : Int)) ∧ x = .int .i64 ((rfindP nm vl d).1 : Nat) ∧ y = .int .i64 ((rfindP nm vl d).2 : Nat) ∧ wr = w1) (fun _ _ i _ => (intOf i + 1).toNat)
  case atStart => exact ⟨0, by omega, rfl, rfl, rfl, rfl⟩
  case round =>
    obtain ⟨d, hd, rfl, rfl, rfl, rfl⟩ := hrel
    by_cases hgo : d < 61
    · obtain ⟨m, hm⟩ : ∃ m : Nat, (60 : Int) - (d : Int) = m := ⟨60 - d, by omega⟩
      obtain ⟨a0, a1⟩ := knA_at (i := m) (by omega)
      have k0 : wr.cell? ⟨b, 2 * m, none⟩ = some (.string ⟨(tabF (m + 1)).1.toArray⟩) := (HK.out.cell _).trans a0
      have k1 : wr.cell? ⟨b, 2 * m + 1, none⟩ = some (.string ⟨(tabF (m + 1)).2.toArray⟩) := (HK.out.cell _).trans a1
      have hs : rfindP nm vl (d + 1) = (if (tabF (m + 1)).1 = nm then (if (tabF (m + 1)).2 = vl then m + 1 else (rfindP nm vl d).1, m + 1) else rfindP nm vl d) := by
        show (if (tabF (61 - d)).1 = nm then (if (tabF (61 - d)).2 = vl then 61 - d else (rfindP nm vl d).1, 61 - d) else rfindP nm vl d) = _
        rw [show 61 - d = m + 1 by omega]
      have HS := hid hs
      clear a0 a1 hs
      generalize tabF (m + 1) = q at k0 k1 HS
      rw [hm]
      have m60 : m ≤ 60 := by omega
      have x2 : IntKind.i64.wrap (2 * (m : Int)) = ((2 * m : Nat) : Int) := by rw [IntWalk.i64_in _ (by omega)]; omega
      have x3 : (2 * (m : Int)).toNat = 2 * m := by omega
      have x4 : (2 * (m : Int) + 1).toNat = 2 * m + 1 := by omega
      by_cases e1 : q.1 = nm
      · have z1 : (q.1 == nm) = true := beq_iff_eq.2 e1
        by_cases e2 : q.2 = vl
        · have z2 : (q.2 == vl) = true := beq_iff_eq.2 e2
          rw [if_pos e1, if_pos e2] at HS
          clear e1 e2
          go_wp2_with fail
          go_roundw
          case rel => exact ⟨d + 1, by omega, by go_num, by rw [HS.out]; go_num, by rw [HS.out]; go_num, trivial⟩
          case measure => simp [intOf] <;> omega
        · have z2 : (q.2 == vl) = false := beq_eq_false_iff_ne.2 e2
          rw [if_pos e1, if_neg e2] at HS
          clear e1 e2
          go_wp2_with fail
          go_roundw
          case rel => exact ⟨d + 1, by omega, by go_num, by rw [HS.out], by rw [HS.out]; go_num, trivial⟩
          case measure => simp [intOf] <;> omega
      · have z1 : (q.1 == nm) = false := beq_eq_false_iff_ne.2 e1
        rw [if_neg e1] at HS
        clear e1
        go_wp2_with fail
        go_roundw
        case rel => exact ⟨d + 1, by omega, by go_num, by rw [HS.out], by rw [HS.out], trivial⟩
        case measure => simp [intOf] <;> omega
    · obtain rfl : d = 61 := by omega
      clear hgo
      go_wp2_with fail
      refine bodyPost_ret (v := .tuple #[.int .i64 ((rfindP nm vl 61).1 : Nat), .int .i64 ((rfindP nm vl 61).2 : Nat)]) (by simp [results, Tryd.results15, go_sem]) rfl ⟨rfl, HB.out⟩
end Go.Proofs.YtnmadedmclcdnaaDoor
