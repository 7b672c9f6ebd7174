/- slices.Concat of two slices of bytes: a row of the call's own that reads as both. Condition: at most 2^46 bytes together. -/
import Derived.Test.YtakkabilpjjmgaaTurn
import Derived.Lib.AppendZerosOnto
import Derived.Lib.Walk
import Derived.Lib.SliceRun
namespace Go.Proofs.Ytakkabilpjjmgaa
open Go.RowKit

theorem u8i : (Try.prog.info? 5).map (fun i => (i.zero, i.size, i.bytes)) = some (some (.int .u8 0), 1, 1) := by kernel_rfl
theorem u8_parts : ∃ i, Try.prog.info? 5 = some i ∧ i.zero = some (.int .u8 0) ∧ i.size = 1 ∧ i.bytes = 1 := by
  have h := u8i
  rcases hi : Try.prog.info? 5 with _ | i
  · rw [hi] at h; cases h
  · rw [hi] at h
    simp only [Option.map_some, Option.some.injEq, Prod.mk.injEq] at h
    exact ⟨i, rfl, h.1, h.2.1, h.2.2⟩

theorem own_cut {w : World} {base : Nat} {e : TypeId} {size n c : Nat} {A : Option Addr} {xs : List Value} (h : w.ownsRow base e size (.slice A n c) n xs) : w.ownsRow base e size (.slice A 0 c) 0 [] := by
  rcases h.2 with ⟨h1, _⟩ | ⟨g, cap, cur, h1, hg, hh, hn, hc, hs, _⟩
  · injection h1 with h1 h2 h3
    subst h1 h3
    exact World.ownsRow_nil _ _ _ _
  · injection h1 with h1 h2 h3
    subst h1 h3
    exact ⟨by simp, .inr ⟨g, c, cur, rfl, hg, hh, Nat.zero_le _, hc, hs, by simp⟩⟩

set_option maxHeartbeats 1000000 in
set_option maxRecDepth 100000 in
theorem grow_any (n : Nat) (w : World) (hn : n ≤ 70368744177664) :
    Calls Try.prog 26 #[.slice none 0 0, .int .i64 n] w fun e w' => ∃ A c, e = .returned (.slice A 0 c) ∧ w'.ownsRow w.heap.size 5 1 (.slice A 0 c) 0 [] ∧ Below w.heap.size w w' := by
  by_cases h0 : n = 0
  · subst h0
    go_enter Try.func26, Try.ntmps26
    go_wp2_with fail
    go_ret
    exact ⟨none, 0, rfl, World.ownsRow_nil _ _ _ _, Below.refl _ _⟩
  · obtain ⟨i0, hi0, hz0, hs0, hb0⟩ := u8_parts
    have hrz : ∀ ty, (Builtin.append_ #[25, 3] ty #[.slice none 0 0, .int .i64 (n : Int)]).run Try.prog w =
        .ok (.slice (some ⟨w.heap.size, 0, none⟩) n (grownCap w n 0 5)) (w.drew.alloc (.cells (#[] ++ Builtin.zeroCells (Value.int .u8 0).cells n ++ Builtin.zeroCells (Value.int .u8 0).cells (grownCap w n 0 5 - n)) 5)) := fun ty => by
      have h := Lib.run_append_grow_zeros w 25 3 ty 5 i0 (.int .u8 0) .i64 .i64 Try.underlying25 Try.underlying3 hi0 hz0 none 0 0 [] (by
          have := run_firstCells_none (P := Try.prog) w.drew i0.size 0 0 0
          simpa using this) n (by omega) (by omega) (by omega) (by omega)
        (by rw [hb0]; omega)
        (by rw [hb0]; exact growslice_fits (by omega) (by omega))
      rw [Nat.zero_add] at h
      exact h
    have hge : n ≤ grownCap w n 0 5 := grownCap_ge w _ _ _
    have hle : grownCap w n 0 5 ≤ maxLen := grownCap_le_maxLen w n 0 5 (by unfold maxLen; omega)
    generalize grownCap w n 0 5 = G at hrz hge hle
    have HR := hid hrz
    have hG : G ≤ 9223372036854775807 := by unfold maxLen at hle; omega
    have HE := hid hle
    clear hrz hi0 hz0 hs0 hb0 hle
    go_enter Try.func26, Try.ntmps26
    go_wp2_with (at_builtin; go_loud (refine Lib.wpList_append_run _ rfl _ _ _ _ rfl _ _ rfl rfl _ _ (HR.out _) ?_))
    all_goals
      go_ret
      refine ⟨_, G, rfl, ⟨rfl, .inr ⟨w.heap.size, G, _, rfl, Nat.le_refl _, heap_alloc_new w.drew _, Nat.zero_le _, HE.out, ?_, rfl⟩⟩, (Below.refl _ _).drew.alloc (Nat.le_refl _) _⟩
      have hz : ∀ k, (Builtin.zeroCells #[Value.int .u8 0] k).size = k := fun k => by
        simp [Builtin.zeroCells]
      rw [Array.size_append, hz, hz]
      omega

set_option maxHeartbeats 2000000 in
set_option maxRecDepth 100000 in
theorem concat_any (V : Nat) (A1 : Option Addr) (n1 c1 : Nat) (l1 : List UInt8) (A2 : Option Addr) (n2 c2 : Nat) (l2 : List UInt8) (w : World) (hv0 : w.cell? ⟨V, 0, none⟩ = some (.slice A1 n1 c1)) (hv1 : w.cell? ⟨V, 1, none⟩ = some (.slice A2 n2 c2))
    (h1 : Bs w A1 n1 l1) (h2 : Bs w A2 n2 l2) (hn : n1 + n2 ≤ 70368744177664) :
    Calls Try.prog 22 #[.slice (some ⟨V, 0, none⟩) 2 2] w fun e w' => ∃ A c, e = .returned (.slice A (n1 + n2) c) ∧ w'.ownsRow w.heap.size 5 1 (.slice A (n1 + n2) c) (n1 + n2) ((l1 ++ l2).map bv) ∧ Below w.heap.size w w' := by
  obtain ⟨i0, hi0, hz0, hz1, hz2⟩ := u8_parts
  have hi := hid hi0
  have hz := hid hz0
  have hsz := hid hz1
  have hby := hid hz2
  have H1 := hid h1
  have H2 := hid h2
  have HV0 := hid hv0
  have HV1 := hid hv1
  clear hi0 hz0 hz1 hz2 h1 h2
  go_enter Try.func22, Try.ntmps22
  go_wp2_with fail
  go_loop [3, 11] (fun s i => (s = .int .i64 0 ∧ i = .int .i64 0) ∨ (s = .int .i64 n1 ∧ i = .int .i64 1) ∨ (s = .int .i64 ((n1 + n2 : Nat) : Int) ∧ i = .int .i64 2)) (fun _ i => 2 - (intOf i).toNat)
  case atStart => exact .inl ⟨rfl, rfl⟩
  case round =>
    rcases hrel with ⟨rfl, rfl⟩ | ⟨rfl, rfl⟩ | ⟨rfl, rfl⟩
    · go_wp2_with fail
      go_round
      case rel => exact .inr (.inl ⟨by go_num, rfl⟩)
      case measure => simp [intOf]
    · go_wp2_with fail
      go_round
      case rel => exact .inr (.inr ⟨by go_num, rfl⟩)
      case measure => simp [intOf]
    · clear hv0 hv1
      go_wp2_with (go_at_call 26; go_must (refine (grow_any (n1 + n2) w hn).mono ?_; rintro e w1 ⟨A3, c3, rfl, ho3, hb3⟩; have HO3 := hid ho3; have HB3 := hid hb3; clear ho3 hb3))
      go_loopw [6, 27] (fun s i wr => ∃ A c, (s = .slice A 0 c ∧ i = .int .i64 0 ∧ wr.ownsRow w.heap.size 5 1 (.slice A 0 c) 0 [] ∧ Below w.heap.size w wr) ∨ (s = .slice A n1 c ∧ i = .int .i64 1 ∧ wr.ownsRow w.heap.size 5 1 (.slice A n1 c) n1 (l1.map bv) ∧ Below w.heap.size w wr) ∨
        (s = .slice A (n1 + n2) c ∧ i = .int .i64 2 ∧ wr.ownsRow w.heap.size 5 1 (.slice A (n1 + n2) c) (n1 + n2) ((l1 ++ l2).map bv) ∧ Below w.heap.size w wr)) (fun _ i _ => 2 - (intOf i).toNat)
      case atStart => exact ⟨A3, c3, .inl ⟨rfl, rfl, HO3.out, HB3.out⟩⟩
      case round =>
        obtain ⟨A, c, hr⟩ := hrel
        rcases hr with ⟨rfl, rfl, hown, hb⟩ | ⟨rfl, rfl, hown, hb⟩ | ⟨rfl, rfl, hown, hb⟩
        · have HO := hid hown
          have HB := hid hb
          have hv0 := below_keep hb _ _ HV0.out
          have hw := hb.size
          have HS := hid (H1.out.below hb)
          clear hown hb
          go_wp2_with (at_builtin; go_loud (refine wpList_app _ rfl _ _ _ rfl w.heap.size 5 i0 _ 1 1 Try.underlying25 hi.out hz.out hsz.out hby.out rfl (by omega) _ 0 _ rfl HO.out A1 n1 c1 _ rfl HS.out (bv_one l1) (by omega) (by omega) hw ?_; intro A4 c4 w4 ho4 hg4 hat4; have HO4 := hid ho4; have HB4 := hid (below_app HB.out HO.out hg4 (Nat.le_refl _) hw); clear ho4 hg4 hat4))
          have h9 := HO4.out
          rw [Nat.zero_add, List.nil_append] at h9
          go_roundw
          case rel => exact ⟨A4, c4, .inr (.inl ⟨by first | rfl | simp, rfl, h9, HB4.out⟩)⟩
          case measure => simp [intOf]
        · have HO := hid hown
          have HB := hid hb
          have hv1 := below_keep hb _ _ HV1.out
          have hw := hb.size
          have HS := hid (H2.out.below hb)
          clear hown hb
          go_wp2_with (at_builtin; go_loud (refine wpList_app _ rfl _ _ _ rfl w.heap.size 5 i0 _ 1 1 Try.underlying25 hi.out hz.out hsz.out hby.out rfl (by omega) _ n1 _ rfl HO.out A2 n2 c2 _ rfl HS.out (bv_one l2) (by omega) (by omega) hw ?_; intro A4 c4 w4 ho4 hg4 hat4; have HO4 := hid ho4; have HB4 := hid (below_app HB.out HO.out hg4 (Nat.le_refl _) hw); clear ho4 hg4 hat4))
          have h9 := HO4.out
          rw [← List.map_append] at h9
          go_roundw
          case rel => exact ⟨A4, c4, .inr (.inr ⟨rfl, rfl, h9, HB4.out⟩)⟩
          case measure => simp [intOf]
        · go_wp2_with fail
          go_ret
          exact ⟨A, c, rfl, hown, hb⟩
end Go.Proofs.Ytakkabilpjjmgaa
