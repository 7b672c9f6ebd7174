/- 'append(b, make([]byte, k)...)' on a row of bytes of the call's own. Condition: at most 2^45 bytes. -/
import Derived.Test.YtdiahjeplaegnaaBytesFn
import Derived.Test.YtdiahjeplaegnaaTurn
import Derived.Lib.AppendZerosOnto
import Derived.Lib.Walk
import Derived.Lib.SliceRun
import Derived.Laws.CopyRow
namespace Go.Proofs.Ytdiahjeplaegnaa
open Go.RowKit

theorem rep_bv (k : Nat) : (List.replicate k (0 : UInt8)).map bv = List.replicate k (.int .u8 0) := by
  rw [List.map_replicate]; rfl
theorem zeroCells_u8 (k : Nat) : Builtin.zeroCells (Value.int .u8 0).cells k = (List.replicate k (Value.int .u8 0)).toArray := by
  unfold Builtin.zeroCells
  simp [Value.cells]
  apply Array.ext
  · simp
  · intro i h1 h2
    simp [Nat.mod_one]

theorem run_app_zeros (w : World) (base : Nat) (ty : TypeId) (A : Option Addr) (n c k : Nat) (l : List UInt8) (hown : w.ownsRow base 5 1 (.slice A n c) n (l.map bv)) (hn : n + k ≤ 35184372088832) (hbase : base ≤ w.heap.size) :
    ∃ A' c' w', (Builtin.append_ #[25, 3] ty #[.slice A n c, .int .i64 k]).run Try.prog w = .ok (.slice A' (n + k) c') w' ∧ w'.ownsRow base 5 1 (.slice A' (n + k) c') (n + k) ((l ++ List.replicate k 0).map bv) ∧ w.grownBy w' (Value.slice A n c).ownBlock := by
  obtain ⟨i0, hi0, hz0, hs0, hb0⟩ := info_parts u8_info
  have hw : IntKind.i64.wrap (k : Int) = k := by rw [IntKind.wrap_i64]; omega
  have hneg : ¬ ((k : Int) < 0) := by omega
  have h48i : ¬ (281474976710656 < (k : Int) * (i0.bytes : Int)) := by rw [hb0]; omega
  have grow : ∀ (old : Option Addr) (olds : List Value) (sc : Nat), sc < n + k → 0 < k → olds.length = n → olds = l.map bv → (Builtin.firstCells 1 n (.slice old n sc)).run Try.prog w.drew = .ok olds.toArray w.drew →
      ∃ A' c' w', (Builtin.append_ #[25, 3] ty #[.slice old n sc, .int .i64 k]).run Try.prog w = .ok (.slice A' (n + k) c') w' ∧ w'.ownsRow base 5 1 (.slice A' (n + k) c') (n + k) ((l ++ List.replicate k 0).map bv) ∧ ∀ row, w.grownBy w' row := by
    intro old olds sc hsc hk hol he hf
    have h := Lib.run_append_grow_zeros (P := Try.prog) w 25 3 ty 5 i0 (.int .u8 0) .i64 .i64 Try.underlying25 Try.underlying3 hi0 hz0 old n sc olds (by rw [hs0]; exact hf) k hk (by omega) hsc (by omega) (by rw [hb0]; omega) (by rw [hb0]; exact growslice_fits (by omega) (by omega))
    have hge : n + k ≤ grownCap w (n + k) sc 5 := grownCap_ge w _ _ _
    have hle : grownCap w (n + k) sc 5 ≤ maxLen := grownCap_le_maxLen w (n + k) sc 5 (by unfold maxLen; omega)
    refine ⟨_, _, _, h, ⟨?_, .inr ⟨w.heap.size, _, _, rfl, hbase, heap_alloc_new w.drew _, hge, hle, ?_, ?_⟩⟩, fun row => ⟨rfl, rfl, rfl, by simp, fun j hj _ => Below.heap_alloc w.drew _ j hj⟩⟩
    · have hll : l.length = n := by rw [he] at hol; simpa using hol
      simp [hll]
    · rw [zeroCells_u8, zeroCells_u8]
      simp [hol]
      omega
    · rw [zeroCells_u8, zeroCells_u8, List.map_append, rep_bv, ← he]
      simp only [Array.toList_append, List.append_assoc]
      rw [Nat.mul_one, ← List.append_assoc, List.take_append_of_le_length (by simp [hol]), List.take_of_length_le (by simp [hol])]
  rcases hown.2 with ⟨hv, hx⟩ | ⟨g, cap, cur, hv, hbg, hg, hnc, hcm, hcs, htake⟩
  · injection hv with h1 h2 h3
    subst h1 h2 h3
    have hl : l = [] := List.eq_nil_of_length_eq_zero (by have := hown.1; simpa using this)
    subst hl
    rcases Nat.eq_zero_or_pos k with h0 | h0
    · subst h0
      refine ⟨none, 0, w, ?_, by simpa using World.ownsRow_nil _ _ _ _, World.grownBy.refl w _⟩
      simp [Builtin.append_, run_underlying Try.underlying25, run_underlying Try.underlying3, sizeOf, typeInfo, hi0, asInt, asIntOf, show IntKind.i64.wrap 0 = 0 from rfl]
    · obtain ⟨A', c', w', r1, r2, r3⟩ := grow none [] 0 (by omega) h0 rfl rfl (by have := run_firstCells_none (P := Try.prog) w.drew 1 0 0 0; simpa using this)
      exact ⟨A', c', w', r1, r2, r3 _⟩
  · injection hv with h1 h2 h3
    subst h1 h3
    have hlen : l.length = n := by have := hown.1; simpa using this
    rcases Nat.eq_zero_or_pos k with h0 | h0
    · subst h0
      refine ⟨some ⟨g, 0, none⟩, c, w, ?_, by simpa using hown, World.grownBy.refl w _⟩
      simp [Builtin.append_, run_underlying Try.underlying25, run_underlying Try.underlying3, sizeOf, typeInfo, hi0, asInt, asIntOf, hnc, storeCells, show IntKind.i64.wrap 0 = 0 from rfl]
    · by_cases hroom : n + k ≤ c
      · have hns : ¬ (k * i0.size = 0) := by rw [hs0]; omega
        have hfit : n + (List.replicate k (Value.int .u8 0)).length ≤ cur.size := by
          rw [List.length_replicate]
          omega
        have hst := run_storeCells_at Try.prog g n 5 (List.replicate k (Value.int .u8 0)) 0 cur w hg (by simpa using hfit) (fun v hv => by rw [(List.mem_replicate.1 hv).2]; rfl)
        simp only [Nat.add_zero] at hst
        have hk0 : ¬ k = 0 := by omega
        have hrun : (Builtin.append_ #[25, 3] ty #[.slice (some ⟨g, 0, none⟩) n c, .int .i64 k]).run Try.prog w =
            .ok (.slice (some ⟨g, 0, none⟩) (n + k) c) (w.setRow g (cur.toList.take n ++ List.replicate k (Value.int .u8 0) ++ cur.toList.drop (n + (List.replicate k (Value.int .u8 0)).length)).toArray) := by
          simp [Builtin.append_, run_underlying Try.underlying25, run_underlying Try.underlying3, sizeOf, typeInfo, zeroValue, hi0, hz0, hs0, asInt, asIntOf, hw, hneg, hroom, hk0, h48i, zeroCells_u8, Addr.add_lit]
          simpa using congrArg (fun r => r.andThen fun _ w' => Result.ok (Value.slice (some ⟨g, 0, none⟩) (n + k) c) w') hst
        refine ⟨_, _, _, hrun, ⟨?_, .inr ⟨g, c, _, rfl, hbg, setRow_heap w g cur _ 5 _ hg, hroom, hcm, ?_, ?_⟩⟩, ⟨rfl, rfl, rfl, by simp, fun j _ hj => setRow_other w g j _ (fun e => hj (by simp [Value.ownBlock, e]))⟩⟩
        · simp [hlen]
        · simp
          omega
        · rw [List.map_append, rep_bv, ← htake, Nat.mul_one]
          have hl2 : (cur.toList.take n ++ List.replicate k (Value.int .u8 0)).length = n + k := by
            rw [List.length_append, List.length_replicate, List.length_take]
            have : n ≤ cur.toList.length := by simp; omega
            omega
          rw [Nat.mul_one, ← hl2]
          exact List.take_left
      · have hcells : ∀ j u, (l.map bv)[j]? = some u → w.drew.cell? ((⟨g, 0, none⟩ : Addr).add j) = some u := fun j u hu => by
          have := hown.cells (g := g) rfl j u hu
          exact this
        obtain ⟨A', c', w', r1, r2, r3⟩ := grow (some ⟨g, 0, none⟩) (l.map bv) c (by omega) h0 (by simpa using hlen) rfl (run_firstCells_some (P := Try.prog) w.drew 1 n ⟨g, 0, none⟩ n c (l.map bv) (by simpa using hlen) hcells)
        exact ⟨A', c', w', r1, r2, r3 _⟩
end Go.Proofs.Ytdiahjeplaegnaa
