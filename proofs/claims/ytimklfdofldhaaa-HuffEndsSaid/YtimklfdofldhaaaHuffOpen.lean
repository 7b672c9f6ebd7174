/- What opened answers: the book of all codes. No condition. -/
import Derived.Test.YtimklfdofldhaaaHuffBook
namespace Go.Proofs.Ytimklfdofldhaaa
open Go.RowKit
attribute [local go_sem] kd kdS

theorem book_zero (w : World) : (zeroValue 50).run Try.prog w = .ok (.agg (vals (fK 0) (mK 0) (pK 0) (.slice none 0 0))) w := by kernel_rfl

set_option maxHeartbeats 4000000 in
set_option maxRecDepth 100000 in
theorem opened_any (w : World) : Calls Try.prog 19 #[] w fun e w' => ∃ A c, e = .returned (.pointer (some ⟨w.heap.size, 0, none⟩)) ∧ BookAt w' w.heap.size (fK 26) (mK 26) (pK 26) A c (ordB 26) ∧ Below w.heap.size w w' := by
  obtain ⟨i0, hi0, hz0, hz1, hz2⟩ := info_parts int_info
  have hi := hid hi0
  have hz := hid hz0
  have hsz := hid hz1
  have hby := hid hz2
  clear hi0 hz0 hz1 hz2
  have hbz := book_zero
  generalize hva : vals (fK 0) (mK 0) (pK 0) (.slice none 0 0) = va at hbz
  go_enter Try.func19, Try.ntmps19
  go_upto_region 2 with fail
  have hblk : Blk (w.alloc (.cells va 50)) w.heap.size 50 va := Blk.new w _ _
  have hbw : Below w.heap.size w (w.alloc (.cells va 50)) := (Below.refl _ _).alloc (Nat.le_refl _) _
  have hgl : w.heap.size < (w.alloc (.cells va 50)).heap.size := by simp
  subst hva
  have HBK := hid (show BookAt (w.alloc (.cells (vals (fK 0) (mK 0) (pK 0) (.slice none 0 0)) 50)) w.heap.size (fK 0) (mK 0) (pK 0) none 0 (ordB 0) from ⟨hblk, World.ownsRow_nil _ _ _ _⟩)
  have HBW := hid hbw
  clear hblk hbw hbz hgl
  generalize w.alloc (.cells (vals (fK 0) (mK 0) (pK 0) (.slice none 0 0)) 50) = W at HBK HBW ⊢
  generalize Value.agg (vals (fK 0) (mK 0) (pK 0) (.slice none 0 0)) = vagg
  generalize hg : w.heap.size = g at HBK HBW ⊢
  have HG := hid hg
  clear hg
  go_wp2_with fail
  go_loopw [2, 3] (fun co nn wr => ∃ (k : Nat) (A : Option Addr) (c : Nat), k ≤ 26 ∧ nn = .int .i64 ((5 + k : Nat) : Int) ∧ co = .int .i64 (firstC k) ∧ BookAt wr g (fK k) (mK k) (pK k) A c (ordB k) ∧ Below g w wr) (fun _ nn _ => 31 - (intOf nn).toNat)
  case atStart => exact ⟨0, none, 0, by omega, rfl, rfl, HBK.out, HBW.out⟩
  case round =>
    obtain ⟨k, A, c, hk, rfl, rfl, hbk, hb⟩ := hrel
    have HK := hid hbk
    have HB := hid hb
    have hol := ordB_le k
    clear hbk hb HBK HBW
    by_cases hk26 : k < 26
    · have hfc := first_all k (by omega)
      have hfc1 := first_all (k + 1) (by omega)
      have HFC1 := hid (show firstC (k + 1) = 2 * (firstC k + (signs (5 + k)).length) from rfl)
      have hsl := signs_le (5 + k)
      have HFS := hid (fK_succ k)
      have HMS := hid (mK_succ k)
      have HPS := hid (pK_succ k)
      have HOS := hid (ordB_succ k)
      have HFV := hid (show fK (k + 1) (5 + k) = firstC k by unfold fK; rw [if_pos (by omega), Nat.add_sub_cancel_left])
      have HPV := hid (show pK (k + 1) (5 + k) = (ordB k).length by unfold pK; rw [if_pos (by omega), Nat.add_sub_cancel_left])
      generalize hn : 5 + k = n at HFC1 hsl HFS HMS HPS HOS HFV HPV ⊢
      have hn5 : 5 ≤ n := by omega
      have hn30 : n ≤ 30 := by omega
      have HN := hid hn
      have c93 := HK.out.blk.cell 93
      have cf := HK.out.blk.cell n
      have cp := HK.out.blk.cell (62 + n)
      have ff := HK.out.blk.frozen n
      have fp := HK.out.blk.frozen (62 + n)
      rw [vals_o] at c93
      rw [vals_f (by omega)] at cf
      rw [vals_p (by omega)] at cp
      clear hn
      go_wp2_with fail
      (refine wp_mix ?_ ?_ ?_; (focus kernel_rfl); (focus kernel_rfl); intro KK hKK; go_wp2_with (first
            | (fail)
            | (with_reducible refine mix_nil ?_)
            | ((with_reducible refine mix_on ?_ ?_); (focus rfl); intro K hK; go_simp; (first | ((with_reducible refine hK _ _ ?_); clear hK K) | skip))
            | ((with_reducible refine mix_off ?_ ?_); (focus rfl); intro K hK; go_simp; (first | ((with_reducible refine hK _ _ ?_); clear hK K) | skip))
            | ((with_reducible refine mix_step ?_); intro K hK; go_simp; (first | ((with_reducible refine hK _ _ ?_); clear hK K) | skip))))
      have hVb := ((HK.out.blk.set_ n (.int .i64 (firstC k))).set_ (62 + n) (.int .i64 (ordB k).length)).drew
      rw [vals_set_f (by omega), vals_set_p (by omega), HFS.out, HPS.out] at hVb
      have hVt : Turned [g] wr (((wr.setCell ⟨g, n, none⟩ (.int .i64 (firstC k))).setCell ⟨g, 62 + n, none⟩ (.int .i64 (ordB k).length))).drew := (((Turned.refl [g] wr).setCell (p := ⟨g, n, none⟩) (by simp) _).setCell (p := ⟨g, 62 + n, none⟩) (by simp) _).drew
      generalize (((wr.setCell ⟨g, n, none⟩ (.int .i64 (firstC k))).setCell ⟨g, 62 + n, none⟩ (.int .i64 (ordB k).length))).drew = V at hVb hVt ⊢
      have HV := hid (show BookAt V g (fK (k + 1)) (mK k) (pK (k + 1)) A c (ordB k) from ⟨hVb, own_turned HK.out.own hVt (fun b hb hm => by have := (HK.out.own.lt b hb).1; simp at hm; omega)⟩)
      have HBV := hid (HB.out.trans (hVt.below (B := g) (by simp) (Nat.le_of_lt HK.out.blk.lt)))
      clear hVb hVt c93 cf cp ff fp HK HB
      go_loopw [27] (fun ss wv => ∃ (q : Nat) (A2 : Option Addr) (c2 : Nat), q ≤ 257 ∧ ss = .int .i64 q ∧ BookAt wv g (fK (k + 1)) (mK k) (pK (k + 1)) A2 c2 (ordB k ++ (List.range q).filter fun x => hl x == n) ∧ Below g w wv) (fun ss _ => 257 - (intOf ss).toNat)
      case atStart => exact ⟨0, A, c, by omega, rfl, by simpa using HV.out, HBV.out⟩
      case round =>
        obtain ⟨q, A2, c2, hq, rfl, hbk, hb⟩ := hrel
        have HK := hid hbk
        have HB := hid hb
        have HQS := hid (sign_take n q)
        have hfl : ((List.range q).filter fun x => hl x == n).length ≤ 257 := by
          have := List.length_filter_le (fun x => hl x == n) (List.range q)
          simp at this
          omega
        have hll : (ordB k ++ (List.range q).filter fun x => hl x == n).length = (ordB k).length + ((List.range q).filter fun x => hl x == n).length := List.length_append
        clear hbk hb HV HBV
        have c93 := HK.out.blk.cell 93
        rw [vals_o] at c93
        by_cases hq257 : q < 257
        · generalize hL : (ordB k ++ (List.range q).filter fun x => hl x == n) = L at HK c93 hll
          have HL := hid hL
          have hLn : L.length ≤ 10000 := by omega
          clear hL hll hfl
          by_cases hqn : hl q = n
          · have HQN := hid hqn
            have hown := hid HK.out.own
            have hgs : g + 1 ≤ wr.heap.size := HK.out.blk.lt
            go_wp2_with (first
              | (go_at_call 21; go_must (refine (bitsOf_any q wr hq257).mono ?_; rw [HQN.out]; rintro e w2 ⟨rfl, rfl⟩))
              | (at_builtin; go_loud (refine wpList_app _ rfl _ _ _ rfl (g + 1) 3 i0 _ 1 8 Try.underlying34 hi.out hz.out hsz.out hby.out rfl (by omega) _ L.length _ rfl (HK.out.own.alloc _) _ 1 1 _ rfl (rd_one rfl) (by simp [Value.oneCell']) (by omega) (by omega) (by simp; omega) ?_; intro A5 c5 w5 ho5 hg5 hc5; have HO5 := hid ho5; have HG5 := hid hg5; have HB5 := hid ((HK.out.blk.alloc _).grown hg5 (fun e => by have := (HK.out.own.lt g e.symm).1; omega)); have c93 := HB5.out.cell 93; rw [vals_o] at c93; have f93 := HB5.out.frozen 93; clear ho5 hg5 hc5)))
            have hT : Turned [g] w5 (w5.setCell ⟨g, 93, none⟩ (.slice A5 (L.length + 1) c5)) := (Turned.refl [g] w5).setCell (p := ⟨g, 93, none⟩) (by simp) _
            have hb2 := HB5.out.set_ 93 (.slice A5 (L.length + 1) c5)
            rw [vals_set_o] at hb2
            have HT := hid hT
            have HB2 := hid hb2
            clear hT hb2 c93 f93
            have HLE : Hid (ordB k ++ ((List.range (q + 1)).filter fun x => hl x == n) = L ++ [q]) := hid (by rw [HQS.out, if_pos HQN.out, ← List.append_assoc, HL.out])
            go_roundw
            case rel => exact ⟨q + 1, A5, c5, by omega, by go_num, by
              rw [HLE.out]
              refine ⟨by rw [List.length_append]; exact HB2.out, ?_⟩
              rw [List.length_append, ints_append]
              exact own_turned HO5.out HT.out (fun b hb hm => by have := (HO5.out.lt b hb).1; simp at hm; omega), (below_app (HB.out.alloc (by omega) _) (HK.out.own.alloc _) HG5.out (by omega) (by simp; omega)).trans (HT.out.below (B := g) (by simp) (by have := HB5.out.lt; omega))⟩
            case measure => simp [intOf]; omega
          · have HQN := hid hqn
            have hqb : (((hl q : Nat) : Int) == (n : Int)) = false := beq_eq_false_iff_ne.2 (by omega)
            clear hqn
            go_wp2_with (go_at_call 21; go_must (refine (bitsOf_any q wr hq257).mono ?_; rintro e w2 ⟨rfl, rfl⟩))
            have HLE : Hid (ordB k ++ ((List.range (q + 1)).filter fun x => hl x == n) = L) := hid (by rw [HQS.out, if_neg HQN.out, List.append_nil, HL.out])
            go_roundw
            case rel => exact ⟨q + 1, A2, c2, by omega, by go_num, by rw [HLE.out]; exact HK.out, HB.out⟩
            case measure => simp [intOf]; omega
        · obtain rfl : q = 257 := by omega
          have HSG : Hid (ordB k ++ ((List.range 257).filter fun x => hl x == n) = ordB (k + 1)) := hid (by rw [HOS.out]; rfl)
          have HSN : Hid (((List.range 257).filter fun x => hl x == n).length = (signs n).length) := hid rfl
          rw [HSG.out] at HK c93 hll
          rw [HSN.out] at hll hfl
          have cp := HK.out.blk.cell (62 + n)
          have cm := HK.out.blk.cell (31 + n)
          have fm := HK.out.blk.frozen (31 + n)
          rw [vals_p (by omega), HPV.out] at cp
          rw [vals_m (by omega)] at cm
          generalize hSL : (signs n).length = S at HFC1 HMS hll hfl
          generalize hOL : (ordB k).length = N at cp hll hol
          rw [hll] at c93
          have hs1 : IntKind.i64.wrap ((((N + S : Nat) : Int)) - (N : Int)) = (S : Int) := by rw [IntWalk.i64_in _ (by omega)]; omega
          go_wp2_with fail
          (refine wp_mix ?_ ?_ ?_; (focus kernel_rfl); (focus kernel_rfl); intro KK hKK; go_wp2_with (first
                | (fail)
                | (with_reducible refine mix_nil ?_)
                | ((with_reducible refine mix_on ?_ ?_); (focus rfl); intro K hK; go_simp; (first | ((with_reducible refine hK _ _ ?_); clear hK K) | skip))
                | ((with_reducible refine mix_off ?_ ?_); (focus rfl); intro K hK; go_simp; (first | ((with_reducible refine hK _ _ ?_); clear hK K) | skip))
                | ((with_reducible refine mix_step ?_); intro K hK; go_simp; (first | ((with_reducible refine hK _ _ ?_); clear hK K) | skip))))
          rw [show (N : Int) + (S : Int) - (N : Int) = (S : Int) by omega]
          have hVb := (HK.out.blk.set_ (31 + n) (.int .i64 (S : Int))).drew
          rw [vals_set_m (by omega), HMS.out] at hVb
          have hVt : Turned [g] wr (wr.setCell ⟨g, 31 + n, none⟩ (.int .i64 (S : Int))).drew := ((Turned.refl [g] wr).setCell (p := ⟨g, 31 + n, none⟩) (by simp) _).drew
          have HVB := hid hVb
          have HVT := hid hVt
          clear hVb hVt cp cm fm c93
          generalize (wr.setCell ⟨g, 31 + n, none⟩ (.int .i64 (S : Int))).drew = V2 at HVB HVT ⊢
          refine ⟨⟨k + 1, A2, c2, by omega, by have := HN.out; congr 1; omega, by rw [HFC1.out]; congr 1; omega, ⟨HVB.out, own_turned HK.out.own HVT.out (fun b hb hm => by have := (HK.out.own.lt b hb).1; simp at hm; omega)⟩, HB.out.trans (HVT.out.below (B := g) (by simp) (Nat.le_of_lt HK.out.blk.lt))⟩, by simp [intOf]; omega⟩
    · obtain rfl : k = 26 := by omega
      go_wp2_with fail
      go_ret
      rw [HG.out]
      exact ⟨A, c, rfl, HK.out, HB.out⟩
end Go.Proofs.Ytimklfdofldhaaa
