/- wlvlaw8.Same at two tables that stand alike: yes. Conditions: at most 4096 fields. -/
import Derived.Test.YtjeocmglcgnclaaDoorGd
import Derived.Test.YtjeocmglcgnclaaDoorGr
namespace Go.Proofs.YtjeocmglcgnclaaDoor
open Go.RowKit
attribute [local go_sem] kd kdS

set_option maxHeartbeats 1000000 in
set_option maxRecDepth 100000 in
theorem same8_any {B g B' g' : Nat} {F F' : List Nat} {most : Int} {L : List Fd} {w : World} (ha : Tb w B F g most L) (hb : RT w B' F' g' most L) (hn : L.length ≤ 4096) :
    Calls Tryd.prog 20 #[.pointer (some ⟨g, 0, none⟩), .pointer (some ⟨g', 0, none⟩)] w fun e w' => e = .returned (.bool true) ∧ Below w.heap.size w w' := by
  obtain ⟨QA, qn, qc, hq, hG⟩ := hb
  have hql := hq.len
  have HA := hid ha
  have HQ := hid hq
  have L0 : Hid (∀ w', Below w.heap.size w w' → (Instr.loadAt 3 (.pointer (some ⟨g', 0, none⟩))).run Tryd.prog w' = .ok (.int .i64 most) w') := hid fun w' hw => by
    have z0 := (hq.blk.below hw hq.blk.lt).cell 0
    simp at z0
    clear hq
    go_simp
  have L1 : Hid (∀ w', Below w.heap.size w w' → (Instr.loadAt 33 (.pointer (some ⟨g', 1, none⟩))).run Tryd.prog w' = .ok (.slice QA qn qc) w') := hid fun w' hw => by
    have z1 := (hq.blk.below hw hq.blk.lt).cell 1
    simp at z1
    clear hq
    go_simp
  have HSB := hid (show Below w.heap.size w w.drew from (Below.refl _ _).drew)
  clear ha hq hG
  subst hql
  go_enter Tryd.func20, Tryd.ntmps20
  go_upto_region 1 with fail
  (refine wp_mixC (Below w.heap.size w) ?_ ?_ (HSB.out) ?_; (focus kernel_rfl); (focus kernel_rfl); intro KK hKK; go_wp2_with (first
                                        | (first
    | ((with_reducible refine mixS_load L0.out ?_ ?_ ?_); (focus rfl); (focus rfl))
    | ((with_reducible refine mixS_load L1.out ?_ ?_ ?_); (focus rfl); (focus rfl))
    | (go_at_call 12; go_must (refine (len_tb (HA.out.below HSB.out)).mono ?_; rintro e w12 ⟨rfl, rfl⟩))
    | (go_at_call 14; go_must (refine (most_tb (HA.out.below HSB.out)).mono ?_; rintro e w12 ⟨rfl, rfl⟩))
    | ((with_reducible refine And.intro ?_ ?_); (focus (exact HSB.out))))
                                        | (with_reducible refine mix_nil ?_)
                                        | ((with_reducible refine mixS_on ?_ ?_); (focus rfl); intro K K' hK hK'; go_simp; (first | ((with_reducible refine hK _ _ ?_); clear hK hK' K K') | ((with_reducible refine hK' _ _ ?_); clear hK hK' K K') | skip))
                                        | ((with_reducible refine mixS_off ?_ ?_); (focus rfl); intro K hK; go_simp; (first | ((with_reducible refine hK _ _ ?_); clear hK K) | skip))
                                        | ((with_reducible refine mixS_step ?_); intro K K' hK hK'; go_simp; (first | ((with_reducible refine hK _ _ ?_); clear hK hK' K K') | ((with_reducible refine hK' _ _ ?_); clear hK hK' K K') | skip))))
  go_wp2_with fail
  go_loopw [5] (fun i wr => ∃ d : Nat, d ≤ L.length ∧ i = .int .i64 ((d : Int) + 1) ∧ Below w.heap.size w wr) (fun i _ => L.length + 1 - (intOf i).toNat)
  case atStart => exact ⟨0, Nat.zero_le _, rfl, HSB.out⟩
  case round =>
    obtain ⟨d, hd, rfl, hb⟩ := hrel
    have HB := hid hb
    have k1 := (HQ.out.blk.below hb HQ.out.blk.lt).cell 1
    simp at k1
    have K1 := hid k1
    clear hb
    by_cases hlt : d < L.length
    · obtain ⟨b, o, f, hQA, hf, f0, f1, f2⟩ := Fs.at_ (w := wr) (HQ.out.fs.below HB.out) (i := d) (by omega)
      have HE : Hid (getF L ((d : Int) + 1) = (f, true)) := hid (by
        rw [List.getElem?_reverse (by omega)] at hf
        unfold getF
        rw [if_pos (by omega), show ((d : Int) + 1).toNat = d + 1 by omega, show L.length - (d + 1) = L.length - 1 - d by omega, hf]
        rfl)
      have HF0 := hid f0
      have HF1 := hid f1
      have HF2 := hid f2
      clear f0 f1 f2 hf
      have hdi : (d : Int) + 1 ≤ L.length := by omega
      have hdn : (d : Int) < L.length := by omega
      have hd0 : (0 : Int) ≤ d := by omega
      have hw1 := IntWalk.i64_in (d : Int) (by omega)
      go_wp2_with fail
      refine (get_tb ((d : Int) + 1) (HA.out.below HB.out) (by omega)).mono ?_
      rw [HE.out]
      rintro e w5 ⟨rfl, hb5⟩
      have HB5 := hid hb5
      clear hb5 k1
      go_upto_region 7 with fail
      obtain ⟨w6, hw6⟩ : ∃ w6, w5.alloc (.cells #[.string f.n, .string f.v, .bool f.x] 23) = w6 := ⟨_, rfl⟩
      have hF6 : Blk w6 w5.heap.size 23 #[.string f.n, .string f.v, .bool f.x] := by rw [← hw6]; exact Blk.new w5 _ _
      have hb6 : Below w5.heap.size w5 w6 := by rw [← hw6]; exact (Below.refl _ _).alloc (Nat.le_refl _) _
      rw [hw6]
      have e0 := hF6.cell 0
      have e1 := hF6.cell 1
      have e2 := hF6.cell 2
      have hb7 := HB5.out.trans (hb6.mono HB5.out.size)
      have k1 := below_keep hb7 _ _ K1.out
      have f0 := below_keep hb7 _ _ HF0.out
      have f1 := below_keep hb7 _ _ HF1.out
      have f2 := below_keep hb7 _ _ HF2.out
      simp at e0 e1 e2
      have HB7 := hid (HB.out.trans (hb7.mono HB.out.size))
      clear hF6 hb6 hw6 hb7 K1 HF0 HF1 HF2
      generalize w5.heap.size = p1 at e0 e1 e2 ⊢
      subst hQA
      (refine wp_mix ?_ ?_ ?_; (focus kernel_rfl); (focus kernel_rfl); intro KK hKK; go_wp2_with (first
            | (fail)
            | (with_reducible refine mix_nil ?_)
            | ((with_reducible refine mix_on ?_ ?_); (focus rfl); intro K hK; go_simp; (first | ((with_reducible refine hK _ _ ?_); clear hK K) | skip))
            | ((with_reducible refine mix_off ?_ ?_); (focus rfl); intro K hK; go_simp; (first | ((with_reducible refine hK _ _ ?_); clear hK K) | skip))
            | ((with_reducible refine mix_step ?_); intro K hK; go_simp; (first | ((with_reducible refine hK _ _ ?_); clear hK K) | skip))))
      go_wp2_with fail
      go_roundw
      case rel => exact ⟨d + 1, by omega, by go_num, HB7.out.drew⟩
      case measure => simp [intOf]; omega
    · have hdi : (L.length : Int) < (d : Int) + 1 := by omega
      go_wp2_with fail
      go_ret
      exact ⟨rfl, HB.out⟩
end Go.Proofs.YtjeocmglcgnclaaDoor
