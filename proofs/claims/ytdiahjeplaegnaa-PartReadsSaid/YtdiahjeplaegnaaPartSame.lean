/- The reference's SamePart of two parts that say the same. No condition. -/
import Derived.Test.YtdiahjeplaegnaaPartRead
import Derived.Test.YtdiahjeplaegnaaPartMake2
namespace Go.Proofs.Ytdiahjeplaegnaa
open Go.RowKit
attribute [local go_sem] kd kdS
attribute [local go_sem ↓] sliced_word
attribute [local go_sem] offA_zero

set_option maxHeartbeats 4000000 in
set_option maxRecDepth 100000 in
theorem same_part (P : PR) (w : World) (Ad : Option Addr) (nd cd : Nat) (As : Option Addr) (ns cs : Nat) (Ad' : Option Addr) (nd' cd' : Nat) (As' : Option Addr) (ns' cs' : Nat) (h1 : Bs w Ad nd P.d) (h2 : Bs w Ad' nd' P.d) (hns : ns ≤ 1099511627776) (h3 : Sts w As ns P.sets) (h4 : Sts w As' ns' P.sets) :
    Calls Try.prog 11 #[pv Ad nd cd P.pad P.code P.last P.step As ns cs P.e P.a P.w, pv Ad' nd' cd' P.pad P.code P.last P.step As' ns' cs' P.e P.a P.w] w fun e w' => e = .returned (.bool true) ∧ Below w.heap.size w w' := by
  obtain rfl : nd = nd' := by rw [← h1.len, ← h2.len]
  obtain rfl : ns = ns' := by rw [← h3.len, ← h4.len]
  generalize P.pad = pad
  generalize P.code = code
  generalize P.last = last
  generalize P.step = step
  generalize P.e = e0
  generalize P.a = a0
  generalize P.w = w0
  generalize P.d = l at h1 h2
  generalize P.sets = st at h3 h4
  have H1 := hid h1
  have H2 := hid h2
  have H3 := hid h3
  have H4 := hid h4
  clear h1 h2 h3 h4
  unfold pv
  go_enter Try.func11, Try.ntmps11
  go_upto_region 1 with fail
  obtain ⟨wa, hwa⟩ : ∃ wa, (w.alloc (.cells #[.slice Ad nd cd, .int .i64 pad, .int .i64 code, .int .i64 last, .int .i64 step, .slice As ns cs, .bool e0, .bool a0, .bool w0] 28)).alloc (.cells #[.slice Ad' nd cd', .int .i64 pad, .int .i64 code, .int .i64 last, .int .i64 step, .slice As' ns cs', .bool e0, .bool a0, .bool w0] 28) = wa := ⟨_, rfl⟩
  have hA : Blk wa w.heap.size 28 #[.slice Ad nd cd, .int .i64 pad, .int .i64 code, .int .i64 last, .int .i64 step, .slice As ns cs, .bool e0, .bool a0, .bool w0] := by rw [← hwa]; exact (Blk.new w _ _).alloc _
  have hB : Blk wa (w.heap.size + 1) 28 #[.slice Ad' nd cd', .int .i64 pad, .int .i64 code, .int .i64 last, .int .i64 step, .slice As' ns cs', .bool e0, .bool a0, .bool w0] := by
    rw [← hwa]
    have := Blk.new (w.alloc (.cells #[.slice Ad nd cd, .int .i64 pad, .int .i64 code, .int .i64 last, .int .i64 step, .slice As ns cs, .bool e0, .bool a0, .bool w0] 28)) 28 #[.slice Ad' nd cd', .int .i64 pad, .int .i64 code, .int .i64 last, .int .i64 step, .slice As' ns cs', .bool e0, .bool a0, .bool w0]
    simpa using this
  have hb : Below w.heap.size w wa := by rw [← hwa]; exact ((Below.refl _ _).alloc (Nat.le_refl _) _).alloc (by simp) _
  rw [hwa]
  clear hwa
  obtain ⟨p0, p1, p2, p3, p4, p5, p6, p7, p8, _, _, _⟩ := blk9 hA
  obtain ⟨q0, q1, q2, q3, q4, q5, q6, q7, q8, _, _, _⟩ := blk9 hB
  have HB := hid hb
  have P5 := hid p5
  have Q5 := hid q5
  clear hA hB hb
  go_wp2_with fail
  refine (same_bytes Ad Ad' nd cd nd cd' l l wa (H1.out.below HB.out) (H2.out.below HB.out)).mono ?_
  rw [beq_self_eq_true]
  rintro e w2 ⟨rfl, rfl⟩
  go_wp2_with fail
  clear p0 p1 p2 p3 p4 p5 p6 p7 p8 q0 q1 q2 q3 q4 q5 q6 q7 q8
  go_loopw [5] (fun i wr => ∃ j : Nat, j ≤ ns ∧ i = .int .i64 j ∧ Below wa.heap.size wa wr) (fun i _ => ns - (intOf i).toNat)
  case atStart => exact ⟨0, Nat.zero_le _, rfl, Below.refl _ _⟩
  case round =>
    obtain ⟨j, hj, rfl, hbr⟩ := hrel
    have HBR := hid hbr
    have p5 := below_keep hbr _ _ P5.out
    have q5 := below_keep hbr _ _ Q5.out
    clear hbr
    by_cases hjk : j < ns
    · obtain ⟨b0, o0, x, rfl, hx, hc0, hc1⟩ := (show Sts wr As ns st from Rd.below H3.out (HB.out.trans (HBR.out.mono HB.out.size))).at_ hjk
      obtain ⟨b1, o1, x', rfl, hx', hd0, hd1⟩ := (show Sts wr As' ns st from Rd.below H4.out (HB.out.trans (HBR.out.mono HB.out.size))).at_ hjk
      obtain rfl : x' = x := by rw [hx] at hx'; injection hx' with hx'; exact hx'.symm
      clear hx hx'
      go_wp2_with fail
      (refine wp_mix ?_ ?_ ?_; (focus kernel_rfl); (focus kernel_rfl); intro KK hKK; go_wp2_with (first
            | (fail)
            | (with_reducible refine mix_nil ?_)
            | ((with_reducible refine mix_on ?_ ?_); (focus rfl); intro K hK; go_simp; (first | ((with_reducible refine hK _ _ ?_); clear hK K) | skip))
            | ((with_reducible refine mix_off ?_ ?_); (focus rfl); intro K hK; go_simp; (first | ((with_reducible refine hK _ _ ?_); clear hK K) | skip))
            | ((with_reducible refine mix_step ?_); intro K hK; go_simp; (first | ((with_reducible refine hK _ _ ?_); clear hK K) | skip))))
      go_roundw
      case rel => exact ⟨j + 1, by omega, by go_num, HBR.out.drew⟩
      case measure => simp [intOf]; omega
    · obtain rfl : j = ns := by omega
      clear hjk
      go_wp2_with fail
      go_ret
      exact ⟨rfl, HB.out.trans (HBR.out.mono HB.out.size)⟩
end Go.Proofs.Ytdiahjeplaegnaa
