/- The reference's Exact, where both hold the same. No condition. -/
import Derived.Test.YtdiejemhhcaicaaDoorGr
namespace Go.Proofs.YtdiejemhhcaicaaDoor
open Go.RowKit
attribute [local go_sem] kd kdS
attribute [local go_sem ↓] sliced_word
attribute [local go_sem] offA_zero

set_option maxHeartbeats 1000000 in
set_option maxRecDepth 100000 in
theorem exact_any (A : Option Addr) (n c : Nat) (A' : Option Addr) (n' c' : Nat) (l : List Fd) (w : World) (h : Fs w A n l) (h' : Fs w A' n' l) (hn : n ≤ 1099511627776) :
    Calls Tryd.prog 15 #[.slice A n c, .slice A' n' c'] w fun e w' => e = .returned (.bool true) ∧ Below w.heap.size w w' := by
  have H := hid h
  have H' := hid h'
  have hlen := h.len
  have hlen' := h'.len
  have hnn : n = n' := by omega
  clear h h' hlen'
  subst hnn
  have HS : Hid (sameL l l = true) := hid (by simp [sameL])
  go_enter Tryd.func15, Tryd.ntmps15
  go_wp2_with fail
  refine (rsame_any A n c l A' n c' l w H.out H'.out hn).mono ?_
  rintro e w1 ⟨rfl, hb1⟩
  rw [HS.out]
  have HB1 := hid hb1
  clear hb1
  go_wp2_with fail
  go_loopw [5] (fun i wr => ∃ k : Nat, k ≤ n ∧ i = .int .i64 k ∧ Below w.heap.size w wr) (fun i _ => n - (intOf i).toNat)
  case atStart => exact ⟨0, Nat.zero_le _, rfl, HB1.out⟩
  case round =>
    obtain ⟨k, hk, rfl, hb⟩ := hrel
    have HB := hid hb
    by_cases hgo : k < n
    · obtain ⟨b, o, f, rfl, hf, c0, c1, c2⟩ := Fs.at_ (H.out.below hb) hgo
      obtain ⟨b', o', f', rfl, hf', d0, d1, d2⟩ := Fs.at_ (H'.out.below hb) hgo
      obtain rfl : f = f' := by rw [hf] at hf'; injection hf'
      have z1 : (f.x == f.x) = true := beq_iff_eq.2 rfl
      clear hb hf hf'
      go_wp2_with fail
      (refine wp_mix ?_ ?_ ?_; (focus kernel_rfl); (focus kernel_rfl); intro KK hKK; go_wp2_with (first
            | (fail)
            | (with_reducible refine mix_nil ?_)
            | ((with_reducible refine mix_on ?_ ?_); (focus rfl); intro K hK; go_simp; (first | ((with_reducible refine hK _ _ ?_); clear hK K) | skip))
            | ((with_reducible refine mix_off ?_ ?_); (focus rfl); intro K hK; go_simp; (first | ((with_reducible refine hK _ _ ?_); clear hK K) | skip))
            | ((with_reducible refine mix_step ?_); intro K hK; go_simp; (first | ((with_reducible refine hK _ _ ?_); clear hK K) | skip))))
      all_goals
        go_wp2_with fail
        go_roundw
        case rel => exact ⟨k + 1, by omega, by go_num, HB.out.drew⟩
        case measure => simp [intOf]; omega
    · obtain rfl : k = n := by omega
      clear hb hgo
      go_wp2_with fail
      go_ret
      exact ⟨rfl, HB.out⟩
end Go.Proofs.YtdiejemhhcaicaaDoor
