/- The reference's Begins. Each lemma names its own conditions. -/
import Derived.Test.YtefhadfcipifmaaBytesFn
import Derived.Test.YtefhadfcipifmaaMix
namespace Go.Proofs.Ytefhadfcipifmaa
open Go.RowKit
attribute [local go_sem] kd kdS kdc if_min if_max if_minN if_maxN
attribute [local go_sem ↓] sliced_word
attribute [local go_sem] offA_zero

set_option maxHeartbeats 400000 in
set_option maxRecDepth 100000 in
theorem begins_any (A A' : Option Addr) (n c n' c' : Nat) (l l' : List UInt8) (w : World) (h : Bs w A n l) (h' : Bs w A' n' l') (hc : n ≤ c) :
    Calls Try.prog 29 #[.slice A n c, .slice A' n' c'] w fun e w' => e = .returned (.bool (decide (n' ≤ n) && (l.take n' == l'))) ∧ Below w.heap.size w w' := by
  go_enter Try.func29, Try.ntmps29
  have hd := (Below.refl w.heap.size w).drew
  by_cases hn : n' ≤ n
  · have k1 := run_str (P := Try.prog) (c := c) ((h.to hn).below hd) 22 9 5 Try.underlying22 Try.underlying5 Try.underlying9
    have k2 := run_str (P := Try.prog) (c := c') (h'.below hd) 22 9 5 Try.underlying22 Try.underlying5 Try.underlying9
    have HD := hid hd
    clear h h' hd
    go_wp2_with fail
    refine wp_mixc ?_ ?_ ?_
    · kernel_rfl
    · kernel_rfl
    intro KK hKK
    go_wp2_with (first
      | (with_reducible refine mix_nil ?_)
      | ((with_reducible refine mix_on ?_ ?_); (focus rfl); intro K hK; go_simp)
      | ((with_reducible refine mix_off ?_ ?_); (focus rfl); intro K hK; go_simp)
      | ((with_reducible refine mix_step ?_); intro K hK; go_simp))
    all_goals
      go_ret
      exact ⟨by rw [decide_eq_true hn]; rfl, HD.out⟩
  · clear h h'
    go_wp2_with fail
    refine wp_mixc ?_ ?_ ?_
    · kernel_rfl
    · kernel_rfl
    intro KK hKK
    go_wp2_with (first
      | (with_reducible refine mix_nil ?_)
      | ((with_reducible refine mix_on ?_ ?_); (focus rfl); intro K hK; go_simp)
      | ((with_reducible refine mix_off ?_ ?_); (focus rfl); intro K hK; go_simp)
      | ((with_reducible refine mix_step ?_); intro K hK; go_simp))
    all_goals
      go_ret
      exact ⟨by rw [decide_eq_false hn]; rfl, hd⟩
end Go.Proofs.Ytefhadfcipifmaa
