/- The example of chapter 25. -/
import Derived.Test.YtefhadfcipifmaaTun2
import Derived.Test.YtefhadfcipifmaaTun3
namespace Go.Proofs.Ytefhadfcipifmaa
open Go.RowKit
attribute [local go_sem] kd kdS

set_option maxHeartbeats 1000000 in
set_option maxRecDepth 100000 in
theorem first_any (w : World) : Calls Try.prog 7 #[] w fun e w' => e = .returned (.bool true) ∧ Below w.heap.size w w' := by
  go_enter Try.func7, Try.ntmps7
  go_wp2_with fail
  go_must (refine (tnew_any 1 2 3 0 _ _ _ 80 100 _ (by decide)).mono ?_)
  rintro e w1 ⟨tb, G, rfl, ht, hb⟩
  have HT := hid ht
  have HB := hid hb
  clear ht hb
  go_wp2_with (first
    | (go_at_call 12; go_must (refine (write_no 9 0 HT.out (by decide)).mono ?_; rintro e w2 ⟨rfl, rfl⟩))
    | (go_at_call 30; go_must (refine (where_any HT.out).mono ?_; rintro e w2 ⟨rfl, hb2⟩; have HB2 := hid (HB.out.trans (hb2.mono HB.out.size)); have HT2 := hid (HT.out.below hb2); clear hb2))
    | (go_at_call 19; go_must (refine (state_any HT2.out).mono ?_; rintro e w3 ⟨rfl, rfl⟩))
    | (go_at_call 31; go_must (refine (id_any HT2.out).mono ?_; rintro e w3 ⟨rfl, rfl⟩)))
  go_ret
  exact ⟨rfl, HB2.out⟩
end Go.Proofs.Ytefhadfcipifmaa
