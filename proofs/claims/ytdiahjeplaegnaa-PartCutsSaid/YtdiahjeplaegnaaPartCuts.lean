/- PartCuts' walk. No condition. -/
import Derived.Test.YtdiahjeplaegnaaCuts0
import Derived.Test.YtdiahjeplaegnaaCuts1
namespace Go.Proofs.Ytdiahjeplaegnaa
open Go.RowKit

set_option maxHeartbeats 2000000 in
set_option maxRecDepth 100000 in
theorem cuts_bad (stream more : Int) (w : World) (hbad : stream < 1 ∨ 2147483647 < stream ∨ more < 0 ∨ 1 < more) :
    Calls Try.prog 5 #[.int .i64 stream, .int .i64 more] w fun e w' => e = .returned (.bool true) ∧ Below w.heap.size w w' := by
  have hb' : stream < 1 ∨ (1 ≤ stream ∧ 2147483647 < stream) ∨ (1 ≤ stream ∧ stream ≤ 2147483647 ∧ more < 0) ∨ (1 ≤ stream ∧ stream ≤ 2147483647 ∧ 0 ≤ more ∧ 1 < more) := by omega
  clear hbad
  go_enter Try.func5, Try.ntmps5
  go_wp2_with fail
  refine (first_any w).mono ?_
  rintro e w1 ⟨rfl, hb1⟩
  have HB1 := hid hb1
  clear hb1
  rcases hb' with h2 | ⟨h2, h3⟩ | ⟨h2, h3, h4⟩ | ⟨h2, h3, h4, h5⟩
  all_goals
    go_wp2_with fail
    refine (first_any w1).mono ?_
    rintro e w2 ⟨rfl, hb2⟩
    have HB2 := hid (HB1.out.trans (hb2.mono HB1.out.size))
    clear hb2
    go_wp2_with fail
    go_ret
    exact ⟨rfl, HB2.out⟩
theorem cuts_walk (stream more : Int) (w : World) :
    Calls Try.prog 5 #[.int .i64 stream, .int .i64 more] w fun e w' => e = .returned (.bool true) ∧ Below w.heap.size w w' := by
  by_cases hbad : stream < 1 ∨ 2147483647 < stream ∨ more < 0 ∨ 1 < more
  · exact cuts_bad stream more w hbad
  · rcases (show more = 0 ∨ more = 1 by omega) with rfl | rfl
    · exact cuts_walk0 stream w (by omega) (by omega)
    · exact cuts_walk1 stream w (by omega) (by omega)
end Go.Proofs.Ytdiahjeplaegnaa
