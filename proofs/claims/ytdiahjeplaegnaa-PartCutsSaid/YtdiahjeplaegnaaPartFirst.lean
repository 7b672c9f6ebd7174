/- The law package's own example, and what Read answers in short. No condition. -/
import Derived.Test.YtdiahjeplaegnaaPartRead
import Derived.Test.YtdiahjeplaegnaaPartMake
namespace Go.Proofs.Ytdiahjeplaegnaa
open Go.RowKit
attribute [local go_sem] kd kdS
attribute [local go_sem ↓] sliced_word
attribute [local go_sem] offA_zero

theorem PartPost.of_conn {k : Int} {w w' : World} {e : Ending} (h : PartPost (connP k) w e w') :
    ∃ (Ad : Option Addr) (cd : Nat) (As : Option Addr) (cs : Nat), e = .returned (.tuple #[.agg #[.slice Ad 0 cd, .int .i64 0, .int .i64 0, .int .i64 0, .int .i64 0, .slice As 0 cs, .bool false, .bool false, .bool false], .agg #[.bool true, .bool true, .int .i64 k]]) ∧ Below w.heap.size w w' := by
  obtain ⟨Ad, nd, cd, As, ns, cs, rfl, hd, hs, _, _, hb⟩ := h
  obtain rfl : nd = 0 := hd.len.symm
  obtain rfl : ns = 0 := hs.len.symm
  exact ⟨Ad, cd, As, cs, rfl, hb⟩
theorem PartPost.of_stream {k : Int} {w w' : World} {e : Ending} (h : PartPost (streamP k) w e w') :
    ∃ (Ad : Option Addr) (cd : Nat) (As : Option Addr) (cs : Nat), e = .returned (.tuple #[.agg #[.slice Ad 0 cd, .int .i64 0, .int .i64 0, .int .i64 0, .int .i64 0, .slice As 0 cs, .bool false, .bool false, .bool false], .agg #[.bool true, .bool false, .int .i64 k]]) ∧ Below w.heap.size w w' := by
  obtain ⟨Ad, nd, cd, As, ns, cs, rfl, hd, hs, _, _, hb⟩ := h
  obtain rfl : nd = 0 := hd.len.symm
  obtain rfl : ns = 0 := hs.len.symm
  exact ⟨Ad, cd, As, cs, rfl, hb⟩
theorem PartPost.of_none {w w' : World} {e : Ending} (h : PartPost {} w e w') :
    ∃ (Ad : Option Addr) (cd : Nat) (As : Option Addr) (cs : Nat), e = .returned (.tuple #[.agg #[.slice Ad 0 cd, .int .i64 0, .int .i64 0, .int .i64 0, .int .i64 0, .slice As 0 cs, .bool false, .bool false, .bool false], .agg #[.bool false, .bool false, .int .i64 0]]) ∧ Below w.heap.size w w' := by
  obtain ⟨Ad, nd, cd, As, ns, cs, rfl, hd, hs, _, _, hb⟩ := h
  obtain rfl : nd = 0 := hd.len.symm
  obtain rfl : ns = 0 := hs.len.symm
  exact ⟨Ad, cd, As, cs, rfl, hb⟩

theorem first_read : readP 8 0 0 (numB (bits .and .i64 0 2147483647) 4 4) = connP 1 := by
  rw [m31b (by omega) (by omega), show m31 0 = 0 from rfl]
  unfold readP
  rw [if_neg (by omega), if_neg (by omega), if_neg (by omega), if_neg (by omega), if_pos rfl]
  unfold updateP
  rw [numB_len, if_neg (by omega), n4_num (by omega) (by omega), if_pos (show m31 0 = 0 from rfl), if_pos rfl]

set_option maxHeartbeats 1000000 in
set_option maxRecDepth 100000 in
theorem first_any (w : World) : Calls Try.prog 7 #[] w fun e w' => e = .returned (.bool true) ∧ Below w.heap.size w w' := by
  go_enter Try.func7, Try.ntmps7
  go_wp2_with (first
    | (go_at_call 13; go_must (refine (update_make 0 0 w).mono ?_; unfold MadePost fv; rintro e w1 ⟨A, c, rfl, hbs, hc, hb1⟩; have HBS := hid hbs; have HC := hid hc; have HB1 := hid hb1; clear hbs hc hb1))
    | (go_at_call 9; go_must (refine (read_any 8 0 0 A _ c _ w1 HBS.out HC.out (by rw [numB_len]; omega)).mono ?_; rw [first_read]; intro e w2 hp; obtain ⟨Ad, cd, As, cs, rfl, hb2⟩ := hp.of_conn; have HB2 := hid (HB1.out.trans (hb2.mono HB1.out.size)); clear hp hb2)))
  go_ret
  exact ⟨rfl, (HB2.out.alloc HB2.out.size _).alloc (by have := HB2.out.size; simp; omega) _⟩
end Go.Proofs.Ytdiahjeplaegnaa
