/- What the reference Put of frames does, each call once, over whatever memory: the bytes and the error of the same plain function as the package. No condition but that the body reads as bytes. -/
import Derived.Test.YtakkabilpjjmgaaFrame
namespace Go.Proofs.Ytakkabilpjjmgaa
open Go.RowKit

theorem numB3 (n : Int) (h0 : 0 ≤ n) (h1 : n ≤ 16777215) : numB n 3 3 = [u8 (n / 65536), u8 (n / 256 % 256), u8 (n % 256)] := by
  have e : List.range 3 = [0, 1, 2] := rfl
  simp only [numB, e, List.map_cons, List.map_nil]
  rw [show (2 : Int) ^ (8 * (3 - 1 - 0)) = 65536 from rfl, show (2 : Int) ^ (8 * (3 - 1 - 1)) = 256 from rfl, show (2 : Int) ^ (8 * (3 - 1 - 2)) = 1 from rfl, Int.ediv_one, show n / 65536 % 256 = n / 65536 by omega]
theorem numB4 (s : Int) (h0 : 0 ≤ s) (h1 : s ≤ 2147483647) : numB s 4 4 = [u8 (s / 16777216), u8 (s / 65536 % 256), u8 (s / 256 % 256), u8 (s % 256)] := by
  have e : List.range 4 = [0, 1, 2, 3] := rfl
  simp only [numB, e, List.map_cons, List.map_nil]
  rw [show (2 : Int) ^ (8 * (4 - 1 - 0)) = 16777216 from rfl, show (2 : Int) ^ (8 * (4 - 1 - 1)) = 65536 from rfl, show (2 : Int) ^ (8 * (4 - 1 - 2)) = 256 from rfl, show (2 : Int) ^ (8 * (4 - 1 - 3)) = 1 from rfl, Int.ediv_one, show s / 16777216 % 256 = s / 16777216 by omega]

theorem wrap_u8 (k : Int) (h0 : 0 ≤ k) (h1 : k ≤ 255) : IntKind.u8.wrap k = k := IntWalk.u8_in k ⟨h0, h1⟩

theorem refHead_cells {n k f s : Int} (hn0 : 0 ≤ n) (hn1 : n ≤ 16777215) (hk0 : 0 ≤ k) (hk1 : k ≤ 255) (hf0 : 0 ≤ f) (hf1 : f ≤ 255) (hs0 : 0 ≤ s) (hs1 : s ≤ 2147483647) :
    (numB n 3 3).map bv ++ [Value.int .u8 (IntKind.u8.wrap k), .int .u8 (IntKind.u8.wrap f)] ++ (numB s 4 4).map bv = (putHead n k f s).map bv := by
  rw [numB3 n hn0 hn1, numB4 s hs0 hs1, wrap_u8 k hk0 hk1, wrap_u8 f hf0 hf1, bv_u8 k hk0 (by omega), bv_u8 f hf0 (by omega)]
  rfl

attribute [local go_sem ↓] Go.wp_at_zero Go.wp_at_succ

set_option maxHeartbeats 1000000 in
set_option maxRecDepth 100000 in
theorem putref_ok (k f s : Int) (A : Option Addr) (n c : Nat) (l : List UInt8) (w : World) (h : Bs w A n l)
    (hbad : ¬ (k < 0 ∨ 255 < k ∨ f < 0 ∨ 255 < f ∨ s < 0 ∨ 2147483647 < s)) (hn : l.length ≤ 16777215) :
    Calls Try.prog 11 #[fv k f s A n c] w (PutPost k f s l w) := by
  unfold fv
  have hlen := h.len
  have he := putErr_ok hbad hn
  have hb : putBytes k f s l = putHead n k f s ++ l := by unfold putBytes; rw [if_pos he, hlen]
  have HE := hid he
  have HB := hid hb
  have hn' : (n : Int) ≤ 16777215 := by omega
  have hd : decide ((16777216 : Int) ≤ (n : Int)) = false := by simp; omega
  have HN := hid hn'
  clear hn'
  obtain ⟨hk0, hk1, hf0, hf1, hs0, hs1⟩ : 0 ≤ k ∧ k ≤ 255 ∧ 0 ≤ f ∧ f ≤ 255 ∧ 0 ≤ s ∧ s ≤ 2147483647 := by omega
  have H := hid h
  have HS0 := hid hs0
  obtain ⟨i0, hi0, hz0, hz1, hz2⟩ := info_parts u8_info
  have hi := hid hi0
  have hz := hid hz0
  have hsz := hid hz1
  have hby := hid hz2
  clear h hlen hn he hb hbad hi0 hz0 hz1 hz2
  go_enter Try.func11, Try.ntmps11
  go_wp2_with fail
  obtain ⟨w1, hw1⟩ : ∃ w1, w1 = w.alloc (.cells #[.int .i64 k, .int .i64 f, .int .i64 s, .slice A n c] 30) := ⟨_, rfl⟩
  have c0 : w1.cell? ⟨w.heap.size, 0, none⟩ = some (.int .i64 k) := by rw [hw1]; simp [go_sem]
  have c1 : w1.cell? ⟨w.heap.size, 1, none⟩ = some (.int .i64 f) := by rw [hw1]; simp [go_sem]
  have c2 : w1.cell? ⟨w.heap.size, 2, none⟩ = some (.int .i64 s) := by rw [hw1]; simp [go_sem]
  have c3 : w1.cell? ⟨w.heap.size, 3, none⟩ = some (.slice A n c) := by rw [hw1]; simp [go_sem]
  rw [← hw1]
  have HW1 := hid hw1
  clear hw1
  have hw1b : Below w.heap.size w w1 := by rw [HW1.out]; exact (Below.refl _ _).alloc (Nat.le_refl _) _
  have HWB := hid hw1b
  clear hw1b
  have hb0 : Below w1.heap.size w1 w1 := Below.refl _ _
  have hs0 : w1.heap.size ≤ w1.heap.size := Nat.le_refl _
  go_region_held3 (fun w' => w1.heap.size ≤ w'.heap.size ∧ Below w1.heap.size w1 w' ∧ w'.cell? ⟨w.heap.size, 0, none⟩ = some (.int .i64 k) ∧ w'.cell? ⟨w.heap.size, 1, none⟩ = some (.int .i64 f) ∧ w'.cell? ⟨w.heap.size, 3, none⟩ = some (.slice A n c))
    ((refine keepS3 c0 c1 c3 ?_; go_grown; done))
    (first
      | (go_at_call 20; refine (num_any _ 3 _ (by omega)).mono ?_; rintro e w2 ⟨A1, c4, rfl, hown1, hb1⟩; refine (have hbn : Below w1.heap.size w1 w2 := ?_; ?_); (focus (refine below_then ?_ ?_ hb1 <;> (go_grown; done))); have hsn := hbn.size)
      | (refine at_app ?_; refine stepL_app w1.heap.size 5 i0 _ 1 1 Try.underlying25 hi.out hz.out hsz.out hby.out rfl Nat.one_pos _ 3 _ (own_base (hown1.alloc _) ?_) _ 2 2 _ (rd_new rfl ?_) ?_ ?_ ?_ ?_ ?_ ?_ ?_; (focus go_size); (focus rfl); (focus rfl); (focus rfl); (focus (simp [Value.oneCell'])); (focus omega); (focus omega); (focus go_size); intro A2 c5 w3 hown2 hg2 hat2; refine (have hb3 : Below w1.heap.size w1 w3 := ?_; ?_); (focus (refine below_app ?_ (own_base (hown1.alloc _) ?_) hg2 (Nat.le_refl _) ?_ <;> (go_grown; done))))
      | (refine at_app ?_; refine stepL_app w1.heap.size 5 i0 _ 1 1 Try.underlying25 hi.out hz.out hsz.out hby.out rfl Nat.one_pos _ 3 _ (own_base hown1 ?_) _ 2 2 _ ((rd_newD rfl ?_).below hb1) ?_ ?_ ?_ ?_ ?_ ?_ ?_; (focus go_size); (focus rfl); (focus rfl); (focus rfl); (focus (simp [Value.oneCell'])); (focus omega); (focus omega); (focus go_size); intro A2 c5 w3 hown2 hg2 hat2; refine (have hb3 : Below w1.heap.size w1 w3 := ?_; ?_); (focus (refine below_app ?_ (own_base hown1 ?_) hg2 (Nat.le_refl _) ?_ <;> (go_grown; done)))))
  all_goals
    have hsn3 := hb3.size
    have HO2 := hid hown2
    clear hown1 hg2 hat2 hown2
    go_wp2_with fail
    go_region_held3 (fun w' => w1.heap.size ≤ w'.heap.size ∧ Below w1.heap.size w1 w' ∧ w'.cell? ⟨w.heap.size, 2, none⟩ = some (.int .i64 s) ∧ w'.cell? ⟨w.heap.size, 3, none⟩ = some (.slice A n c))
      ((refine keepS2 c2 c3 ?_; go_grown; done))
      (first
        | (go_at_call 20; refine (num_any _ 4 _ (by omega)).mono ?_; rintro e w4 ⟨A4, c6, rfl, hown4, hb4⟩; refine (have hbn4 : Below w1.heap.size w1 w4 := ?_; ?_); (focus (refine below_then ?_ ?_ hb4 <;> (go_grown; done))); have hsn4 := hbn4.size; have hown5 := own_below' hb4 HO2.out)
        | (refine at_app ?_; refine stepL_app w1.heap.size 5 i0 _ 1 1 Try.underlying25 hi.out hz.out hsz.out hby.out rfl Nat.one_pos _ 5 _ hown5 _ 4 c6 _ (Rd.of_own hown4) ?_ ?_ ?_ ?_ ?_ ?_ ?_; (focus rfl); (focus rfl); (focus (exact bv_one _)); (focus omega); (focus omega); (focus go_size); intro A6 c7 w6 hown6 hg6 hat6; refine (have hb6 : Below w1.heap.size w1 w6 := ?_; ?_); (focus (refine below_app ?_ hown5 hg6 (Nat.le_refl _) ?_ <;> (go_grown; done))); have hsn6 := hb6.size; refine (have hs6 : Bs w6 A n l := ?_; ?_); (focus (exact H.out.below (HWB.out.trans (hb6.mono HWB.out.size)))))
        | (refine at_app ?_; refine stepL_app w1.heap.size 5 i0 _ 1 1 Try.underlying25 hi.out hz.out hsz.out hby.out rfl Nat.one_pos _ 9 _ hown6 _ n c _ hs6 ?_ ?_ ?_ ?_ ?_ ?_ ?_; (focus rfl); (focus rfl); (focus (exact bv_one _)); (focus (have := HN.out; omega)); (focus (have := HN.out; omega)); (focus go_size); intro A8 c8 w8 hown8 hg8 hat8; refine (have hb8 : Below w1.heap.size w1 w8 := ?_; ?_); (focus (refine below_app ?_ hown6 hg8 (Nat.le_refl _) ?_ <;> (go_grown; done)))))
    go_wp2_with fail
    go_ret2
    refine ⟨A8, 9 + n, c8, by rw [HE.out]; rfl, ?_, HWB.out.trans (hb8.mono HWB.out.size)⟩
    rw [HB.out, List.map_append, ← refHead_cells (by omega) HN.out hk0 hk1 hf0 hf1 HS0.out hs1]
    exact own_base hown8 HWB.out.size

set_option maxHeartbeats 1000000 in
set_option maxRecDepth 100000 in
theorem putref_any (k f s : Int) (A : Option Addr) (n c : Nat) (l : List UInt8) (w : World) (h : Bs w A n l) :
    Calls Try.prog 11 #[fv k f s A n c] w (PutPost k f s l w) := by
  by_cases hbad : k < 0 ∨ 255 < k ∨ f < 0 ∨ 255 < f ∨ s < 0 ∨ 2147483647 < s
  · have HE := hid (putErr_bad (l := l) hbad)
    unfold fv
    clear h
    go_enter Try.func11, Try.ntmps11
    go_wp2_with fail
    all_goals
      go_ret2
      exact putPost_err HE.out (by decide) ((Below.refl _ _).alloc (Nat.le_refl _) _)
  · by_cases hn : 16777215 < l.length
    · have hlen := h.len
      have HE := hid (putErr_long hbad hn)
      have hd : decide ((16777216 : Int) ≤ (n : Int)) = true := by simp; omega
      unfold fv
      clear h hlen hn
      go_enter Try.func11, Try.ntmps11
      go_wp2_with fail
      all_goals
        go_ret2
        exact putPost_err HE.out (by decide) ((Below.refl _ _).alloc (Nat.le_refl _) _)
    · exact putref_ok k f s A n c l w h hbad (Nat.le_of_not_lt hn)
end Go.Proofs.Ytakkabilpjjmgaa
