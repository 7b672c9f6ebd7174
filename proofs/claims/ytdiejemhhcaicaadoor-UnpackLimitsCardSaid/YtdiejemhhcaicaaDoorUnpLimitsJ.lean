/- The law UnpackLimits walked. No condition. -/
import Derived.Test.YtdiejemhhcaicaaDoorGu
namespace Go.Proofs.YtdiejemhhcaicaaDoor
open Go.RowKit
attribute [local go_sem] kd kdS

/-- Objects laid one behind another. -/
def allocs (w : World) (l : List Obj) : World := l.foldl World.alloc w
theorem allocs_heap : ∀ (l : List Obj) (w : World), (allocs w l).heap = w.heap ++ l.toArray
  | [], w => by simp [allocs]
  | o :: l, w => by
    have h := allocs_heap l (w.alloc o)
    show (allocs (w.alloc o) l).heap = _
    rw [h]
    show w.heap.push o ++ l.toArray = _
    apply Array.ext'
    simp
theorem allocs_below : ∀ (l : List Obj) (w : World), Below w.heap.size w (allocs w l)
  | [], w => Below.refl _ _
  | o :: l, w => by
    have h1 : Below w.heap.size w (w.alloc o) := (Below.refl _ _).alloc (Nat.le_refl _) _
    exact h1.trans ((allocs_below l (w.alloc o)).mono h1.size)
theorem allocs_blk {w : World} {l : List Obj} {j : Nat} {t : TypeId} {cs : Array Value} (h : l[j]? = some (.cells cs t (0, 0))) : Blk (allocs w l) (w.heap.size + j) t cs := by
  unfold Blk
  rw [allocs_heap, Array.getElem?_append_right (by omega)]
  simpa using h
def goodL : List (List UInt8) := [[32, 63, 225, 31, 130], [32, 32], [63, 225, 31], [64, 1, 97, 0], [0, 1, 97, 1, 98], [16, 129, 31, 0], []]
def badL : List (List UInt8) := [[130, 32], [32, 32, 32], [63, 226, 31], [64, 5, 97], [64, 1, 97, 127], [0, 129, 255], [255, 255, 255, 255, 255, 255]]
def okL (k : Nat) : Bool :=
  let r := decR (startD (goodL.getD k []) 4096 [])
  r.2 && decide (total r.1.acc ≤ 100000) && !(decR (startD (badL.getD k []) r.1.most r.1.L)).2
theorem okL_all : ∀ k, k < 7 → okL k = true := by decide +kernel
theorem short_all : ∀ k, k < 7 → (goodL.getD k []).length ≤ 10 ∧ (badL.getD k []).length ≤ 10 := by decide +kernel
theorem okL_at {k : Nat} (h : k < 7) : ∃ s, decR (startD (goodL.getD k []) 4096 []) = (s, true) ∧ ((total s.acc : Nat) : Int) ≤ 100000 ∧ ∃ t, decR (startD (badL.getD k []) s.most s.L) = (t, false) := by
  have h1 := okL_all k h
  unfold okL at h1
  simp only [Bool.and_eq_true, decide_eq_true_eq, Bool.not_eq_true'] at h1
  obtain ⟨⟨h1, h2⟩, h3⟩ := h1
  refine ⟨(decR (startD (goodL.getD k []) 4096 [])).1, Prod.ext rfl h1, by omega, (decR (startD (badL.getD k []) (decR (startD (goodL.getD k []) 4096 [])).1.most (decR (startD (goodL.getD k []) 4096 [])).1.L)).1, Prod.ext rfl h3⟩
/-- Seven rows of bytes, and a row of them. -/
def Rows7 (w : World) (H q : Nat) (R : List (List UInt8)) : Prop := ∀ k, k < 7 → ∃ x, H ≤ x ∧ H ≤ q ∧ w.cell? ⟨q, k, none⟩ = some (.slice (some ⟨x, 0, none⟩) (R.getD k []).length (R.getD k []).length) ∧ Bs w (some ⟨x, 0, none⟩) (R.getD k []).length (R.getD k []) ∧ q < w.heap.size
theorem Rows7.below {w w' : World} {H q : Nat} {R : List (List UInt8)} (h : Rows7 w H q R) (hb : Below w.heap.size w w') : Rows7 w' H q R := fun k hk => by
  obtain ⟨x, hx, hq, h1, h2, h3⟩ := h k hk
  exact ⟨x, hx, hq, below_keep hb _ _ h1, h2.below hb, Nat.lt_of_lt_of_le h3 hb.size⟩
theorem blk_bs {w : World} {q : Nat} {cs : Array Value} {l : List UInt8} (h : Blk w q 5 cs) (hc : cs.toList = l.map bv) : Bs w (some ⟨q, 0, none⟩) l.length l := by
  refine ⟨by simp, fun _ => ⟨q, 0, rfl, fun j u hu => ?_⟩⟩
  rw [Nat.zero_add, h.cell, ← hu, ← hc]
  simp
theorem rows7_of {w : World} {l : List Obj} {R : List (List UInt8)} {co : Array Value} (ho : l[7]? = some (.cells co 29 (0, 0)))
    (h : ∀ k, k < 7 → co[k]? = some (.slice (some ⟨w.heap.size + k, 0, none⟩) (R.getD k []).length (R.getD k []).length) ∧ ∃ cs, l[k]? = some (.cells cs 5 (0, 0)) ∧ cs.toList = (R.getD k []).map bv) : Rows7 (allocs w l) w.heap.size (w.heap.size + 7) R := fun k hk => by
  obtain ⟨h1, cs, h2, h3⟩ := h k hk
  have hq := allocs_blk (w := w) ho
  exact ⟨w.heap.size + k, by omega, by omega, by rw [hq.cell]; exact h1, blk_bs (allocs_blk h2) h3, hq.lt⟩
def badO (H : Nat) : List Obj := [.cells #[.int .u8 130, .int .u8 32] 5, .cells #[.int .u8 32, .int .u8 32, .int .u8 32] 5, .cells #[.int .u8 63, .int .u8 226, .int .u8 31] 5, .cells #[.int .u8 64, .int .u8 5, .int .u8 97] 5, .cells #[.int .u8 64, .int .u8 1, .int .u8 97, .int .u8 127] 5, .cells #[.int .u8 0, .int .u8 129, .int .u8 255] 5, .cells #[.int .u8 255, .int .u8 255, .int .u8 255, .int .u8 255, .int .u8 255, .int .u8 255] 5, .cells #[.slice (some ⟨H, 0, none⟩) 2 2, .slice (some ⟨H + 1, 0, none⟩) 3 3, .slice (some ⟨H + 1 + 1, 0, none⟩) 3 3, .slice (some ⟨H + 1 + 1 + 1, 0, none⟩) 3 3, .slice (some ⟨H + 1 + 1 + 1 + 1, 0, none⟩) 4 4, .slice (some ⟨H + 1 + 1 + 1 + 1 + 1, 0, none⟩) 3 3, .slice (some ⟨H + 1 + 1 + 1 + 1 + 1 + 1, 0, none⟩) 6 6] 29]
def goodO (H : Nat) : List Obj := [.cells #[.int .u8 32, .int .u8 63, .int .u8 225, .int .u8 31, .int .u8 130] 5, .cells #[.int .u8 32, .int .u8 32] 5, .cells #[.int .u8 63, .int .u8 225, .int .u8 31] 5, .cells #[.int .u8 64, .int .u8 1, .int .u8 97, .int .u8 0] 5, .cells #[.int .u8 0, .int .u8 1, .int .u8 97, .int .u8 1, .int .u8 98] 5, .cells #[.int .u8 16, .int .u8 129, .int .u8 31, .int .u8 0] 5, .cells #[] 5, .cells #[.slice (some ⟨H, 0, none⟩) 5 5, .slice (some ⟨H + 1, 0, none⟩) 2 2, .slice (some ⟨H + 1 + 1, 0, none⟩) 3 3, .slice (some ⟨H + 1 + 1 + 1, 0, none⟩) 4 4, .slice (some ⟨H + 1 + 1 + 1 + 1, 0, none⟩) 5 5, .slice (some ⟨H + 1 + 1 + 1 + 1 + 1, 0, none⟩) 4 4, .slice (some ⟨H + 1 + 1 + 1 + 1 + 1 + 1, 0, none⟩) 0 0] 29]
theorem bad_rows (w : World) : Rows7 (allocs w (badO w.heap.size)) w.heap.size (w.heap.size + 7) badL := rows7_of rfl (fun k hk => by
  rcases (show k = 0 ∨ k = 1 ∨ k = 2 ∨ k = 3 ∨ k = 4 ∨ k = 5 ∨ k = 6 by omega) with rfl | rfl | rfl | rfl | rfl | rfl | rfl <;> exact ⟨rfl, _, rfl, rfl⟩)
theorem good_rows (w : World) : Rows7 (allocs w (goodO w.heap.size)) w.heap.size (w.heap.size + 7) goodL := rows7_of rfl (fun k hk => by
  rcases (show k = 0 ∨ k = 1 ∨ k = 2 ∨ k = 3 ∨ k = 4 ∨ k = 5 ∨ k = 6 by omega) with rfl | rfl | rfl | rfl | rfl | rfl | rfl <;> exact ⟨rfl, _, rfl, rfl⟩)

set_option maxHeartbeats 1000000 in
set_option maxRecDepth 100000 in
theorem limits8_walk (i : Int) (w : World) : Calls Tryd.prog 4 #[.int .i64 i] w fun e w' => e = .returned (.bool true) ∧ Below w.heap.size w w' := by
  go_enter Tryd.func4, Tryd.ntmps4
  go_wp2_with fail
  refine (first8_any w).mono ?_
  rintro e w1 ⟨rfl, hb1⟩
  have HB1 := hid hb1
  clear hb1
  go_wp2_with fail
  refine (decNew_any w1).mono ?_
  rintro e w2 ⟨F, gd, gt, rfl, h2, hb2⟩
  have HI2 := hid (show DecI w w2 w1.heap.size F gd gt false 4096 [] [] from ⟨h2, (fun k hk => by cases hk), HB1.out.trans (hb2.mono HB1.out.size), HB1.out.size⟩)
  clear h2 hb2
  by_cases h0 : i < 0
  · go_wp2_with (go_at_call 8; go_must (refine (first8_any w2).mono ?_; rintro e w3 ⟨rfl, hb3⟩; have HB3 := hid (HI2.out.out.trans (hb3.mono HI2.out.out.size)); clear hb3))
    go_ret
    exact ⟨rfl, HB3.out⟩
  by_cases h6 : 6 < i
  · go_wp2_with (go_at_call 8; go_must (refine (first8_any w2).mono ?_; rintro e w3 ⟨rfl, hb3⟩; have HB3 := hid (HI2.out.out.trans (hb3.mono HI2.out.out.size)); clear hb3))
    go_ret
    exact ⟨rfl, HB3.out⟩
  obtain ⟨k, rfl⟩ : ∃ k : Nat, i = k := ⟨i.toNat, by omega⟩
  have hk : k < 7 := by omega
  have hki : (k : Int) < 7 := by omega
  go_upto_region 7 with fail
  obtain ⟨w3, hw3⟩ : ∃ w3, allocs w2 (badO w2.heap.size) = w3 := ⟨_, rfl⟩
  have HR3 := hid (bad_rows w2)
  have HB3 := hid (allocs_below (badO w2.heap.size) w2)
  rw [hw3] at HR3 HB3
  unfold allocs badO at hw3
  simp only [List.foldl_cons, List.foldl_nil] at hw3
  rw [hw3]
  have HI3 := hid (HI2.out.below HB3.out)
  have HDW := hid HI2.out.dec.ge_
  clear hw3 HB3 HI2
  obtain ⟨qb, hqb⟩ : ∃ qb, w2.heap.size + 1 + 1 + 1 + 1 + 1 + 1 + 1 = qb := ⟨_, rfl⟩
  rw [show w2.heap.size + 7 = qb from hqb] at HR3
  rw [hqb]
  clear hqb
  have HFL := hid (show ∀ q ∈ gd :: F, q < w2.heap.size from fun q hq => (HDW.out q hq).2)
  generalize w2.heap.size = hp2 at HR3 HFL ⊢
  go_upto_region 8 with fail
  obtain ⟨w4, hw4⟩ : ∃ w4, allocs w3 (goodO w3.heap.size) = w4 := ⟨_, rfl⟩
  have HG4 := hid (good_rows w3)
  have HB4 := hid (allocs_below (goodO w3.heap.size) w3)
  rw [hw4] at HG4 HB4
  unfold allocs goodO at hw4
  simp only [List.foldl_cons, List.foldl_nil] at hw4
  rw [hw4]
  have HI4 := hid (HI3.out.below HB4.out)
  have HR4 := hid (HR3.out.below HB4.out)
  clear hw4 HB4 HI3 HR3
  obtain ⟨qg, hqg⟩ : ∃ qg, w3.heap.size + 1 + 1 + 1 + 1 + 1 + 1 + 1 = qg := ⟨_, rfl⟩
  rw [show w3.heap.size + 7 = qg from hqg] at HG4
  rw [hqg]
  clear hqg
  generalize w3.heap.size = hp3 at HG4 ⊢
  obtain ⟨s1, e1, e2, t1, e3⟩ := okL_at hk
  obtain ⟨l1, l2⟩ := short_all k hk
  have E1 := hid e1
  have E2 := hid e2
  have E3 := hid e3
  obtain ⟨x, _, _, cx, hx, hxl⟩ := HG4.out k hk
  clear e1 e2 e3
  generalize goodL.getD k [] = gl at E1 cx hx l1
  have HX := hid hx
  clear hx
  go_wp2_with fail
  refine (decode_any 100000 w1.heap.size F gd gt false 4096 [] (some ⟨x, 0, none⟩) gl.length gl.length gl w4 HI4.out.dec HX.out (by omega)).mono ?_
  intro e w5 hp
  obtain ⟨y, hyH, hqH, cy, hy, hyl⟩ := HR4.out k hk
  obtain ⟨k1, k2⟩ := decO_ok E1.out E2.out
  obtain ⟨A5, n5, c5, F5, rfl, ho, hi, ht, hr⟩ := HI4.out.decoded hp
  have dy : w5.cell? ⟨qb, k, none⟩ = some (.slice (some ⟨y, 0, none⟩) (badL.getD k []).length (badL.getD k []).length) := ht.cell cy (fun hm => by have := HFL.out _ hm; simp only at this; omega)
  have hy5 := hy.turned ht (fun ad had hm => by
    injection had with had
    subst had
    have := HFL.out _ hm
    simp only at this
    omega)
  rw [k2] at hi
  rw [k1]
  have HI5 := hid hi
  have HY5 := hid hy5
  clear hp k1 k2 ho hi ht hr hy hy5 cx cy HX HI4 HR4 HG4 HFL HDW E1 E2
  generalize badL.getD k [] = bl at E3 dy HY5 l2
  generalize s1.acc.length = sl
  go_upto_region 10 with (go_at_call 12; go_must (refine (decDead_any _ F5 gd gt _ _ _ w5 HI5.out.dec).mono ?_; rintro e w6 ⟨rfl, rfl⟩))
  go_wp2_with fail
  refine (decode_any 100000 w1.heap.size F5 gd gt false s1.most s1.L (some ⟨y, 0, none⟩) bl.length bl.length bl w5 HI5.out.dec HY5.out (by omega)).mono ?_
  intro e w7 hp
  obtain ⟨k1, k2⟩ := decO_bad E3.out 100000
  obtain ⟨A7, n7, c7, F7, rfl, ho, hi, ht, hr⟩ := HI5.out.decoded hp
  rw [k2] at hi
  rw [k1]
  have HI7 := hid hi
  clear hp k1 k2 ho hi ht hr HI5 HY5 E3 dy
  go_wp2_with (first
    | (go_at_call 8; go_must (refine (first8_any _).mono ?_; rintro e w8 ⟨rfl, hb8⟩; have HI8 := hid (HI7.out.below hb8); clear hb8))
    | (go_at_call 12; go_must (refine (decDead_any _ F7 gd gt _ _ _ _ HI8.out.dec).mono ?_; rintro e w9 ⟨rfl, rfl⟩)))
  go_ret
  exact ⟨rfl, HI8.out.out⟩
end Go.Proofs.YtdiejemhhcaicaaDoor
