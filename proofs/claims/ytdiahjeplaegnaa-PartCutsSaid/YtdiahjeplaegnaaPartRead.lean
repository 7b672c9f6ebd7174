/- part.Read, a theorem a kind. Conditions: at most 2^40 bytes. -/
import Derived.Test.YtdiahjeplaegnaaPartBody
import Derived.Test.YtdiahjeplaegnaaPartSets
namespace Go.Proofs.Ytdiahjeplaegnaa
open Go.RowKit
attribute [local go_sem] kd kdS
attribute [local go_sem ↓] sliced_word
attribute [local go_sem] offA_zero

def readP (k f s : Int) (l : List UInt8) : PR :=
  if k = 0 ∨ k = 1 then bodyP k f s l else if k = 4 then settingsP f s l else if k = 5 then connP 1 else if k = 6 ∨ k = 7 then wholeP k f s l else if k = 8 then updateP s l
  else if k = 2 ∨ k = 3 ∨ k = 9 then (if s = 0 then connP 1 else if k = 9 then { d := l, w := fl f 4 } else if k = 2 ∧ l.length ≠ 5 then streamP 6 else if k = 2 then {} else if l.length ≠ 4 then connP 6 else { code := n4 l })
  else {}

set_option maxHeartbeats 1000000 in
set_option maxRecDepth 100000 in
theorem read_0 (f s : Int) (A : Option Addr) (n c : Nat) (l : List UInt8) (w : World) (h : Bs w A n l) (hnc : n ≤ c) (hn : n ≤ 1099511627776) :
    Calls Try.prog 9 #[.agg #[.int .i64 0, .int .i64 f, .int .i64 s, .slice A n c]] w (PartPost (readP 0 f s l) w) := by
  have hlen := h.len
  have H := hid h
  clear h
  have HU : Hid (readP 0 f s l = bodyP 0 f s l) := hid (by unfold readP; simp)
  clear hlen
  go_enter Try.func9, Try.ntmps9
  go_upto_region 1 with fail
  have hpw := ProF.new w 0 f s A n c
  have hWs : (((w.alloc (.cells #[.int .i64 0, .int .i64 f, .int .i64 s, .slice A n c] 34)).alloc (.cells #[.slice none 0 0, .int .i64 0, .int .i64 0, .int .i64 0, .int .i64 0, .slice none 0 0, .bool false, .bool false, .bool false] 28)).alloc (.cells #[.bool false, .bool false, .int .i64 0] 30)).heap.size = w.heap.size + 3 := by simp
  generalize (((w.alloc (.cells #[.int .i64 0, .int .i64 f, .int .i64 s, .slice A n c] 34)).alloc (.cells #[.slice none 0 0, .int .i64 0, .int .i64 0, .int .i64 0, .int .i64 0, .slice none 0 0, .bool false, .bool false, .bool false] 28)).alloc (.cells #[.bool false, .bool false, .int .i64 0] 30)) = W at hpw hWs ⊢
  have HPV := hid hpw
  have HWS := hid hWs
  obtain ⟨d0, d1, d2, d3⟩ := hpw.cells
  clear hpw hWs
  generalize hPP : bodyP 0 f s l = P at HU
  go_wp2_with (go_at_call 17; go_must (refine (bodied_0 f s A n c l _ (H.out.below HPV.out.pro.below_) hnc (by omega)).mono ?_; rw [hPP]; unfold PartPost pv ft; rintro e w1 ⟨Ad, nd, cd, As, ns, cs, rfl, hbd, hst, had, has, hb1⟩; have HBD := hid hbd; have HST := hid hst; have HAD := hid had; have HAS := hid has; have hP := HPV.out.pro.on hb1; have HP := hid hP; clear hb1 hbd hst had has; obtain ⟨k0, k1, k2, k3, k4, k5, k6, k7, k8, m0, m1, m2, f0, f1, f2, f3, f4, f5, f6, f7, f8, g0, g1, g2⟩ := hP.cells; clear hP))
  refine part_end Try.results9 rfl rfl HP.out.p rfl HP.out.q rfl (by omega) ?_
  intro w' ht
  rw [HU.out]
  have hz := HPV.out.pro.below_.size
  have hoff : ∀ b ∈ [w.heap.size + 1, w.heap.size + 2], b < W.heap.size := fun b hb => by
    have := HWS.out
    simp at hb
    omega
  exact ⟨Ad, nd, cd, As, ns, cs, rfl, HBD.out.turned ht (HAD.out.off hoff), Rd.turned HST.out ht (HAS.out.off hoff), HAD.out.le hz, HAS.out.le hz, HP.out.fin ht⟩

set_option maxHeartbeats 1000000 in
set_option maxRecDepth 100000 in
theorem read_1 (f s : Int) (A : Option Addr) (n c : Nat) (l : List UInt8) (w : World) (h : Bs w A n l) (hnc : n ≤ c) (hn : n ≤ 1099511627776) :
    Calls Try.prog 9 #[.agg #[.int .i64 1, .int .i64 f, .int .i64 s, .slice A n c]] w (PartPost (readP 1 f s l) w) := by
  have hlen := h.len
  have H := hid h
  clear h
  have HU : Hid (readP 1 f s l = bodyP 1 f s l) := hid (by unfold readP; simp)
  clear hlen
  go_enter Try.func9, Try.ntmps9
  go_upto_region 1 with fail
  have hpw := ProF.new w 1 f s A n c
  have hWs : (((w.alloc (.cells #[.int .i64 1, .int .i64 f, .int .i64 s, .slice A n c] 34)).alloc (.cells #[.slice none 0 0, .int .i64 0, .int .i64 0, .int .i64 0, .int .i64 0, .slice none 0 0, .bool false, .bool false, .bool false] 28)).alloc (.cells #[.bool false, .bool false, .int .i64 0] 30)).heap.size = w.heap.size + 3 := by simp
  generalize (((w.alloc (.cells #[.int .i64 1, .int .i64 f, .int .i64 s, .slice A n c] 34)).alloc (.cells #[.slice none 0 0, .int .i64 0, .int .i64 0, .int .i64 0, .int .i64 0, .slice none 0 0, .bool false, .bool false, .bool false] 28)).alloc (.cells #[.bool false, .bool false, .int .i64 0] 30)) = W at hpw hWs ⊢
  have HPV := hid hpw
  have HWS := hid hWs
  obtain ⟨d0, d1, d2, d3⟩ := hpw.cells
  clear hpw hWs
  generalize hPP : bodyP 1 f s l = P at HU
  go_wp2_with (go_at_call 17; go_must (refine (bodied_1 f s A n c l _ (H.out.below HPV.out.pro.below_) hnc (by omega)).mono ?_; rw [hPP]; unfold PartPost pv ft; rintro e w1 ⟨Ad, nd, cd, As, ns, cs, rfl, hbd, hst, had, has, hb1⟩; have HBD := hid hbd; have HST := hid hst; have HAD := hid had; have HAS := hid has; have hP := HPV.out.pro.on hb1; have HP := hid hP; clear hb1 hbd hst had has; obtain ⟨k0, k1, k2, k3, k4, k5, k6, k7, k8, m0, m1, m2, f0, f1, f2, f3, f4, f5, f6, f7, f8, g0, g1, g2⟩ := hP.cells; clear hP))
  refine part_end Try.results9 rfl rfl HP.out.p rfl HP.out.q rfl (by omega) ?_
  intro w' ht
  rw [HU.out]
  have hz := HPV.out.pro.below_.size
  have hoff : ∀ b ∈ [w.heap.size + 1, w.heap.size + 2], b < W.heap.size := fun b hb => by
    have := HWS.out
    simp at hb
    omega
  exact ⟨Ad, nd, cd, As, ns, cs, rfl, HBD.out.turned ht (HAD.out.off hoff), Rd.turned HST.out ht (HAS.out.off hoff), HAD.out.le hz, HAS.out.le hz, HP.out.fin ht⟩

set_option maxHeartbeats 1000000 in
set_option maxRecDepth 100000 in
theorem read_4 (f s : Int) (A : Option Addr) (n c : Nat) (l : List UInt8) (w : World) (h : Bs w A n l) (hnc : n ≤ c) (hn : n ≤ 1099511627776) :
    Calls Try.prog 9 #[.agg #[.int .i64 4, .int .i64 f, .int .i64 s, .slice A n c]] w (PartPost (readP 4 f s l) w) := by
  have hlen := h.len
  have H := hid h
  clear h
  have HU : Hid (readP 4 f s l = settingsP f s l) := hid (by unfold readP; simp)
  clear hlen
  go_enter Try.func9, Try.ntmps9
  go_upto_region 1 with fail
  have hpw := ProF.new w 4 f s A n c
  have hWs : (((w.alloc (.cells #[.int .i64 4, .int .i64 f, .int .i64 s, .slice A n c] 34)).alloc (.cells #[.slice none 0 0, .int .i64 0, .int .i64 0, .int .i64 0, .int .i64 0, .slice none 0 0, .bool false, .bool false, .bool false] 28)).alloc (.cells #[.bool false, .bool false, .int .i64 0] 30)).heap.size = w.heap.size + 3 := by simp
  generalize (((w.alloc (.cells #[.int .i64 4, .int .i64 f, .int .i64 s, .slice A n c] 34)).alloc (.cells #[.slice none 0 0, .int .i64 0, .int .i64 0, .int .i64 0, .int .i64 0, .slice none 0 0, .bool false, .bool false, .bool false] 28)).alloc (.cells #[.bool false, .bool false, .int .i64 0] 30)) = W at hpw hWs ⊢
  have HPV := hid hpw
  have HWS := hid hWs
  obtain ⟨d0, d1, d2, d3⟩ := hpw.cells
  clear hpw hWs
  generalize hPP : settingsP f s l = P at HU
  go_wp2_with (go_at_call 18; go_must (refine (settings_any f s A n c l _ (H.out.below HPV.out.pro.below_) hnc hn).mono ?_; rw [hPP]; unfold PartPost pv ft; rintro e w1 ⟨Ad, nd, cd, As, ns, cs, rfl, hbd, hst, had, has, hb1⟩; have HBD := hid hbd; have HST := hid hst; have HAD := hid had; have HAS := hid has; have hP := HPV.out.pro.on hb1; have HP := hid hP; clear hb1 hbd hst had has; obtain ⟨k0, k1, k2, k3, k4, k5, k6, k7, k8, m0, m1, m2, f0, f1, f2, f3, f4, f5, f6, f7, f8, g0, g1, g2⟩ := hP.cells; clear hP))
  refine part_end Try.results9 rfl rfl HP.out.p rfl HP.out.q rfl (by omega) ?_
  intro w' ht
  rw [HU.out]
  have hz := HPV.out.pro.below_.size
  have hoff : ∀ b ∈ [w.heap.size + 1, w.heap.size + 2], b < W.heap.size := fun b hb => by
    have := HWS.out
    simp at hb
    omega
  exact ⟨Ad, nd, cd, As, ns, cs, rfl, HBD.out.turned ht (HAD.out.off hoff), Rd.turned HST.out ht (HAS.out.off hoff), HAD.out.le hz, HAS.out.le hz, HP.out.fin ht⟩

set_option maxHeartbeats 1000000 in
set_option maxRecDepth 100000 in
theorem read_6 (f s : Int) (A : Option Addr) (n c : Nat) (l : List UInt8) (w : World) (h : Bs w A n l) (hnc : n ≤ c) (hn : n ≤ 1099511627776) :
    Calls Try.prog 9 #[.agg #[.int .i64 6, .int .i64 f, .int .i64 s, .slice A n c]] w (PartPost (readP 6 f s l) w) := by
  have hlen := h.len
  have H := hid h
  clear h
  have HU : Hid (readP 6 f s l = wholeP 6 f s l) := hid (by unfold readP; simp)
  clear hlen
  go_enter Try.func9, Try.ntmps9
  go_upto_region 1 with fail
  have hpw := ProF.new w 6 f s A n c
  have hWs : (((w.alloc (.cells #[.int .i64 6, .int .i64 f, .int .i64 s, .slice A n c] 34)).alloc (.cells #[.slice none 0 0, .int .i64 0, .int .i64 0, .int .i64 0, .int .i64 0, .slice none 0 0, .bool false, .bool false, .bool false] 28)).alloc (.cells #[.bool false, .bool false, .int .i64 0] 30)).heap.size = w.heap.size + 3 := by simp
  generalize (((w.alloc (.cells #[.int .i64 6, .int .i64 f, .int .i64 s, .slice A n c] 34)).alloc (.cells #[.slice none 0 0, .int .i64 0, .int .i64 0, .int .i64 0, .int .i64 0, .slice none 0 0, .bool false, .bool false, .bool false] 28)).alloc (.cells #[.bool false, .bool false, .int .i64 0] 30)) = W at hpw hWs ⊢
  have HPV := hid hpw
  have HWS := hid hWs
  obtain ⟨d0, d1, d2, d3⟩ := hpw.cells
  clear hpw hWs
  generalize hPP : wholeP 6 f s l = P at HU
  go_wp2_with (go_at_call 20; go_must (refine (whole_any 6 f s A n c l _ (H.out.below HPV.out.pro.below_) hnc (by omega)).mono ?_; rw [hPP]; unfold PartPost pv ft; rintro e w1 ⟨Ad, nd, cd, As, ns, cs, rfl, hbd, hst, had, has, hb1⟩; have HBD := hid hbd; have HST := hid hst; have HAD := hid had; have HAS := hid has; have hP := HPV.out.pro.on hb1; have HP := hid hP; clear hb1 hbd hst had has; obtain ⟨k0, k1, k2, k3, k4, k5, k6, k7, k8, m0, m1, m2, f0, f1, f2, f3, f4, f5, f6, f7, f8, g0, g1, g2⟩ := hP.cells; clear hP))
  refine part_end Try.results9 rfl rfl HP.out.p rfl HP.out.q rfl (by omega) ?_
  intro w' ht
  rw [HU.out]
  have hz := HPV.out.pro.below_.size
  have hoff : ∀ b ∈ [w.heap.size + 1, w.heap.size + 2], b < W.heap.size := fun b hb => by
    have := HWS.out
    simp at hb
    omega
  exact ⟨Ad, nd, cd, As, ns, cs, rfl, HBD.out.turned ht (HAD.out.off hoff), Rd.turned HST.out ht (HAS.out.off hoff), HAD.out.le hz, HAS.out.le hz, HP.out.fin ht⟩

set_option maxHeartbeats 1000000 in
set_option maxRecDepth 100000 in
theorem read_7 (f s : Int) (A : Option Addr) (n c : Nat) (l : List UInt8) (w : World) (h : Bs w A n l) (hnc : n ≤ c) (hn : n ≤ 1099511627776) :
    Calls Try.prog 9 #[.agg #[.int .i64 7, .int .i64 f, .int .i64 s, .slice A n c]] w (PartPost (readP 7 f s l) w) := by
  have hlen := h.len
  have H := hid h
  clear h
  have HU : Hid (readP 7 f s l = wholeP 7 f s l) := hid (by unfold readP; simp)
  clear hlen
  go_enter Try.func9, Try.ntmps9
  go_upto_region 1 with fail
  have hpw := ProF.new w 7 f s A n c
  have hWs : (((w.alloc (.cells #[.int .i64 7, .int .i64 f, .int .i64 s, .slice A n c] 34)).alloc (.cells #[.slice none 0 0, .int .i64 0, .int .i64 0, .int .i64 0, .int .i64 0, .slice none 0 0, .bool false, .bool false, .bool false] 28)).alloc (.cells #[.bool false, .bool false, .int .i64 0] 30)).heap.size = w.heap.size + 3 := by simp
  generalize (((w.alloc (.cells #[.int .i64 7, .int .i64 f, .int .i64 s, .slice A n c] 34)).alloc (.cells #[.slice none 0 0, .int .i64 0, .int .i64 0, .int .i64 0, .int .i64 0, .slice none 0 0, .bool false, .bool false, .bool false] 28)).alloc (.cells #[.bool false, .bool false, .int .i64 0] 30)) = W at hpw hWs ⊢
  have HPV := hid hpw
  have HWS := hid hWs
  obtain ⟨d0, d1, d2, d3⟩ := hpw.cells
  clear hpw hWs
  generalize hPP : wholeP 7 f s l = P at HU
  go_wp2_with (go_at_call 20; go_must (refine (whole_any 7 f s A n c l _ (H.out.below HPV.out.pro.below_) hnc (by omega)).mono ?_; rw [hPP]; unfold PartPost pv ft; rintro e w1 ⟨Ad, nd, cd, As, ns, cs, rfl, hbd, hst, had, has, hb1⟩; have HBD := hid hbd; have HST := hid hst; have HAD := hid had; have HAS := hid has; have hP := HPV.out.pro.on hb1; have HP := hid hP; clear hb1 hbd hst had has; obtain ⟨k0, k1, k2, k3, k4, k5, k6, k7, k8, m0, m1, m2, f0, f1, f2, f3, f4, f5, f6, f7, f8, g0, g1, g2⟩ := hP.cells; clear hP))
  refine part_end Try.results9 rfl rfl HP.out.p rfl HP.out.q rfl (by omega) ?_
  intro w' ht
  rw [HU.out]
  have hz := HPV.out.pro.below_.size
  have hoff : ∀ b ∈ [w.heap.size + 1, w.heap.size + 2], b < W.heap.size := fun b hb => by
    have := HWS.out
    simp at hb
    omega
  exact ⟨Ad, nd, cd, As, ns, cs, rfl, HBD.out.turned ht (HAD.out.off hoff), Rd.turned HST.out ht (HAS.out.off hoff), HAD.out.le hz, HAS.out.le hz, HP.out.fin ht⟩

set_option maxHeartbeats 1000000 in
set_option maxRecDepth 100000 in
theorem read_8 (f s : Int) (A : Option Addr) (n c : Nat) (l : List UInt8) (w : World) (h : Bs w A n l) (hnc : n ≤ c) (hn : n ≤ 1099511627776) :
    Calls Try.prog 9 #[.agg #[.int .i64 8, .int .i64 f, .int .i64 s, .slice A n c]] w (PartPost (readP 8 f s l) w) := by
  have hlen := h.len
  have H := hid h
  clear h
  have HU : Hid (readP 8 f s l = updateP s l) := hid (by unfold readP; simp)
  clear hlen
  go_enter Try.func9, Try.ntmps9
  go_upto_region 1 with fail
  have hpw := ProF.new w 8 f s A n c
  have hWs : (((w.alloc (.cells #[.int .i64 8, .int .i64 f, .int .i64 s, .slice A n c] 34)).alloc (.cells #[.slice none 0 0, .int .i64 0, .int .i64 0, .int .i64 0, .int .i64 0, .slice none 0 0, .bool false, .bool false, .bool false] 28)).alloc (.cells #[.bool false, .bool false, .int .i64 0] 30)).heap.size = w.heap.size + 3 := by simp
  generalize (((w.alloc (.cells #[.int .i64 8, .int .i64 f, .int .i64 s, .slice A n c] 34)).alloc (.cells #[.slice none 0 0, .int .i64 0, .int .i64 0, .int .i64 0, .int .i64 0, .slice none 0 0, .bool false, .bool false, .bool false] 28)).alloc (.cells #[.bool false, .bool false, .int .i64 0] 30)) = W at hpw hWs ⊢
  have HPV := hid hpw
  have HWS := hid hWs
  obtain ⟨d0, d1, d2, d3⟩ := hpw.cells
  clear hpw hWs
  generalize hPP : updateP s l = P at HU
  go_wp2_with (go_at_call 21; go_must (refine (update_any 8 f s A n c l _ (H.out.below HPV.out.pro.below_)).mono ?_; rw [hPP]; unfold PartPost pv ft; rintro e w1 ⟨Ad, nd, cd, As, ns, cs, rfl, hbd, hst, had, has, hb1⟩; have HBD := hid hbd; have HST := hid hst; have HAD := hid had; have HAS := hid has; have hP := HPV.out.pro.on hb1; have HP := hid hP; clear hb1 hbd hst had has; obtain ⟨k0, k1, k2, k3, k4, k5, k6, k7, k8, m0, m1, m2, f0, f1, f2, f3, f4, f5, f6, f7, f8, g0, g1, g2⟩ := hP.cells; clear hP))
  refine part_end Try.results9 rfl rfl HP.out.p rfl HP.out.q rfl (by omega) ?_
  intro w' ht
  rw [HU.out]
  have hz := HPV.out.pro.below_.size
  have hoff : ∀ b ∈ [w.heap.size + 1, w.heap.size + 2], b < W.heap.size := fun b hb => by
    have := HWS.out
    simp at hb
    omega
  exact ⟨Ad, nd, cd, As, ns, cs, rfl, HBD.out.turned ht (HAD.out.off hoff), Rd.turned HST.out ht (HAS.out.off hoff), HAD.out.le hz, HAS.out.le hz, HP.out.fin ht⟩

set_option maxHeartbeats 1000000 in
set_option maxRecDepth 100000 in
theorem read_5 (f s : Int) (A : Option Addr) (n c : Nat) (l : List UInt8) (w : World) (h : Bs w A n l) (hnc : n ≤ c) (hn : n ≤ 1099511627776) :
    Calls Try.prog 9 #[.agg #[.int .i64 5, .int .i64 f, .int .i64 s, .slice A n c]] w (PartPost (readP 5 f s l) w) := by
  have hlen := h.len
  have H := hid h
  clear h
  have HU : Hid (readP 5 f s l = connP 1) := hid (by unfold readP; simp)
  clear hlen
  go_enter Try.func9, Try.ntmps9
  go_upto_region 1 with fail
  have hpw := ProF.new w 5 f s A n c
  have hWs : (((w.alloc (.cells #[.int .i64 5, .int .i64 f, .int .i64 s, .slice A n c] 34)).alloc (.cells #[.slice none 0 0, .int .i64 0, .int .i64 0, .int .i64 0, .int .i64 0, .slice none 0 0, .bool false, .bool false, .bool false] 28)).alloc (.cells #[.bool false, .bool false, .int .i64 0] 30)).heap.size = w.heap.size + 3 := by simp
  generalize (((w.alloc (.cells #[.int .i64 5, .int .i64 f, .int .i64 s, .slice A n c] 34)).alloc (.cells #[.slice none 0 0, .int .i64 0, .int .i64 0, .int .i64 0, .int .i64 0, .slice none 0 0, .bool false, .bool false, .bool false] 28)).alloc (.cells #[.bool false, .bool false, .int .i64 0] 30)) = W at hpw hWs ⊢
  have HPV := hid hpw
  have HWS := hid hWs
  obtain ⟨d0, d1, d2, d3⟩ := hpw.cells
  clear hpw hWs
  go_wp2_with (go_at_call 19; go_must (refine (conn_any 1 _).mono ?_; unfold pv ft; rintro e w1 ⟨rfl, hb1⟩; have hP := HPV.out.pro.on hb1; have HP := hid hP; clear hb1; obtain ⟨k0, k1, k2, k3, k4, k5, k6, k7, k8, m0, m1, m2, f0, f1, f2, f3, f4, f5, f6, f7, f8, g0, g1, g2⟩ := hP.cells; clear hP))
  refine part_end Try.results9 rfl rfl HP.out.p rfl HP.out.q rfl (by omega) ?_
  intro w' ht
  rw [HU.out]
  exact PartPost.plain rfl rfl (HP.out.fin ht)

set_option maxHeartbeats 1000000 in
set_option maxRecDepth 100000 in
theorem read_2_zero (f : Int) (A : Option Addr) (n c : Nat) (l : List UInt8) (w : World) (h : Bs w A n l) (hnc : n ≤ c) (hn : n ≤ 1099511627776) :
    Calls Try.prog 9 #[.agg #[.int .i64 2, .int .i64 f, .int .i64 0, .slice A n c]] w (PartPost (readP 2 f 0 l) w) := by
  have hlen := h.len
  have H := hid h
  clear h
  have HU : Hid (readP 2 f 0 l = connP 1) := hid (by unfold readP; simp)
  clear hlen
  go_enter Try.func9, Try.ntmps9
  go_upto_region 1 with fail
  have hpw := ProF.new w 2 f 0 A n c
  have hWs : (((w.alloc (.cells #[.int .i64 2, .int .i64 f, .int .i64 0, .slice A n c] 34)).alloc (.cells #[.slice none 0 0, .int .i64 0, .int .i64 0, .int .i64 0, .int .i64 0, .slice none 0 0, .bool false, .bool false, .bool false] 28)).alloc (.cells #[.bool false, .bool false, .int .i64 0] 30)).heap.size = w.heap.size + 3 := by simp
  generalize (((w.alloc (.cells #[.int .i64 2, .int .i64 f, .int .i64 0, .slice A n c] 34)).alloc (.cells #[.slice none 0 0, .int .i64 0, .int .i64 0, .int .i64 0, .int .i64 0, .slice none 0 0, .bool false, .bool false, .bool false] 28)).alloc (.cells #[.bool false, .bool false, .int .i64 0] 30)) = W at hpw hWs ⊢
  have HPV := hid hpw
  have HWS := hid hWs
  obtain ⟨d0, d1, d2, d3⟩ := hpw.cells
  clear hpw hWs
  go_wp2_with (go_at_call 19; go_must (refine (conn_any 1 _).mono ?_; unfold pv ft; rintro e w1 ⟨rfl, hb1⟩; have hP := HPV.out.pro.on hb1; have HP := hid hP; clear hb1; obtain ⟨k0, k1, k2, k3, k4, k5, k6, k7, k8, m0, m1, m2, f0, f1, f2, f3, f4, f5, f6, f7, f8, g0, g1, g2⟩ := hP.cells; clear hP))
  refine part_end Try.results9 rfl rfl HP.out.p rfl HP.out.q rfl (by omega) ?_
  intro w' ht
  rw [HU.out]
  exact PartPost.plain rfl rfl (HP.out.fin ht)

set_option maxHeartbeats 1000000 in
set_option maxRecDepth 100000 in
theorem read_3_zero (f : Int) (A : Option Addr) (n c : Nat) (l : List UInt8) (w : World) (h : Bs w A n l) (hnc : n ≤ c) (hn : n ≤ 1099511627776) :
    Calls Try.prog 9 #[.agg #[.int .i64 3, .int .i64 f, .int .i64 0, .slice A n c]] w (PartPost (readP 3 f 0 l) w) := by
  have hlen := h.len
  have H := hid h
  clear h
  have HU : Hid (readP 3 f 0 l = connP 1) := hid (by unfold readP; simp)
  clear hlen
  go_enter Try.func9, Try.ntmps9
  go_upto_region 1 with fail
  have hpw := ProF.new w 3 f 0 A n c
  have hWs : (((w.alloc (.cells #[.int .i64 3, .int .i64 f, .int .i64 0, .slice A n c] 34)).alloc (.cells #[.slice none 0 0, .int .i64 0, .int .i64 0, .int .i64 0, .int .i64 0, .slice none 0 0, .bool false, .bool false, .bool false] 28)).alloc (.cells #[.bool false, .bool false, .int .i64 0] 30)).heap.size = w.heap.size + 3 := by simp
  generalize (((w.alloc (.cells #[.int .i64 3, .int .i64 f, .int .i64 0, .slice A n c] 34)).alloc (.cells #[.slice none 0 0, .int .i64 0, .int .i64 0, .int .i64 0, .int .i64 0, .slice none 0 0, .bool false, .bool false, .bool false] 28)).alloc (.cells #[.bool false, .bool false, .int .i64 0] 30)) = W at hpw hWs ⊢
  have HPV := hid hpw
  have HWS := hid hWs
  obtain ⟨d0, d1, d2, d3⟩ := hpw.cells
  clear hpw hWs
  go_wp2_with (go_at_call 19; go_must (refine (conn_any 1 _).mono ?_; unfold pv ft; rintro e w1 ⟨rfl, hb1⟩; have hP := HPV.out.pro.on hb1; have HP := hid hP; clear hb1; obtain ⟨k0, k1, k2, k3, k4, k5, k6, k7, k8, m0, m1, m2, f0, f1, f2, f3, f4, f5, f6, f7, f8, g0, g1, g2⟩ := hP.cells; clear hP))
  refine part_end Try.results9 rfl rfl HP.out.p rfl HP.out.q rfl (by omega) ?_
  intro w' ht
  rw [HU.out]
  exact PartPost.plain rfl rfl (HP.out.fin ht)

set_option maxHeartbeats 1000000 in
set_option maxRecDepth 100000 in
theorem read_9_zero (f : Int) (A : Option Addr) (n c : Nat) (l : List UInt8) (w : World) (h : Bs w A n l) (hnc : n ≤ c) (hn : n ≤ 1099511627776) :
    Calls Try.prog 9 #[.agg #[.int .i64 9, .int .i64 f, .int .i64 0, .slice A n c]] w (PartPost (readP 9 f 0 l) w) := by
  have hlen := h.len
  have H := hid h
  clear h
  have HU : Hid (readP 9 f 0 l = connP 1) := hid (by unfold readP; simp)
  clear hlen
  go_enter Try.func9, Try.ntmps9
  go_upto_region 1 with fail
  have hpw := ProF.new w 9 f 0 A n c
  have hWs : (((w.alloc (.cells #[.int .i64 9, .int .i64 f, .int .i64 0, .slice A n c] 34)).alloc (.cells #[.slice none 0 0, .int .i64 0, .int .i64 0, .int .i64 0, .int .i64 0, .slice none 0 0, .bool false, .bool false, .bool false] 28)).alloc (.cells #[.bool false, .bool false, .int .i64 0] 30)).heap.size = w.heap.size + 3 := by simp
  generalize (((w.alloc (.cells #[.int .i64 9, .int .i64 f, .int .i64 0, .slice A n c] 34)).alloc (.cells #[.slice none 0 0, .int .i64 0, .int .i64 0, .int .i64 0, .int .i64 0, .slice none 0 0, .bool false, .bool false, .bool false] 28)).alloc (.cells #[.bool false, .bool false, .int .i64 0] 30)) = W at hpw hWs ⊢
  have HPV := hid hpw
  have HWS := hid hWs
  obtain ⟨d0, d1, d2, d3⟩ := hpw.cells
  clear hpw hWs
  go_wp2_with (go_at_call 19; go_must (refine (conn_any 1 _).mono ?_; unfold pv ft; rintro e w1 ⟨rfl, hb1⟩; have hP := HPV.out.pro.on hb1; have HP := hid hP; clear hb1; obtain ⟨k0, k1, k2, k3, k4, k5, k6, k7, k8, m0, m1, m2, f0, f1, f2, f3, f4, f5, f6, f7, f8, g0, g1, g2⟩ := hP.cells; clear hP))
  refine part_end Try.results9 rfl rfl HP.out.p rfl HP.out.q rfl (by omega) ?_
  intro w' ht
  rw [HU.out]
  exact PartPost.plain rfl rfl (HP.out.fin ht)

set_option maxHeartbeats 1000000 in
set_option maxRecDepth 100000 in
theorem read_2_bad (f s : Int) (A : Option Addr) (n c : Nat) (l : List UInt8) (w : World) (h : Bs w A n l) (hnc : n ≤ c) (hn : n ≤ 1099511627776) (hs : s ≠ 0) (h5 : n ≠ 5) :
    Calls Try.prog 9 #[.agg #[.int .i64 2, .int .i64 f, .int .i64 s, .slice A n c]] w (PartPost (readP 2 f s l) w) := by
  have hlen := h.len
  have H := hid h
  clear h
  have HU : Hid (readP 2 f s l = streamP 6) := hid (by unfold readP; simp [hs, hlen, h5])
  have hs' : (s == 0) = false := beq_eq_false_iff_ne.2 hs
  have h5' : ((n : Int) == 5) = false := beq_eq_false_iff_ne.2 (by omega)
  clear hlen hs h5
  go_enter Try.func9, Try.ntmps9
  go_upto_region 1 with fail
  have hpw := ProF.new w 2 f s A n c
  have hWs : (((w.alloc (.cells #[.int .i64 2, .int .i64 f, .int .i64 s, .slice A n c] 34)).alloc (.cells #[.slice none 0 0, .int .i64 0, .int .i64 0, .int .i64 0, .int .i64 0, .slice none 0 0, .bool false, .bool false, .bool false] 28)).alloc (.cells #[.bool false, .bool false, .int .i64 0] 30)).heap.size = w.heap.size + 3 := by simp
  generalize (((w.alloc (.cells #[.int .i64 2, .int .i64 f, .int .i64 s, .slice A n c] 34)).alloc (.cells #[.slice none 0 0, .int .i64 0, .int .i64 0, .int .i64 0, .int .i64 0, .slice none 0 0, .bool false, .bool false, .bool false] 28)).alloc (.cells #[.bool false, .bool false, .int .i64 0] 30)) = W at hpw hWs ⊢
  have HPV := hid hpw
  have HWS := hid hWs
  obtain ⟨d0, d1, d2, d3⟩ := hpw.cells
  clear hpw hWs
  go_wp2_with (go_at_call 23; go_must (refine (stream_any 6 _).mono ?_; unfold pv ft; rintro e w1 ⟨rfl, hb1⟩; have hP := HPV.out.pro.on hb1; have HP := hid hP; clear hb1; obtain ⟨k0, k1, k2, k3, k4, k5, k6, k7, k8, m0, m1, m2, f0, f1, f2, f3, f4, f5, f6, f7, f8, g0, g1, g2⟩ := hP.cells; clear hP))
  refine part_end Try.results9 rfl rfl HP.out.p rfl HP.out.q rfl (by omega) ?_
  intro w' ht
  rw [HU.out]
  exact PartPost.plain rfl rfl (HP.out.fin ht)

set_option maxHeartbeats 1000000 in
set_option maxRecDepth 100000 in
theorem read_2_ok (f s : Int) (A : Option Addr) (c : Nat) (l : List UInt8) (w : World) (h : Bs w A 5 l) (hnc : 5 ≤ c) (hn : 5 ≤ 1099511627776) (hs : s ≠ 0) :
    Calls Try.prog 9 #[.agg #[.int .i64 2, .int .i64 f, .int .i64 s, .slice A 5 c]] w (PartPost (readP 2 f s l) w) := by
  have hlen := h.len
  have H := hid h
  clear h
  have HU : Hid (readP 2 f s l = {}) := hid (by unfold readP; simp [hs, hlen])
  have hs' : (s == 0) = false := beq_eq_false_iff_ne.2 hs
  clear hlen hs
  go_enter Try.func9, Try.ntmps9
  go_upto_region 1 with fail
  have hpw := ProF.new w 2 f s A 5 c
  have hWs : (((w.alloc (.cells #[.int .i64 2, .int .i64 f, .int .i64 s, .slice A 5 c] 34)).alloc (.cells #[.slice none 0 0, .int .i64 0, .int .i64 0, .int .i64 0, .int .i64 0, .slice none 0 0, .bool false, .bool false, .bool false] 28)).alloc (.cells #[.bool false, .bool false, .int .i64 0] 30)).heap.size = w.heap.size + 3 := by simp
  generalize (((w.alloc (.cells #[.int .i64 2, .int .i64 f, .int .i64 s, .slice A 5 c] 34)).alloc (.cells #[.slice none 0 0, .int .i64 0, .int .i64 0, .int .i64 0, .int .i64 0, .slice none 0 0, .bool false, .bool false, .bool false] 28)).alloc (.cells #[.bool false, .bool false, .int .i64 0] 30)) = W at hpw hWs ⊢
  have HPV := hid hpw
  have HWS := hid hWs
  obtain ⟨d0, d1, d2, d3⟩ := hpw.cells
  clear hpw hWs
  have hP := HPV.out.pro
  have HP := hid hP
  obtain ⟨k0, k1, k2, k3, k4, k5, k6, k7, k8, m0, m1, m2, f0, f1, f2, f3, f4, f5, f6, f7, f8, g0, g1, g2⟩ := hP.cells
  clear hP
  go_wp2_with fail
  refine part_end Try.results9 rfl rfl HP.out.p rfl HP.out.q rfl (by omega) ?_
  intro w' ht
  rw [HU.out]
  exact PartPost.plain rfl rfl (HP.out.fin ht)

set_option maxHeartbeats 1000000 in
set_option maxRecDepth 100000 in
theorem read_3_bad (f s : Int) (A : Option Addr) (n c : Nat) (l : List UInt8) (w : World) (h : Bs w A n l) (hnc : n ≤ c) (hn : n ≤ 1099511627776) (hs : s ≠ 0) (h5 : n ≠ 4) :
    Calls Try.prog 9 #[.agg #[.int .i64 3, .int .i64 f, .int .i64 s, .slice A n c]] w (PartPost (readP 3 f s l) w) := by
  have hlen := h.len
  have H := hid h
  clear h
  have HU : Hid (readP 3 f s l = connP 6) := hid (by unfold readP; simp [hs, hlen, h5])
  have hs' : (s == 0) = false := beq_eq_false_iff_ne.2 hs
  have h5' : ((n : Int) == 4) = false := beq_eq_false_iff_ne.2 (by omega)
  clear hlen hs h5
  go_enter Try.func9, Try.ntmps9
  go_upto_region 1 with fail
  have hpw := ProF.new w 3 f s A n c
  have hWs : (((w.alloc (.cells #[.int .i64 3, .int .i64 f, .int .i64 s, .slice A n c] 34)).alloc (.cells #[.slice none 0 0, .int .i64 0, .int .i64 0, .int .i64 0, .int .i64 0, .slice none 0 0, .bool false, .bool false, .bool false] 28)).alloc (.cells #[.bool false, .bool false, .int .i64 0] 30)).heap.size = w.heap.size + 3 := by simp
  generalize (((w.alloc (.cells #[.int .i64 3, .int .i64 f, .int .i64 s, .slice A n c] 34)).alloc (.cells #[.slice none 0 0, .int .i64 0, .int .i64 0, .int .i64 0, .int .i64 0, .slice none 0 0, .bool false, .bool false, .bool false] 28)).alloc (.cells #[.bool false, .bool false, .int .i64 0] 30)) = W at hpw hWs ⊢
  have HPV := hid hpw
  have HWS := hid hWs
  obtain ⟨d0, d1, d2, d3⟩ := hpw.cells
  clear hpw hWs
  go_wp2_with (go_at_call 19; go_must (refine (conn_any 6 _).mono ?_; unfold pv ft; rintro e w1 ⟨rfl, hb1⟩; have hP := HPV.out.pro.on hb1; have HP := hid hP; clear hb1; obtain ⟨k0, k1, k2, k3, k4, k5, k6, k7, k8, m0, m1, m2, f0, f1, f2, f3, f4, f5, f6, f7, f8, g0, g1, g2⟩ := hP.cells; clear hP))
  refine part_end Try.results9 rfl rfl HP.out.p rfl HP.out.q rfl (by omega) ?_
  intro w' ht
  rw [HU.out]
  exact PartPost.plain rfl rfl (HP.out.fin ht)

set_option maxHeartbeats 1000000 in
set_option maxRecDepth 100000 in
theorem read_3_ok (f s : Int) (A : Option Addr) (c : Nat) (l : List UInt8) (w : World) (h : Bs w A 4 l) (hnc : 4 ≤ c) (hn : 4 ≤ 1099511627776) (hs : s ≠ 0) :
    Calls Try.prog 9 #[.agg #[.int .i64 3, .int .i64 f, .int .i64 s, .slice A 4 c]] w (PartPost (readP 3 f s l) w) := by
  have hlen := h.len
  have H := hid h
  clear h
  have HU : Hid (readP 3 f s l = { code := n4 l }) := hid (by unfold readP; simp [hs, hlen])
  have hs' : (s == 0) = false := beq_eq_false_iff_ne.2 hs
  clear hlen hs
  go_enter Try.func9, Try.ntmps9
  go_upto_region 1 with fail
  have hpw := ProF.new w 3 f s A 4 c
  have hWs : (((w.alloc (.cells #[.int .i64 3, .int .i64 f, .int .i64 s, .slice A 4 c] 34)).alloc (.cells #[.slice none 0 0, .int .i64 0, .int .i64 0, .int .i64 0, .int .i64 0, .slice none 0 0, .bool false, .bool false, .bool false] 28)).alloc (.cells #[.bool false, .bool false, .int .i64 0] 30)).heap.size = w.heap.size + 3 := by simp
  generalize (((w.alloc (.cells #[.int .i64 3, .int .i64 f, .int .i64 s, .slice A 4 c] 34)).alloc (.cells #[.slice none 0 0, .int .i64 0, .int .i64 0, .int .i64 0, .int .i64 0, .slice none 0 0, .bool false, .bool false, .bool false] 28)).alloc (.cells #[.bool false, .bool false, .int .i64 0] 30)) = W at hpw hWs ⊢
  have HPV := hid hpw
  have HWS := hid hWs
  obtain ⟨d0, d1, d2, d3⟩ := hpw.cells
  clear hpw hWs
  go_wp2_with (go_at_call 24; go_must (refine (number_below A 4 c l _ (H.out.below HPV.out.pro.below_) (by omega)).mono ?_; rintro e w1 ⟨rfl, hb1⟩; have hP := HPV.out.pro.on hb1; have HP := hid hP; clear hb1; obtain ⟨k0, k1, k2, k3, k4, k5, k6, k7, k8, m0, m1, m2, f0, f1, f2, f3, f4, f5, f6, f7, f8, g0, g1, g2⟩ := hP.cells; clear hP))
  refine part_end Try.results9 rfl rfl HP.out.p rfl HP.out.q rfl (by omega) ?_
  intro w' ht
  rw [HU.out]
  exact PartPost.plain rfl rfl (HP.out.fin ht)

set_option maxHeartbeats 1000000 in
set_option maxRecDepth 100000 in
theorem read_9 (f s : Int) (A : Option Addr) (n c : Nat) (l : List UInt8) (w : World) (h : Bs w A n l) (hnc : n ≤ c) (hn : n ≤ 1099511627776) (hs : s ≠ 0) :
    Calls Try.prog 9 #[.agg #[.int .i64 9, .int .i64 f, .int .i64 s, .slice A n c]] w (PartPost (readP 9 f s l) w) := by
  have hlen := h.len
  have H := hid h
  clear h
  have HU : Hid (readP 9 f s l = { d := l, w := fl f 4 }) := hid (by unfold readP; simp [hs])
  have hs' : (s == 0) = false := beq_eq_false_iff_ne.2 hs
  clear hlen hs
  go_enter Try.func9, Try.ntmps9
  go_upto_region 1 with fail
  have hpw := ProF.new w 9 f s A n c
  have hWs : (((w.alloc (.cells #[.int .i64 9, .int .i64 f, .int .i64 s, .slice A n c] 34)).alloc (.cells #[.slice none 0 0, .int .i64 0, .int .i64 0, .int .i64 0, .int .i64 0, .slice none 0 0, .bool false, .bool false, .bool false] 28)).alloc (.cells #[.bool false, .bool false, .int .i64 0] 30)).heap.size = w.heap.size + 3 := by simp
  generalize (((w.alloc (.cells #[.int .i64 9, .int .i64 f, .int .i64 s, .slice A n c] 34)).alloc (.cells #[.slice none 0 0, .int .i64 0, .int .i64 0, .int .i64 0, .int .i64 0, .slice none 0 0, .bool false, .bool false, .bool false] 28)).alloc (.cells #[.bool false, .bool false, .int .i64 0] 30)) = W at hpw hWs ⊢
  have HPV := hid hpw
  have HWS := hid hWs
  obtain ⟨d0, d1, d2, d3⟩ := hpw.cells
  clear hpw hWs
  go_wp2_with fail
  have HSB := hid (show Turned [w.heap.size + 1, w.heap.size + 2] W W.drew from (Turned.refl _ _).drew)
  have LB : Hid (∀ w', Turned [w.heap.size + 1, w.heap.size + 2] W w' → (Instr.loadAt 25 (.pointer (some ⟨w.heap.size, 3, none⟩))).run Try.prog w' = .ok (.slice A n c) w') := hid fun w' ht => by
    have z := ht.cell d3 (by simp)
    clear d0 d1 d2 d3
    go_simp
  have LF : Hid (∀ w', Turned [w.heap.size + 1, w.heap.size + 2] W w' → (Instr.loadAt 3 (.pointer (some ⟨w.heap.size, 1, none⟩))).run Try.prog w' = .ok (.int .i64 f) w') := hid fun w' ht => by
    have z := ht.cell d1 (by simp)
    clear d0 d1 d2 d3
    go_simp
  (refine wp_mixZ (Turned [w.heap.size + 1, w.heap.size + 2] W) rfl ?_ ?_ (HSB.out) ?_; (focus kernel_rfl); (focus kernel_rfl); intro KK hKK; simp only [List.dropLast_cons_cons, List.dropLast_singleton]; go_wp2_with (first
                                                                | (first
      | ((with_reducible refine mixS_load LB.out ?_ ?_ ?_); (focus rfl); (focus rfl))
      | ((with_reducible refine mixS_load LF.out ?_ ?_ ?_); (focus rfl); (focus rfl))
      | (go_at_call 22; go_must (refine (clone_any A n c l _ (H.out.below (HPV.out.pro.fin HSB.out)) (by omega)).mono ?_; rintro e w1 ⟨A1, c1, rfl, ho1, hb1⟩; have HO := hid ho1; have HSB0 := hid (HPV.out.pro.fin HSB.out).size; have HSB := hid (HSB.out.then hb1); have hP := (HPV.out.pro.on (Below.refl _ _).drew).on hb1; have HP := hid hP; clear hb1 ho1; obtain ⟨k0, k1, k2, k3, k4, k5, k6, k7, k8, m0, m1, m2, f0, f1, f2, f3, f4, f5, f6, f7, f8, g0, g1, g2⟩ := hP.cells; clear hP))
      | ((with_reducible refine And.intro ?_ ?_); (focus (first | (with_reducible exact HSB.out) | exact turned9 HSB.out (by simp))))
      | ((with_reducible refine mix_nil ?_); refine hKK _ _ (turned9 HSB.out (by simp)) ?_; (with_reducible refine last_on ?_ ?_); (focus rfl); intro K hK; go_simp))
                                                                | ((with_reducible refine mix_nil ?_); refine hKK _ _ (HSB.out) ?_; (with_reducible refine last_on ?_ ?_); (focus rfl); intro K hK; go_simp)
                                                                | ((with_reducible refine mixS_on ?_ ?_); (focus rfl); intro K K' hK hK'; go_simp; (first | ((with_reducible refine hK _ _ ?_); clear hK hK' K K') | ((with_reducible refine hK' _ _ ?_); clear hK hK' K K') | skip))
                                                                | ((with_reducible refine mixS_off ?_ ?_); (focus rfl); intro K hK; go_simp; (first | ((with_reducible refine hK _ _ ?_); clear hK K) | skip))
                                                                | ((with_reducible refine mixS_step ?_); intro K K' hK hK'; go_simp; (first | ((with_reducible refine hK _ _ ?_); clear hK hK' K K') | ((with_reducible refine hK' _ _ ?_); clear hK hK' K K') | skip))))
  refine part_end Try.results9 rfl rfl HP.out.p rfl HP.out.q rfl (by omega) ?_
  intro w' ht
  rw [HU.out]
  exact ⟨A1, n, c1, none, 0, 0, rfl, (Bs.of_own HO.out).turned ht (own_off HO.out (by have := HPV.out.pro.lt; simp; omega)), Sts.nil _ _, Above.own HO.out HSB0.out, Above.none _, HP.out.fin ht⟩

set_option maxHeartbeats 1000000 in
set_option maxRecDepth 100000 in
theorem read_else (k f s : Int) (A : Option Addr) (n c : Nat) (l : List UInt8) (w : World) (h : Bs w A n l) (hnc : n ≤ c) (hn : n ≤ 1099511627776) (h0 : k ≠ 0) (h1 : k ≠ 1) (h2 : k ≠ 2) (h3 : k ≠ 3) (h4 : k ≠ 4) (h5 : k ≠ 5) (h6 : k ≠ 6) (h7 : k ≠ 7) (h8 : k ≠ 8) (h9 : k ≠ 9) :
    Calls Try.prog 9 #[.agg #[.int .i64 k, .int .i64 f, .int .i64 s, .slice A n c]] w (PartPost (readP k f s l) w) := by
  have hlen := h.len
  have H := hid h
  clear h
  have HU : Hid (readP k f s l = {}) := hid (by unfold readP; simp [h0, h1, h2, h3, h4, h5, h6, h7, h8, h9])
  have b0 : (k == 0) = false := beq_eq_false_iff_ne.2 h0
  have b1 : (k == 1) = false := beq_eq_false_iff_ne.2 h1
  have b2 : (k == 2) = false := beq_eq_false_iff_ne.2 h2
  have b3 : (k == 3) = false := beq_eq_false_iff_ne.2 h3
  have b4 : (k == 4) = false := beq_eq_false_iff_ne.2 h4
  have b5 : (k == 5) = false := beq_eq_false_iff_ne.2 h5
  have b6 : (k == 6) = false := beq_eq_false_iff_ne.2 h6
  have b7 : (k == 7) = false := beq_eq_false_iff_ne.2 h7
  have b8 : (k == 8) = false := beq_eq_false_iff_ne.2 h8
  have b9 : (k == 9) = false := beq_eq_false_iff_ne.2 h9
  clear hlen h0 h1 h2 h3 h4 h5 h6 h7 h8 h9
  go_enter Try.func9, Try.ntmps9
  go_upto_region 1 with fail
  have hpw := ProF.new w k f s A n c
  have hWs : (((w.alloc (.cells #[.int .i64 k, .int .i64 f, .int .i64 s, .slice A n c] 34)).alloc (.cells #[.slice none 0 0, .int .i64 0, .int .i64 0, .int .i64 0, .int .i64 0, .slice none 0 0, .bool false, .bool false, .bool false] 28)).alloc (.cells #[.bool false, .bool false, .int .i64 0] 30)).heap.size = w.heap.size + 3 := by simp
  generalize (((w.alloc (.cells #[.int .i64 k, .int .i64 f, .int .i64 s, .slice A n c] 34)).alloc (.cells #[.slice none 0 0, .int .i64 0, .int .i64 0, .int .i64 0, .int .i64 0, .slice none 0 0, .bool false, .bool false, .bool false] 28)).alloc (.cells #[.bool false, .bool false, .int .i64 0] 30)) = W at hpw hWs ⊢
  have HPV := hid hpw
  have HWS := hid hWs
  obtain ⟨d0, d1, d2, d3⟩ := hpw.cells
  clear hpw hWs
  have hP := HPV.out.pro
  have HP := hid hP
  obtain ⟨k0, k1, k2, k3, k4, k5, k6, k7, k8, m0, m1, m2, f0, f1, f2, f3, f4, f5, f6, f7, f8, g0, g1, g2⟩ := hP.cells
  clear hP
  go_wp2_with fail
  refine part_end Try.results9 rfl rfl HP.out.p rfl HP.out.q rfl (by omega) ?_
  intro w' ht
  rw [HU.out]
  exact PartPost.plain rfl rfl (HP.out.fin ht)

theorem read_any (k f s : Int) (A : Option Addr) (n c : Nat) (l : List UInt8) (w : World) (h : Bs w A n l) (hnc : n ≤ c) (hn : n ≤ 1099511627776) :
    Calls Try.prog 9 #[.agg #[.int .i64 k, .int .i64 f, .int .i64 s, .slice A n c]] w (PartPost (readP k f s l) w) := by
  by_cases h0 : k = 0
  · subst h0; exact read_0 f s A n c l w h hnc hn
  by_cases h1 : k = 1
  · subst h1; exact read_1 f s A n c l w h hnc hn
  by_cases h2 : k = 2
  · subst h2
    by_cases hs : s = 0
    · subst hs; exact read_2_zero f A n c l w h hnc hn
    by_cases h5 : n = 5
    · subst h5; exact read_2_ok f s A c l w h hnc hn hs
    · exact read_2_bad f s A n c l w h hnc hn hs h5
  by_cases h3 : k = 3
  · subst h3
    by_cases hs : s = 0
    · subst hs; exact read_3_zero f A n c l w h hnc hn
    by_cases h5 : n = 4
    · subst h5; exact read_3_ok f s A c l w h hnc hn hs
    · exact read_3_bad f s A n c l w h hnc hn hs h5
  by_cases h4 : k = 4
  · subst h4; exact read_4 f s A n c l w h hnc hn
  by_cases h5 : k = 5
  · subst h5; exact read_5 f s A n c l w h hnc hn
  by_cases h6 : k = 6
  · subst h6; exact read_6 f s A n c l w h hnc hn
  by_cases h7 : k = 7
  · subst h7; exact read_7 f s A n c l w h hnc hn
  by_cases h8 : k = 8
  · subst h8; exact read_8 f s A n c l w h hnc hn
  by_cases h9 : k = 9
  · subst h9
    by_cases hs : s = 0
    · subst hs; exact read_9_zero f A n c l w h hnc hn
    · exact read_9 f s A n c l w h hnc hn hs
  exact read_else k f s A n c l w h hnc hn h0 h1 h2 h3 h4 h5 h6 h7 h8 h9
end Go.Proofs.Ytdiahjeplaegnaa
