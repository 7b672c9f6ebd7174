/- The quota's book of one user, each call once. Conditions: at most 2^50 bytes each way; each lemma names its own. -/
import Derived.Test.YtpikhnadihfhpaaQTally
import Derived.Test.YtpikhnadihfhpaaTurn
import Derived.Test.YtpikhnadihfhpaaMixZ
import Derived.WideMake
namespace Go.Proofs.Ytpikhnadihfhpaa
open Go.RowKit
attribute [local go_sem] kd kdS
attribute [local go_sem ↓] sliced_word
attribute [local go_sem] offA_zero

/-- The text of the only user's name. -/
def u0 : ByteArray := { data := #[117, 48] }
/-- Nothing but users. -/
def confZ (v : Value) : Array Value := #[.int .i64 0, .int .i64 0, .int .i64 0, .int .i64 0, .int .i64 0, .int .i64 0, .int .i64 0, v]

/-- A look-up in a map of one string key. -/
theorem run_look1 {w : World} {m : Nat} {v : Value} {bn ck : Nat} {k s : ByteArray} (hm : w.heap[m]? = some (.map #[{ key := .string k, val := v, born := bn }] ck)) :
    (Instr.lookup 44 (.map (some m)) (.string s) false).run Try.prog w = .ok (if s = k then v else .pointer none) w := by
  have hc : (Instr.checkKey false 10000 9 (.string s)).run Try.prog w = .ok () w := MapKept.run_checkKey (k := .string s) Try.underlying9 (by simp [MapKept.IsKey]) false 9999
  have hz : (zeroValue 53).run Try.prog w = .ok (.pointer none) w := by kernel_rfl
  by_cases h : s = k
  · subst h
    have hf : Instr.findNow .string (.string s) [({ key := .string s, val := v, born := bn } : MapEntry)] 0 = some (some (0, v)) := by
      have hb : (s == s) = true := (MapKept.bytes_beq s s).2 rfl
      simp [Instr.findNow, Instr.sameNow, hb]
    simp [Instr.lookup, run_underlying Try.underlying44, MapKept.run_getObj_map hm, hc, MapKept.run_findKey Try.underlying9 hf, Result.andThen]
  · have hf : Instr.findNow .string (.string s) [({ key := .string k, val := v, born := bn } : MapEntry)] 0 = some none := by
      have hb : (s == k) = false := by
        rcases hq : (s == k) with _ | _
        · rfl
        · exact absurd ((MapKept.bytes_beq s k).1 hq) h
      simp [Instr.findNow, Instr.sameNow, hb]
    simp [Instr.lookup, run_underlying Try.underlying44, MapKept.run_getObj_map hm, hc, MapKept.run_findKey Try.underlying9 hf, Result.andThen, hz, if_neg h]
theorem run_look0 {w : World} {m : Nat} {ck : Nat} {s : ByteArray} (hm : w.heap[m]? = some (.map #[] ck)) :
    (Instr.lookup 44 (.map (some m)) (.string s) false).run Try.prog w = .ok (.pointer none) w := by
  have hc : (Instr.checkKey true 10000 9 (.string s)).run Try.prog w = .ok () w := MapKept.run_checkKey (k := .string s) Try.underlying9 (by simp [MapKept.IsKey]) true 9999
  have hz : (zeroValue 53).run Try.prog w = .ok (.pointer none) w := by kernel_rfl
  have hf : Instr.findNow .string (.string s) ([] : List MapEntry) 0 = some none := rfl
  simp [Instr.lookup, run_underlying Try.underlying44, MapKept.run_getObj_map hm, hc, MapKept.run_findKey Try.underlying9 hf, Result.andThen, hz]

/-- A book of one user: T tunnels, o of them open, of mu and md bytes a and b used. -/
structure QA (w : World) (B g m p : Nat) (T o : Int) (mu md a b : Nat) (mx my ux uy : Nat) : Prop where
  bk : Blk w g 46 #[.map (some m)]
  mp : w.heap[m]? = some (.map #[{ key := .string u0, val := .pointer (some ⟨p, 0, none⟩), born := 0 }] 1)
  pg : Blk w p 55 #[.int .i64 T, .int .i64 o, .complex .f64 mx my, .complex .f64 ux uy]
  vmx : V mx mu
  vmy : V my md
  vux : V ux a
  vuy : V uy b
  bg : B ≤ g
  bm : B ≤ m
  bp : B ≤ p
def QB (w : World) (B g : Nat) (T o : Int) (mu md a b : Nat) : Prop := ∃ m p mx my ux uy, QA w B g m p T o mu md a b mx my ux uy
section
variable {w w' : World} {B g m p : Nat} {T o : Int} {mu md a b mx my ux uy : Nat}
theorem QA.mlt (h : QA w B g m p T o mu md a b mx my ux uy) : m < w.heap.size := by
  rcases Nat.lt_or_ge m w.heap.size with h3 | h3
  · exact h3
  · have := h.mp
    rw [Array.getElem?_eq_none h3] at this
    cases this
theorem QA.below (h : QA w B g m p T o mu md a b mx my ux uy) (hb : Below w.heap.size w w') : QA w' B g m p T o mu md a b mx my ux uy :=
  ⟨h.bk.below hb h.bk.lt, (hb.block m h.mlt).trans h.mp, h.pg.below hb h.pg.lt, h.vmx, h.vmy, h.vux, h.vuy, h.bg, h.bm, h.bp⟩
theorem QB.below (h : QB w B g T o mu md a b) (hb : Below w.heap.size w w') : QB w' B g T o mu md a b := by
  obtain ⟨m, p, mx, my, ux, uy, h⟩ := h
  exact ⟨m, p, mx, my, ux, uy, h.below hb⟩
theorem QA.mp_ne (h : QA w B g m p T o mu md a b mx my ux uy) : m ≠ p ∧ m ≠ g ∧ g ≠ p := by
  refine ⟨fun e => ?_, fun e => ?_, fun e => ?_⟩
  · have h1 := h.mp
    have h2 : w.heap[p]? = _ := h.pg
    rw [e, h2] at h1
    cases h1
  · have h1 := h.mp
    have h2 : w.heap[g]? = _ := h.bk
    rw [e, h2] at h1
    cases h1
  · have h1 : w.heap[g]? = _ := h.bk
    have h2 : w.heap[p]? = _ := h.pg
    rw [e, h2] at h1
    simp at h1
/-- The page alone was turned. -/
theorem QA.set (h : QA w B g m p T o mu md a b mx my ux uy) (ht : Turned [p] w w') {o' : Int} {a' b' ux' uy' : Nat} (hp : Blk w' p 55 #[.int .i64 T, .int .i64 o', .complex .f64 mx my, .complex .f64 ux' uy']) (h1 : V ux' a') (h2 : V uy' b') : QB w' B g T o' mu md a' b' := by
  obtain ⟨n1, n2, n3⟩ := h.mp_ne
  exact ⟨m, p, mx, my, ux', uy', h.bk.turned ht (by simpa using n3), (ht.block m h.mlt (by simpa using n1)).trans h.mp, hp, h.vmx, h.vmy, h1, h2, h.bg, h.bm, h.bp⟩

set_option maxHeartbeats 1000000 in
set_option maxRecDepth 100000 in
theorem left_page (h : QA w B g m p T o mu md a b mx my ux uy) (hmu : mu ≤ 1125899906842624) (hmd : md ≤ 1125899906842624) (ha : a ≤ mu) (hb : b ≤ md) :
    Calls Try.prog 17 #[.pointer (some ⟨p, 0, none⟩)] w fun e w' => ∃ r1 r2, e = .returned (.complex .f64 r1 r2) ∧ V r1 (mu - a) ∧ V r2 (md - b) ∧ Below w.heap.size w w' := by
  have H := hid h
  have k2 : w.cell? ⟨p, 2, none⟩ = some (.complex .f64 mx my) := h.pg.cell 2
  have k3 : w.cell? ⟨p, 3, none⟩ = some (.complex .f64 ux uy) := h.pg.cell 3
  clear h
  go_enter Try.func17, Try.ntmps17
  go_wp2_with fail
  (refine wp_mix ?_ ?_ ?_; (focus kernel_rfl); (focus kernel_rfl); intro KK hKK; go_wp2_with (first
        | (go_at_call 21; go_must (refine (sub_yes _ H.out.vmx H.out.vmy H.out.vux H.out.vuy hmu hmd ha hb).mono ?_; rintro e w1 ⟨r1, r2, rfl, v1, v2, hb1⟩))
        | (with_reducible refine mix_nil ?_)
        | ((with_reducible refine mix_on ?_ ?_); (focus rfl); intro K hK; go_simp; (first | ((with_reducible refine hK _ _ ?_); clear hK K) | skip))
        | ((with_reducible refine mix_off ?_ ?_); (focus rfl); intro K hK; go_simp; (first | ((with_reducible refine hK _ _ ?_); clear hK K) | skip))
        | ((with_reducible refine mix_step ?_); intro K hK; go_simp; (first | ((with_reducible refine hK _ _ ?_); clear hK K) | skip))))
  go_ret
  exact ⟨r1, r2, rfl, v1, v2, (Below.refl _ _).drew.trans hb1⟩

set_option maxHeartbeats 1000000 in
set_option maxRecDepth 100000 in
theorem left_book (s : ByteArray) (hs : s = u0) (h : QB w B g T o mu md a b) (hmu : mu ≤ 1125899906842624) (hmd : md ≤ 1125899906842624) (ha : a ≤ mu) (hb : b ≤ md) :
    Calls Try.prog 14 #[.pointer (some ⟨g, 0, none⟩), .string s] w fun e w' => ∃ r1 r2, e = .returned (.complex .f64 r1 r2) ∧ V r1 (mu - a) ∧ V r2 (md - b) ∧ Below w.heap.size w w' := by
  obtain ⟨m, p, mx, my, ux, uy, h⟩ := h
  have H := hid h
  have k0 : w.cell? ⟨g, 0, none⟩ = some (.map (some m)) := h.bk.cell 0
  have hl := run_look1 (s := s) h.mp
  rw [if_pos hs] at hl
  clear h hs
  go_enter Try.func14, Try.ntmps14
  go_wp2_with (go_at_call 17; go_must (refine (left_page H.out hmu hmd ha hb).mono ?_; rintro e w1 ⟨r1, r2, rfl, v1, v2, hb1⟩))
  go_ret
  exact ⟨r1, r2, rfl, v1, v2, hb1⟩
set_option maxHeartbeats 1000000 in
set_option maxRecDepth 100000 in
theorem used_book (s : ByteArray) (hs : s = u0) (h : QB w B g T o mu md a b) :
    Calls Try.prog 12 #[.pointer (some ⟨g, 0, none⟩), .string s] w fun e w' => ∃ r1 r2, e = .returned (.complex .f64 r1 r2) ∧ V r1 a ∧ V r2 b ∧ w = w' := by
  obtain ⟨m, p, mx, my, ux, uy, h⟩ := h
  have H := hid h
  have k0 : w.cell? ⟨g, 0, none⟩ = some (.map (some m)) := h.bk.cell 0
  have k3 : w.cell? ⟨p, 3, none⟩ = some (.complex .f64 ux uy) := h.pg.cell 3
  have hl := run_look1 (s := s) h.mp
  rw [if_pos hs] at hl
  clear h hs
  go_enter Try.func12, Try.ntmps12
  go_wp2_with fail
  go_ret
  exact ⟨_, _, rfl, H.out.vux, H.out.vuy, rfl⟩
set_option maxHeartbeats 1000000 in
set_option maxRecDepth 100000 in
theorem open_book (s : ByteArray) (hs : s = u0) (h : QB w B g T o mu md a b) :
    Calls Try.prog 10 #[.pointer (some ⟨g, 0, none⟩), .string s] w fun e w' => e = .returned (.int .i64 o) ∧ w = w' := by
  obtain ⟨m, p, mx, my, ux, uy, h⟩ := h
  have k0 : w.cell? ⟨g, 0, none⟩ = some (.map (some m)) := h.bk.cell 0
  have k1 : w.cell? ⟨p, 1, none⟩ = some (.int .i64 o) := h.pg.cell 1
  have hl := run_look1 (s := s) h.mp
  rw [if_pos hs] at hl
  clear h hs
  go_enter Try.func10, Try.ntmps10
  go_wp2_with fail
  go_ret
  exact ⟨rfl, rfl⟩
set_option maxHeartbeats 1000000 in
set_option maxRecDepth 100000 in
theorem give_book (s : ByteArray) (hs : s = u0) (h : QB w B g T o mu md a b) (ho : 0 < o) (ho2 : o ≤ 1000) :
    Calls Try.prog 9 #[.pointer (some ⟨g, 0, none⟩), .string s] w fun e w' => e = .returned (.bool true) ∧ QB w' B g T (o - 1) mu md a b ∧ (B ≤ w.heap.size → Below B w w') := by
  obtain ⟨m, p, mx, my, ux, uy, h⟩ := h
  have H := hid h
  have k0 : w.cell? ⟨g, 0, none⟩ = some (.map (some m)) := h.bk.cell 0
  have k1 : w.cell? ⟨p, 1, none⟩ = some (.int .i64 o) := h.pg.cell 1
  have f1 := h.pg.frozen 1
  have hl := run_look1 (s := s) h.mp
  rw [if_pos hs] at hl
  have hq := IntWalk.i64_in (o - 1) (by omega)
  have hne : ¬ o = 0 := by omega
  clear h hs
  go_enter Try.func9, Try.ntmps9
  go_wp2_with fail
  go_ret
  have ht : Turned [p] w (w.setCell ⟨p, 1, none⟩ (.int .i64 (o - 1))) := (Turned.refl _ _).setCell (by simp) _
  exact ⟨rfl, H.out.set ht (H.out.pg.set_ 1 _) H.out.vux H.out.vuy, fun hB => ht.below (by have := H.out.bp; simpa using this) hB⟩
set_option maxHeartbeats 1000000 in
set_option maxRecDepth 100000 in
theorem give_none (s : ByteArray) (hs : s ≠ u0) (h : QB w B g T o mu md a b) :
    Calls Try.prog 9 #[.pointer (some ⟨g, 0, none⟩), .string s] w fun e w' => e = .returned (.bool false) ∧ w = w' := by
  obtain ⟨m, p, mx, my, ux, uy, h⟩ := h
  have k0 : w.cell? ⟨g, 0, none⟩ = some (.map (some m)) := h.bk.cell 0
  have hl := run_look1 (s := s) h.mp
  rw [if_neg hs] at hl
  clear h hs
  go_enter Try.func9, Try.ntmps9
  go_wp2_with fail
  go_ret
  exact ⟨rfl, rfl⟩
set_option maxHeartbeats 1000000 in
set_option maxRecDepth 100000 in
theorem count_none (s : ByteArray) (x y : Nat) (hs : s ≠ u0) (h : QB w B g T o mu md a b) :
    Calls Try.prog 11 #[.pointer (some ⟨g, 0, none⟩), .string s, .complex .f64 x y] w fun e w' => e = .returned (.int .i64 6) ∧ w = w' := by
  obtain ⟨m, p, mx, my, ux, uy, h⟩ := h
  have k0 : w.cell? ⟨g, 0, none⟩ = some (.map (some m)) := h.bk.cell 0
  have hl := run_look1 (s := s) h.mp
  rw [if_neg hs] at hl
  clear h hs
  go_enter Try.func11, Try.ntmps11
  go_wp2_with fail
  go_ret
  exact ⟨rfl, rfl⟩

set_option maxHeartbeats 1000000 in
set_option maxRecDepth 100000 in
theorem take_none (s : ByteArray) (hs : s ≠ u0) (h : QB w B g T o mu md a b) :
    Calls Try.prog 8 #[.pointer (some ⟨g, 0, none⟩), .string s] w fun e w' => e = .returned (.int .i64 6) ∧ w = w' := by
  obtain ⟨m, p, mx, my, ux, uy, h⟩ := h
  have k0 : w.cell? ⟨g, 0, none⟩ = some (.map (some m)) := h.bk.cell 0
  have hl := run_look1 (s := s) h.mp
  rw [if_neg hs] at hl
  clear h hs
  go_enter Try.func8, Try.ntmps8
  go_wp2_with fail
  go_ret
  exact ⟨rfl, rfl⟩
set_option maxHeartbeats 1000000 in
set_option maxRecDepth 100000 in
theorem take_full (s : ByteArray) (hs : s = u0) (h : QB w B g T o mu md a b) (hmu : mu ≤ 1125899906842624) (hmd : md ≤ 1125899906842624) (ha : a ≤ mu) (hb : b ≤ md) (hf : T ≤ o ∨ mu - a = 0 ∨ md - b = 0) :
    Calls Try.prog 8 #[.pointer (some ⟨g, 0, none⟩), .string s] w fun e w' => e = .returned (.int .i64 7) ∧ Below w.heap.size w w' := by
  obtain ⟨m, p, mx, my, ux, uy, h⟩ := h
  have H := hid h
  have k0 : w.cell? ⟨g, 0, none⟩ = some (.map (some m)) := h.bk.cell 0
  have k1 : w.cell? ⟨p, 0, none⟩ = some (.int .i64 T) := h.pg.cell 0
  have k2 : w.cell? ⟨p, 1, none⟩ = some (.int .i64 o) := h.pg.cell 1
  have hl := run_look1 (s := s) h.mp
  rw [if_pos hs] at hl
  clear h hs
  by_cases h1 : T ≤ o
  · clear hf
    go_enter Try.func8, Try.ntmps8
    go_wp2_with fail
    (refine wp_mix ?_ ?_ ?_; (focus kernel_rfl); (focus kernel_rfl); intro KK hKK; go_wp2_with (first
          | (fail)
          | (with_reducible refine mix_nil ?_)
          | ((with_reducible refine mix_on ?_ ?_); (focus rfl); intro K hK; go_simp; (first | ((with_reducible refine hK _ _ ?_); clear hK K) | skip))
          | ((with_reducible refine mix_off ?_ ?_); (focus rfl); intro K hK; go_simp; (first | ((with_reducible refine hK _ _ ?_); clear hK K) | skip))
          | ((with_reducible refine mix_step ?_); intro K hK; go_simp; (first | ((with_reducible refine hK _ _ ?_); clear hK K) | skip))))
    go_ret
    exact ⟨rfl, (Below.refl _ _).drew⟩
  · have hlt : o < T := by omega
    by_cases h2 : mu - a = 0
    · clear hf
      go_enter Try.func8, Try.ntmps8
      go_wp2_with fail
      (refine wp_mix ?_ ?_ ?_; (focus kernel_rfl); (focus kernel_rfl); intro KK hKK; go_wp2_with (first
            | (first
        | (go_at_call 17; go_must (refine (left_page (H.out.below ((Below.refl _ _).drew)) hmu hmd ha hb).mono ?_; rw [h2]; rintro e w1 ⟨r1, r2, rfl, v1, v2, hb1⟩; have HV := hid (And.intro v1 (And.intro v2 hb1)); clear v1 v2 hb1))
        | (go_at_call 13; go_must (refine (up_V _ HV.out.1 HV.out.2.1 (by omega) (by omega)).mono ?_; rintro e w2 ⟨rfl, rfl⟩)))
            | (with_reducible refine mix_nil ?_)
            | ((with_reducible refine mix_on ?_ ?_); (focus rfl); intro K hK; go_simp; (first | ((with_reducible refine hK _ _ ?_); clear hK K) | skip))
            | ((with_reducible refine mix_off ?_ ?_); (focus rfl); intro K hK; go_simp; (first | ((with_reducible refine hK _ _ ?_); clear hK K) | skip))
            | ((with_reducible refine mix_step ?_); intro K hK; go_simp; (first | ((with_reducible refine hK _ _ ?_); clear hK K) | skip))))
      go_ret
      exact ⟨rfl, (Below.refl _ _).drew.trans HV.out.2.2⟩
    · have h3 : md - b = 0 := by omega
      obtain ⟨k, hk, hk0⟩ : ∃ k : Nat, mu - a = k ∧ ¬ k = 0 := ⟨_, rfl, h2⟩
      have hk1 : k ≤ 1125899906842624 := by omega
      clear hf h2
      go_enter Try.func8, Try.ntmps8
      go_wp2_with fail
      (refine wp_mix ?_ ?_ ?_; (focus kernel_rfl); (focus kernel_rfl); intro KK hKK; go_wp2_with (first
            | (first
        | (go_at_call 17; (fail_if_success (have := HB1)); (with_reducible refine (left_page (H.out.below ((Below.refl _ _).drew)) hmu hmd ha hb).mono ?_); rw [h3, hk]; rintro e w1 ⟨r1, r2, rfl, v1, v2, hb1⟩; have HV := hid (And.intro v1 v2); have HB1 := hid ((Below.refl w.heap.size w).drew.trans hb1); clear v1 v2 hb1)
        | (go_at_call 17; go_must (refine (left_page (H.out.below HB1.out) hmu hmd ha hb).mono ?_; rw [h3, hk]; rintro e w3 ⟨r3, r4, rfl, v1, v2, hb1⟩; have HV3 := hid (And.intro v1 v2); have HB3 := hid (HB1.out.trans (hb1.mono HB1.out.size)); clear v1 v2 hb1))
        | (go_at_call 13; go_must (refine (up_V _ HV.out.1 HV.out.2 hk1 (by omega)).mono ?_; rintro e w2 ⟨rfl, rfl⟩))
        | (go_at_call 15; go_must (refine (down_V _ HV3.out.1 HV3.out.2 hk1 (by omega)).mono ?_; rintro e w2 ⟨rfl, rfl⟩)))
            | (with_reducible refine mix_nil ?_)
            | ((with_reducible refine mix_on ?_ ?_); (focus rfl); intro K hK; go_simp; (first | ((with_reducible refine hK _ _ ?_); clear hK K) | skip))
            | ((with_reducible refine mix_off ?_ ?_); (focus rfl); intro K hK; go_simp; (first | ((with_reducible refine hK _ _ ?_); clear hK K) | skip))
            | ((with_reducible refine mix_step ?_); intro K hK; go_simp; (first | ((with_reducible refine hK _ _ ?_); clear hK K) | skip))))
      go_ret
      exact ⟨rfl, HB3.out⟩
set_option maxHeartbeats 1000000 in
set_option maxRecDepth 100000 in
theorem take_yes (s : ByteArray) (hs : s = u0) (h : QB w B g T o mu md a b) (hmu : mu ≤ 1125899906842624) (hmd : md ≤ 1125899906842624) (ha : a < mu) (hb : b < md) (ho : 0 ≤ o) (hT : o < T) (hT2 : T ≤ 1000) (hB : B ≤ w.heap.size) :
    Calls Try.prog 8 #[.pointer (some ⟨g, 0, none⟩), .string s] w fun e w' => e = .returned (.int .i64 0) ∧ QB w' B g T (o + 1) mu md a b ∧ Below B w w' := by
  obtain ⟨m, p, mx, my, ux, uy, h⟩ := h
  have H := hid h
  have k0 : w.cell? ⟨g, 0, none⟩ = some (.map (some m)) := h.bk.cell 0
  have k1 : w.cell? ⟨p, 0, none⟩ = some (.int .i64 T) := h.pg.cell 0
  have k2 : w.cell? ⟨p, 1, none⟩ = some (.int .i64 o) := h.pg.cell 1
  have hl := run_look1 (s := s) h.mp
  rw [if_pos hs] at hl
  have hq := IntWalk.i64_in (o + 1) (by omega)
  obtain ⟨k, hk, hk0⟩ : ∃ k : Nat, mu - a = k ∧ ¬ k = 0 := ⟨_, rfl, by omega⟩
  obtain ⟨j, hj, hj0⟩ : ∃ k : Nat, md - b = k ∧ ¬ k = 0 := ⟨_, rfl, by omega⟩
  have hkb : ((k : Int) == 0) = false := by simp [hk0]
  have hjb : ((j : Int) == 0) = false := by simp [hj0]
  have hTb : decide (T ≤ o) = false := decide_eq_false (by omega)
  clear hk0 hj0
  have hk1 : k ≤ 1125899906842624 := by omega
  have hj1 : j ≤ 1125899906842624 := by omega
  clear h hs
  go_enter Try.func8, Try.ntmps8
  go_wp2_with fail
  (refine wp_mix ?_ ?_ ?_; (focus kernel_rfl); (focus kernel_rfl); intro KK hKK; go_wp2_with (first
        | (first
    | (go_at_call 17; (fail_if_success (have := HB1)); (with_reducible refine (left_page (H.out.below ((Below.refl _ _).drew)) hmu hmd (Nat.le_of_lt ha) (Nat.le_of_lt hb)).mono ?_); rw [hj, hk]; rintro e w1 ⟨r1, r2, rfl, v1, v2, hb1⟩; have HV := hid (And.intro v1 v2); have HB1 := hid ((Below.refl w.heap.size w).drew.trans hb1); clear v1 v2 hb1)
    | (go_at_call 17; go_must (refine (left_page (H.out.below HB1.out) hmu hmd (Nat.le_of_lt ha) (Nat.le_of_lt hb)).mono ?_; rw [hj, hk]; rintro e w3 ⟨r3, r4, rfl, v1, v2, hb1⟩; have HV3 := hid (And.intro v1 v2); have hb3 := HB1.out.trans (hb1.mono HB1.out.size); have HB3 := hid hb3; have HP3 := hid (H.out.below hb3); have z1 := below_keep hb3 _ _ k2; have f1 := (H.out.below hb3).pg.frozen 1; clear v1 v2 hb1 hb3))
    | (go_at_call 13; go_must (refine (up_V _ HV.out.1 HV.out.2 hk1 hj1).mono ?_; rintro e w2 ⟨rfl, rfl⟩))
    | (go_at_call 15; go_must (refine (down_V _ HV3.out.1 HV3.out.2 hk1 hj1).mono ?_; rintro e w2 ⟨rfl, rfl⟩)))
        | (with_reducible refine mix_nil ?_)
        | ((with_reducible refine mix_on ?_ ?_); (focus rfl); intro K hK; go_simp; (first | ((with_reducible refine hK _ _ ?_); clear hK K) | skip))
        | ((with_reducible refine mix_off ?_ ?_); (focus rfl); intro K hK; go_simp; (first | ((with_reducible refine hK _ _ ?_); clear hK K) | skip))
        | ((with_reducible refine mix_step ?_); intro K hK; go_simp; (first | ((with_reducible refine hK _ _ ?_); clear hK K) | skip))))
  go_ret
  have ht : Turned [p] w3 (w3.setCell ⟨p, 1, none⟩ (.int .i64 (o + 1))) := (Turned.refl _ _).setCell (by simp) _
  exact ⟨rfl, HP3.out.set ht (HP3.out.pg.set_ 1 _) HP3.out.vux HP3.out.vuy, (HB3.out.mono hB).trans (ht.below (by have := H.out.bp; simpa using this) (Nat.le_trans hB HB3.out.size))⟩
end
end Go.Proofs.Ytpikhnadihfhpaa
