/- Copies of bytes, each call once: wlvref.Copy and bytes.Clone answer a slice of the call's own. Condition: at most 2^46 bytes. -/
import Derived.Test.YtdiahjeplaegnaaTurn
namespace Go.Proofs.Ytdiahjeplaegnaa
open Go.RowKit

theorem info_parts {t : TypeId} {z : Value} {size bytes : Nat} (h : (Try.prog.info? t).map (fun i => (i.zero, i.size, i.bytes)) = some (some z, size, bytes)) :
    ∃ i, Try.prog.info? t = some i ∧ i.zero = some z ∧ i.size = size ∧ i.bytes = bytes := by
  rcases hi : Try.prog.info? t with _ | i
  · rw [hi] at h; cases h
  · rw [hi] at h
    simp only [Option.map_some, Option.some.injEq, Prod.mk.injEq] at h
    exact ⟨i, rfl, h.1, h.2.1, h.2.2⟩
theorem u8_info : (Try.prog.info? 5).map (fun i => (i.zero, i.size, i.bytes)) = some (some (.int .u8 0), 1, 1) := by kernel_rfl

set_option maxHeartbeats 400000 in
set_option maxRecDepth 100000 in
theorem copy_any (A : Option Addr) (n c : Nat) (l : List UInt8) (w : World) (h : Bs w A n l) (hn : n ≤ 70368744177664) :
    Calls Try.prog 28 #[.slice A n c] w fun e w' => ∃ A' c', e = .returned (.slice A' n c') ∧ w'.ownsRow w.heap.size 5 1 (.slice A' n c') n (l.map bv) ∧ Below w.heap.size w w' := by
  obtain ⟨i0, hi0, hz0, hz1, hz2⟩ := info_parts u8_info
  have hi := hid hi0
  have hz := hid hz0
  have hsz := hid hz1
  have hby := hid hz2
  have H := hid h
  clear hi0 hz0 hz1 hz2 h
  have hl := World.ownsRow_lit (base := w.heap.size) (e := 5) (size := 1) w #[] 0 (Nat.le_refl _) (by decide) rfl
  have HL := hid hl
  clear hl
  go_enter Try.func28, Try.ntmps28
  go_wp2_with (at_builtin; refine wpList_app _ rfl _ _ _ rfl w.heap.size 5 i0 _ 1 1 Try.underlying25 hi.out hz.out hsz.out hby.out rfl (by omega) _ 0 _ rfl HL.out A n c (l.map bv) rfl (H.out.below ((Below.refl _ _).alloc (Nat.le_refl _) _)) (bv_one l) (by omega) (by omega) (by simp) ?_; intro A' c' w' hown hg hat; have HO := hid hown; have HG := hid hg; clear hown hg hat)
  go_ret
  refine ⟨A', c', rfl, by simpa using HO.out, below_app ((Below.refl _ _).alloc (Nat.le_refl _) _) HL.out HG.out (Nat.le_refl _) (by simp)⟩

set_option maxHeartbeats 400000 in
set_option maxRecDepth 100000 in
theorem clone_any (A : Option Addr) (n c : Nat) (l : List UInt8) (w : World) (h : Bs w A n l) (hn : n ≤ 70368744177664) :
    Calls Try.prog 22 #[.slice A n c] w fun e w' => ∃ A' c', e = .returned (.slice A' n c') ∧ w'.ownsRow w.heap.size 5 1 (.slice A' n c') n (l.map bv) ∧ Below w.heap.size w w' := by
  obtain ⟨i0, hi0, hz0, hz1, hz2⟩ := info_parts u8_info
  have hi := hid hi0
  have hz := hid hz0
  have hsz := hid hz1
  have hby := hid hz2
  clear hi0 hz0 hz1 hz2
  have hl := World.ownsRow_lit (base := w.heap.size) (e := 5) (size := 1) w #[] 0 (Nat.le_refl _) (by decide) rfl
  have HL := hid hl
  clear hl
  have qE : ∀ (w : World) (a : Option Addr) (n c n' c' : Nat), (binOp .eql 25 (.slice a n c) (.slice none n' c')).run Try.prog w = .ok (.bool a.isNone) w := fun w a n c n' c' => Lib.run_eql_slice_nil w _ _ a n c n' c' Try.underlying25
  rcases A with _ | ad
  · obtain ⟨rfl, hl⟩ := Rd.none_zero h
    clear h
    go_enter Try.func22, Try.ntmps22
    go_wp2_with fail
    go_ret
    exact ⟨none, 0, rfl, World.ownsRow_nil _ _ _ _, Below.refl _ _⟩
  · have H := hid h
    clear h
    go_enter Try.func22, Try.ntmps22
    go_wp2_with (at_builtin; refine wpList_app _ rfl _ _ _ rfl w.heap.size 5 i0 _ 1 1 Try.underlying25 hi.out hz.out hsz.out hby.out rfl (by omega) _ 0 _ rfl HL.out _ n c (l.map bv) rfl (H.out.below ((Below.refl _ _).alloc (Nat.le_refl _) _)) (bv_one l) (by omega) (by omega) (by simp) ?_; intro A' c' w' hown hg hat; have HO := hid hown; have HG := hid hg; clear hown hg hat)
    go_ret
    refine ⟨A', c', rfl, by simpa using HO.out, below_app ((Below.refl _ _).alloc (Nat.le_refl _) _) HL.out HG.out (Nat.le_refl _) (by simp)⟩

theorem same_bytes (A A' : Option Addr) (n c n' c' : Nat) (l l' : List UInt8) (w : World) (h : Bs w A n l) (h' : Bs w A' n' l') :
    Calls Try.prog 16 #[.slice A n c, .slice A' n' c'] w fun e w' => e = .returned (.bool (l == l')) ∧ w = w' := by
  have k1 := run_str (P := Try.prog) (c := c) h 25 9 5 Try.underlying25 Try.underlying5 Try.underlying9
  have k2 := run_str (P := Try.prog) (c := c') h' 25 9 5 Try.underlying25 Try.underlying5 Try.underlying9
  clear h h'
  go_enter Try.func16, Try.ntmps16
  go_wp2_with fail
  go_ret
  exact ⟨rfl, rfl⟩

end Go.Proofs.Ytdiahjeplaegnaa
