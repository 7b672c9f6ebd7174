/- The dynamic table's Add. Conditions: at most 2^40 bytes in all. -/
import Derived.Test.YtlnhnnejmofpcaaDynOps
import Derived.Deep.RegionLaw
namespace Go.Proofs.Ytlnhnnejmofpcaa
open Go.RowKit
attribute [local go_sem] kd kdS
attribute [local go_sem ↓] sliced_word
attribute [local go_sem] offA_zero

def addL (most : Int) (l : List Fd) (f : Fd) : List Fd := if (f.size : Int) ≤ most then shr (most - f.size) l ++ [⟨f.n, f.v, false⟩] else shr (most - f.size) l
def AddPost (B g : Nat) (most : Int) (A : Option Addr) (n c : Nat) (l : List Fd) (f : Fd) (w : World) (e : Ending) (w' : World) : Prop :=
  ∃ A' n' c', e = .returned (.tuple #[]) ∧ TabAt w' B g most A' n' c' (addL most l f) ∧ Turned (g :: (Value.slice A n c).ownBlock.toList) w w' ∧ (∀ k, (Value.slice A' n' c').ownBlock = some k → (Value.slice A n c).ownBlock = some k ∨ w.heap.size ≤ k)

/-- Behind the append and the two stores. -/
theorem add_end {f : Fd} {B g : Nat} {most : Int} {A : Option Addr} {n c : Nat} {l : List Fd} {w w4 w5 w6 : World} {A3 : Option Addr} {n3 c3 : Nat} {A5 : Option Addr} {c5 H5 : Nat}
    (h : TabAt w B g most A n c l) (ht4 : Turned [g] w w4) (h4 : TabAt w4 B g most A3 n3 c3 (shr (most - (f.size : Nat)) l)) (hk3 : ∀ k, (Value.slice A3 n3 c3).ownBlock = some k → (Value.slice A n c).ownBlock = some k) (hfit : ((f.size : Nat) : Int) ≤ most)
    (hown : Mid w5 B 30 3 (.slice A5 (n3 + 1) c5) (n3 + 1) (flat (shr (most - (f.size : Nat)) l) ++ #[.string f.n, .string f.v, .bool false].toList))
    (hg5 : Turned (Value.slice A3 n3 c3).ownBlock.toList w4 w5) (hat : (Value.slice A5 (n3 + 1) c5).ownBlock = (Value.slice A3 n3 c3).ownBlock ∨ ∀ k, (Value.slice A5 (n3 + 1) c5).ownBlock = some k → H5 ≤ k) (hH : w4.heap.size ≤ H5)
    (hz : Blk w6 g 51 #[.slice A5 (n3 + 1) c5, .int .i64 ((total (shr (most - (f.size : Nat)) l) : Nat) + (f.size : Nat)), .int .i64 most]) (ht6 : Turned [g] w5 w6) (hne : (Value.slice A3 n3 c3).ownBlock ≠ some g) :
    ∃ A' n' c', Ending.returned (.tuple #[]) = .returned (.tuple #[]) ∧ TabAt w6 B g most A' n' c' (addL most l f) ∧ Turned (g :: (Value.slice A n c).ownBlock.toList) w w6 ∧ (∀ k, (Value.slice A' n' c').ownBlock = some k → (Value.slice A n c).ownBlock = some k ∨ w.heap.size ≤ k) := by
  have hgl := h4.blk.lt
  have hsz := ht4.size
  refine ⟨A5, n3 + 1, c5, rfl, ⟨?_, h.base, ?_⟩, ?_, fun k hk => ?_⟩
  · unfold addL
    rw [if_pos hfit, total_append]
    have e : ((total (shr (most - (f.size : Nat)) l) + total [⟨f.n, f.v, false⟩] : Nat) : Int) = (total (shr (most - (f.size : Nat)) l) : Nat) + (f.size : Nat) := by
      simp [total, Fd.size]
    rw [e]
    exact hz
  · unfold addL
    rw [if_pos hfit, flat_append]
    refine Mid.turned hown ht6 (fun k hk hm => ?_)
    have := List.mem_singleton.1 hm
    subst this
    rcases hat with h1 | h1
    · exact hne (h1.symm.trans hk)
    · have := h1 k hk
      omega
  · refine Turned.trans (Turned.trans (ht4.mono (fun b hb => by have := List.mem_singleton.1 hb; simp [this])) hg5 (fun b hb => .inl ?_)) ht6 (fun b hb => .inl (by have := List.mem_singleton.1 hb; simp [this]))
    simp [Option.mem_toList] at hb ⊢
    exact .inr (hk3 b hb)
  · rcases hat with h1 | h1
    · exact .inl (hk3 k (h1.symm.trans hk))
    · have := h1 k hk
      exact .inr (by omega)

set_option maxHeartbeats 4000000 in
set_option maxRecDepth 100000 in
theorem add_any (f : Fd) (B g : Nat) (most : Int) (A : Option Addr) (n c : Nat) (l : List Fd) (w : World) (h : TabAt w B g most A n c l) (ht : total l ≤ 1099511627776) (hf : f.size ≤ 1099511627776) (hn : n ≤ 1099511627776) (hB : B ≤ w.heap.size) (hm0 : 0 ≤ most) (hm1 : most ≤ 1099511627776) :
    Calls Try.prog 9 #[.pointer (some ⟨g, 0, none⟩), f.val] w (AddPost B g most A n c l f w) := by
  have H := hid h
  clear h
  obtain ⟨i0, hi0, hz0, hz1, hz2⟩ := fd_parts
  have hi := hid hi0
  have hz := hid hz0
  have hsz := hid hz1
  have hby := hid hz2
  clear hi0 hz0 hz1 hz2
  go_enter Try.func9, Try.ntmps9
  go_upto_region 1 with fail
  obtain ⟨wa, hwa⟩ : ∃ wa, w.alloc (.cells #[.string f.n, .string f.v, .bool f.x] 30) = wa := ⟨_, rfl⟩
  have hFa : Blk wa w.heap.size 30 #[.string f.n, .string f.v, .bool f.x] := by rw [← hwa]; exact Blk.new w _ _
  have hba : Below w.heap.size w wa := by rw [← hwa]; exact (Below.refl _ _).alloc (Nat.le_refl _) _
  rw [hwa]
  have HF := hid hFa
  have HB := hid hba
  have b0 := hFa.cell 0
  have b1 := hFa.cell 1
  have b2 := hFa.cell 2
  simp at b0 b1 b2
  have hFl := hFa.lt
  clear hFa hba hwa
  go_wp2_with fail
  refine (size_any f wa (by omega)).mono ?_
  rintro e w2 ⟨rfl, hb2⟩
  have H2 := hid (H.out.below (HB.out.trans (hb2.mono HB.out.size)))
  have HB2 := hid (HB.out.trans (hb2.mono HB.out.size))
  have HF2 := hid (HF.out.below hb2 hFl)
  have c2 := H2.out.blk.cell 2
  simp at c2
  clear hb2 b0 b1 b2
  have hfs : (0 : Int) ≤ (f.size : Nat) := by omega
  have hfs1 : ((f.size : Nat) : Int) ≤ 1099511627776 := by omega
  go_wp2_with fail
  refine (shrinks_any (most - (f.size : Nat)) B g most A n c l w2 H2.out (by omega) (by omega) (by have := HB2.out.size; omega)).mono ?_
  rintro e w3 ⟨A3, n3, c3, rfl, h3, ht3, hk3⟩
  have H3 := hid h3
  have HT3 := hid ht3
  have HK3 := hid hk3
  have hgl := H.out.blk.lt
  have HF3 := hid (HF2.out.turned ht3 (by simp; omega))
  have hle := shr_le (most - (f.size : Nat)) l
  have hn3 := h3.len
  have hlw := H.out.len
  have d2 := h3.blk.cell 2
  simp at d2
  clear h3 ht3 hk3 c2
  have HP : Hid (∀ e w', (∃ A' n' c', e = .returned (.tuple #[]) ∧ TabAt w' B g most A' n' c' (addL most l f) ∧ Turned (g :: (Value.slice A n c).ownBlock.toList) w w' ∧ (∀ k, (Value.slice A' n' c').ownBlock = some k → (Value.slice A n c).ownBlock = some k ∨ w.heap.size ≤ k)) → AddPost B g most A n c l f w e w') := hid fun e w' h => h
  have HTW := hid ((Turned.of_below (F := [g]) HB2.out).trans HT3.out (fun q hq => .inl hq))
  by_cases hfit : ((f.size : Nat) : Int) ≤ most
  · have hfb0 := HF3.out.cell 2
    have hff := HF3.out.frozen 2
    simp at hfb0
    go_wp2_with fail
    have HF4 := hid (show Blk (w3.setCell ⟨w.heap.size, 2, none⟩ (.bool false)) w.heap.size 30 #[.string f.n, .string f.v, .bool false] from by simpa using HF3.out.set_ 2 (.bool false))
    have hown3 : ∀ k, (Value.slice A3 n3 c3).ownBlock = some k → k < w.heap.size := fun k hk => (H.out.own.lt k (HK3.out k hk)).2
    have ht34 : Turned [w.heap.size] w3 (w3.setCell ⟨w.heap.size, 2, none⟩ (.bool false)) := (Turned.refl _ _).setCell (by simp) _
    have H4 := hid (H3.out.turned ht34 (by simp; omega) (fun k hk hm => by have := hown3 k hk; have := List.mem_singleton.1 hm; omega))
    have HT4 := hid (HTW.out.trans ht34 (fun q hq => .inr (by have := List.mem_singleton.1 hq; omega)))
    clear ht34 hfb0 hff d2
    generalize w3.setCell ⟨w.heap.size, 2, none⟩ (.bool false) = w4 at HF4 H4 HT4 ⊢
    have g0 := H4.out.blk.cell 0
    have g1 := H4.out.blk.cell 1
    have gf0 := H4.out.blk.frozen 0
    have gf1 := H4.out.blk.frozen 1
    have b0 := HF4.out.cell 0
    have b1 := HF4.out.cell 1
    have b2 := HF4.out.cell 2
    simp at g0 g1 b0 b1 b2
    have hB4 : B ≤ w4.heap.size := by have := HT4.out.size; omega
    have hw1 := IntWalk.i64_in ((total (shr (most - (f.size : Nat)) l) : Nat) + (f.size : Nat) : Int) (by omega)
    have hb0 : Below w4.heap.size w4 w4 := Below.refl _ _
    have hs0 : w4.heap.size ≤ w4.heap.size := Nat.le_refl _
    have hne := H4.out.blk.mid_ne H4.out.own (by decide)
    have HNE := hid hne
    clear hne
    have ga0 := below_keep ((Below.refl w4.heap.size w4).alloc (Nat.le_refl _) (.cells #[.string f.n, .string f.v, .bool false] 30)) _ _ g0
    have ga1 := below_keep ((Below.refl w4.heap.size w4).alloc (Nat.le_refl _) (.cells #[.string f.n, .string f.v, .bool false] 30)) _ _ g1
    go_region_law (first
      | (refine at_app ?_; go_loud (refine stepL_mid B 30 i0 _ 3 40 Try.underlying38 hi.out hz.out hsz.out hby.out rfl (by decide) _ n3 _ (H4.out.own.below ?_) _ 1 1 _ (rd_new rfl ?_) ?_ ?_ ?_ ?_ ?_ ?_ ?_; (focus (go_grown; done)); (focus rfl); (focus rfl); (focus rfl); (focus (simp [Value.oneCell'])); (focus omega); (focus omega); (focus go_size); intro A5 c5 w5 hown5 hg5 hat5; refine (have hkg : Blk w5 g 51 #[.slice A3 n3 c3, .int .i64 (total (shr (most - (f.size : Nat)) l) : Nat), .int .i64 most] := ?_; ?_); (focus (refine Blk.grown (H4.out.blk.below ?_ H4.out.blk.lt) hg5 (fun e => HNE.out e.symm); (go_grown; done))); have z0 := hkg.cell 0; have z1 := hkg.cell 1; have zf0 := hkg.frozen 0; have zf1 := hkg.frozen 1; simp at z0 z1)))
    all_goals
      go_end0
      have hz := (hkg.set_ 0 (.slice A5 (n3 + 1) c5)).set_ 1 (.int .i64 ((total (shr (most - (f.size : Nat)) l) : Nat) + (f.size : Nat)))
      have ht5 : Turned [g] w5 ((w5.setCell ⟨g, 0, none⟩ (.slice A5 (n3 + 1) c5)).setCell ⟨g, 1, none⟩ (.int .i64 ((total (shr (most - (f.size : Nat)) l) : Nat) + (f.size : Nat)))) := ((Turned.refl [g] _).setCell (by simp) _).setCell (by simp) _
      exact HP.out _ _ (add_end H.out HT4.out H4.out HK3.out hfit hown5 (Turned.grown ((Turned.refl (Value.slice A3 n3 c3).ownBlock.toList w4).trans (Turned.of_below (F := []) ((Below.refl w4.heap.size w4).alloc (Nat.le_refl _) (.cells #[.string f.n, .string f.v, .bool false] 30)).drew) (by simp)) hg5 (fun k hk => .inl (by simp [hk]))) hat5 (by simp) (by simpa using hz) ht5 HNE.out)
  · have HFIT := hid hfit
    have hlt : decide (((f.size : Nat) : Int) ≤ most) = false := decide_eq_false hfit
    clear hfit
    go_wp2_with fail
    go_end0
    refine HP.out _ _ ⟨A3, n3, c3, rfl, by unfold addL; rw [if_neg (by have := HFIT.out; omega)]; exact H3.out, HTW.out.mono (fun b hb => by have := List.mem_singleton.1 hb; simp [this]), fun k hk => .inl (HK3.out k hk)⟩
end Go.Proofs.Ytlnhnnejmofpcaa
