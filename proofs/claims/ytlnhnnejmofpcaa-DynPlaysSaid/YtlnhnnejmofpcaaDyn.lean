/- The dynamic table, each call once. Conditions: at most 2^46 bytes in all. -/
import Derived.Test.YtlnhnnejmofpcaaField
import Derived.Deep.RegionWith
namespace Go.Proofs.Ytlnhnnejmofpcaa
open Go.RowKit
attribute [local go_sem] kd kdS
attribute [local go_sem ↓] sliced_word
attribute [local go_sem] offA_zero

/-- A table in block g: it holds l, the eldest first. -/
structure TabAt (w : World) (B g : Nat) (most : Int) (A : Option Addr) (n c : Nat) (l : List Fd) : Prop where
  blk : Blk w g 51 #[.slice A n c, .int .i64 (total l : Nat), .int .i64 most]
  base : B ≤ g
  own : Mid w B 30 3 (.slice A n c) n (flat l)
theorem TabAt.below {w w' : World} {B g : Nat} {most : Int} {A : Option Addr} {n c : Nat} {l : List Fd} (h : TabAt w B g most A n c l) (hb : Below w.heap.size w w') : TabAt w' B g most A n c l :=
  ⟨h.blk.below hb h.blk.lt, h.base, h.own.below hb⟩
theorem TabAt.turned {w w' : World} {B g : Nat} {most : Int} {A : Option Addr} {n c : Nat} {l : List Fd} {F : List Nat} (h : TabAt w B g most A n c l) (ht : Turned F w w') (hg : g ∉ F) (hF : ∀ k, (Value.slice A n c).ownBlock = some k → k ∉ F) : TabAt w' B g most A n c l :=
  ⟨h.blk.turned ht hg, h.base, h.own.turned ht hF⟩
theorem TabAt.len {w : World} {B g : Nat} {most : Int} {A : Option Addr} {n c : Nat} {l : List Fd} (h : TabAt w B g most A n c l) : l.length = n := by
  have := h.own.1
  rw [flat_len] at this
  omega

/-- What is left where the eldest go until so much is left at most. -/
def shr (r : Int) : List Fd → List Fd
  | [] => []
  | f :: l => if r < (total (f :: l) : Nat) then shr r l else f :: l
theorem shr_drop {r : Int} {l : List Fd} {k : Nat} (h : ∀ j, j < k → r < (total (l.drop j) : Nat)) (hk : k ≤ l.length) (hend : l.length = k ∨ ¬ r < (total (l.drop k) : Nat)) : shr r l = l.drop k := by
  induction k generalizing l with
  | zero =>
    cases l with
    | nil => rfl
    | cons f l =>
      rw [shr, if_neg (by rcases hend with h1 | h1; · simp at h1
                          · exact h1)]
      rfl
  | succ k ih =>
    cases l with
    | nil => simp at hk
    | cons f l =>
      have h0 := h 0 (by omega)
      rw [List.drop_zero] at h0
      rw [shr, if_pos h0, List.drop_succ_cons]
      exact ih (fun j hj => by have := h (j + 1) (by omega); simpa using this) (by simpa using hk) (by simpa using hend)
theorem total_drop (l : List Fd) (k : Nat) : total (l.drop k) ≤ total l := by
  have h := total_append (l.take k) (l.drop k)
  rw [List.take_append_drop] at h
  omega
theorem total_step {l : List Fd} {k : Nat} {f : Fd} (h : l[k]? = some f) : total (l.drop k) = f.size + total (l.drop (k + 1)) := by
  obtain ⟨hk, hx⟩ := List.getElem?_eq_some_iff.1 h
  rw [List.drop_eq_getElem_cons hk, hx, total_cons]

/-- What shrinks leaves. -/
def ShrPost (r : Int) (B g : Nat) (most : Int) (A : Option Addr) (n c : Nat) (l : List Fd) (w : World) (e : Ending) (w' : World) : Prop :=
  ∃ A' n' c', e = .returned (.tuple #[]) ∧ TabAt w' B g most A' n' c' (shr r l) ∧ Turned [g] w w' ∧ (∀ k, (Value.slice A' n' c').ownBlock = some k → (Value.slice A n c).ownBlock = some k)

set_option maxHeartbeats 1000000 in
set_option maxRecDepth 100000 in
theorem shrinks_any (r : Int) (B g : Nat) (most : Int) (A : Option Addr) (n c : Nat) (l : List Fd) (w : World) (h : TabAt w B g most A n c l) (ht : total l ≤ 70368744177664) (hn : n ≤ 70368744177664) (hB : B ≤ w.heap.size) :
    Calls Try.prog 24 #[.pointer (some ⟨g, 0, none⟩), .int .i64 r] w (ShrPost r B g most A n c l w) := by
  have H := hid h
  have hlen := h.len
  have hcap := h.own.len_le
  have hcm : c ≤ 9223372036854775807 := by obtain ⟨_, _, e, _, hm⟩ := h.own.shape; injection e with _ _ e; subst e; unfold maxLen at hm; omega
  clear h
  go_enter Try.func24, Try.ntmps24
  go_wp2_with fail
  go_loopw [4] (fun s wv => ∃ k : Nat, k ≤ n ∧ s = .int .i64 k ∧ Blk wv g 51 #[.slice A n c, .int .i64 (total (l.drop k) : Nat), .int .i64 most] ∧ Turned [g] w wv ∧ ∀ j, j < k → r < (total (l.drop j) : Nat)) (fun s _ => n - (intOf s).toNat)
  case atStart => exact ⟨0, Nat.zero_le _, rfl, H.out.blk, Turned.refl _ _, fun j hj => by omega⟩
  case round =>
    obtain ⟨k, hk, rfl, hblk, htn, hall⟩ := hrel
    have hg := H.out.blk.lt
    have hmid := H.out.own.turned htn (fun q hq => by
      have := H.out.blk.mid_ne H.out.own (by decide)
      intro hm
      have := List.mem_singleton.1 hm
      subst this
      contradiction)
    have HK := hid hblk
    have HT := hid htn
    have HA := hid hall
    have HM := hid hmid
    have c0 := hblk.cell 0
    have c1 := hblk.cell 1
    have kf0 := hblk.frozen 0
    have kf1 := hblk.frozen 1
    simp at c0 c1
    have htd := total_drop l k
    clear hblk htn hall hmid
    by_cases hgo : k < n ∧ r < (total (l.drop k) : Nat)
    · obtain ⟨hkn, hr⟩ := hgo
      obtain ⟨b, o, f, rfl, hf, f0, f1, f2⟩ := Fs.at_ (w := wr) (l := l) (HM.out.rd) hkn
      have hst := total_step hf
      have hki : (k : Int) < n := by omega
      have hk0 : (0 : Int) ≤ k := by omega
      have hfs : f.size ≤ 70368744177664 := by omega
      have hw1 := IntWalk.i64_in ((total (l.drop k) : Nat) - (f.size : Nat) : Int) (by omega)
      have hsub : ((total (l.drop k) : Nat) : Int) - (f.size : Nat) = (total (l.drop (k + 1)) : Nat) := by omega
      rw [hsub] at hw1
      have HF := hid hf
      clear hf hst
      go_wp2_with fail
      have hb0 : Below wr.heap.size wr wr := Below.refl _ _
      have hs0 : wr.heap.size ≤ wr.heap.size := Nat.le_refl _
      go_region_with (first | (go_at_call 23; refine (size_any f _ hfs).mono ?_; rintro e w2 ⟨rfl, hb2⟩; refine (have hbn : Below wr.heap.size wr w2 := ?_; ?_); (focus (refine below_then ?_ ?_ hb2 <;> (go_grown; done))); have hsn := hbn.size; have hkF := HK.out.below hbn HK.out.lt; have q0 := hkF.cell 0; have q1 := hkF.cell 1; have qf1 := hkF.frozen 1; simp at q0 q1))
      all_goals
        go_wp2_with fail
        go_roundw
        case rel =>
          have hz := hkF.set_ 1 (.int .i64 (total (l.drop (k + 1)) : Nat))
          exact ⟨k + 1, by omega, by go_num, by simpa using hz, (HT.out.trans (Turned.of_below (F := [g]) hbn) (fun q hq => .inl hq)).trans ((Turned.refl [g] _).setCell (by simp) _) (fun q hq => .inl hq), fun j hj => by
            by_cases hjk : j = k
            · subst hjk; exact hr
            · exact HA.out j (by omega)⟩
        case measure => simp [intOf]; omega
    · have hend : l.length = k ∨ ¬ r < (total (l.drop k) : Nat) := by
        by_cases hkn : k < n
        · exact .inr fun h => hgo ⟨hkn, h⟩
        · exact .inl (by omega)
      have HS := hid (shr_drop HA.out (by omega) hend)
      have hfin : ∀ w', w' = wr.setCell ⟨g, 0, none⟩ (.slice (offA A k c 3) (n - k) (c - k)) → ∃ A' n' c', TabAt w' B g most A' n' c' (shr r l) ∧ Turned [g] w w' ∧ (∀ q, (Value.slice A' n' c').ownBlock = some q → (Value.slice A n c).ownBlock = some q) := by
        rintro w' rfl
        have hne := H.out.blk.mid_ne H.out.own (by decide)
        have hz := HK.out.set_ 0 (.slice (offA A k c 3) (n - k) (c - k))
        have hbk : ∀ q, (Value.slice (offA A k c 3) (n - k) (c - k)).ownBlock = some q → (Value.slice A n c).ownBlock = some q := fun q hq => by
          unfold offA at hq
          split at hq
          · rename_i he
            rcases A with _ | ad
            · simp [Value.ownBlock] at hq
            · simpa [Value.ownBlock] using hq
          · rcases A with _ | ad
            · simp [Value.ownBlock] at hq
            · simpa [Value.ownBlock, add_block] using hq
        refine ⟨offA A k c 3, n - k, c - k, ⟨?_, H.out.base, ?_⟩, HT.out.trans ((Turned.refl [g] _).setCell (by simp) _) (fun q hq => .inl hq), hbk⟩
        · rw [HS.out]
          simpa using hz
        · rw [HS.out, ← flat_drop]
          refine (HM.out.off hk).turned ((Turned.refl [g] _).setCell (by simp) _) (fun q hq hm => ?_)
          have := List.mem_singleton.1 hm
          subst this
          exact hne (hbk q hq)
      have HFI := hid hfin
      clear hfin
      have hkc : (k : Int) ≤ n := by omega
      have hkc2 : (n : Int) ≤ c := by omega
      by_cases hkn : k < n
      · have hr : ¬ r < (total (l.drop k) : Nat) := fun h => hgo ⟨hkn, h⟩
        clear hgo hend
        go_wp2_with fail
        go_end0
        obtain ⟨A', n', c', h1, h2, h3⟩ := HFI.out _ rfl
        exact ⟨A', n', c', rfl, h1, h2, h3⟩
      · obtain rfl : k = n := by omega
        clear hgo hend
        go_wp2_with fail
        go_end0
        obtain ⟨A', n', c', h1, h2, h3⟩ := HFI.out _ (by rw [Nat.sub_self])
        exact ⟨A', n', c', rfl, h1, h2, h3⟩
end Go.Proofs.Ytlnhnnejmofpcaa
