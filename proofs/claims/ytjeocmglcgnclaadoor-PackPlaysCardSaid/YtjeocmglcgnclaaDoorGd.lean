/- Joined texts: Dyn DynOps DynAdd DynFind DynTb DynFirst DynPlain TabOk. Each names its own conditions. -/
import Derived.Test.YtjeocmglcgnclaaDoorGa
import Derived.Deep.RegionWith
import Derived.Deep.DeepCutAuto
import Derived.Deep.RegionLaw

/- The dynamic table, each call once. Conditions: at most 2^46 bytes in all. -/
namespace Go.Proofs.YtjeocmglcgnclaaDoor
open Go.RowKit
attribute [local go_sem] kd kdS
attribute [local go_sem ↓] sliced_word
attribute [local go_sem] offA_zero

/-- A table in block g: it holds l, the eldest first. -/
structure TabAt (w : World) (B g : Nat) (most : Int) (A : Option Addr) (n c : Nat) (l : List Fd) : Prop where
  blk : Blk w g 65 #[.slice A n c, .int .i64 (total l : Nat), .int .i64 most]
  base : B ≤ g
  own : Mid w B 23 3 (.slice A n c) n (flat l)
theorem TabAt.below {w w' : World} {B g : Nat} {most : Int} {A : Option Addr} {n c : Nat} {l : List Fd} (h : TabAt w B g most A n c l) (hb : Below w.heap.size w w') : TabAt w' B g most A n c l :=
  ⟨h.blk.below hb h.blk.lt, h.base, h.own.below hb⟩
theorem TabAt.turned {w w' : World} {B g : Nat} {most : Int} {A : Option Addr} {n c : Nat} {l : List Fd} {F : List Nat} (h : TabAt w B g most A n c l) (ht : Turned F w w') (hg : g ∉ F) (hF : ∀ k, (Value.slice A n c).ownBlock = some k → k ∉ F) : TabAt w' B g most A n c l :=
  ⟨h.blk.turned ht hg, h.base, h.own.turned ht hF⟩
theorem TabAt.len {w : World} {B g : Nat} {most : Int} {A : Option Addr} {n c : Nat} {l : List Fd} (h : TabAt w B g most A n c l) : l.length = n := by
  have := h.own.1
  rw [flat_len] at this
  omega

/-- What is left where the eldest go until so much is left at most. -/
def shr (r : Int) : List Fd → List Fd
  | [] => []
  | f :: l => if r < (total (f :: l) : Nat) then shr r l else f :: l
theorem shr_drop {r : Int} {l : List Fd} {k : Nat} (h : ∀ j, j < k → r < (total (l.drop j) : Nat)) (hk : k ≤ l.length) (hend : l.length = k ∨ ¬ r < (total (l.drop k) : Nat)) : shr r l = l.drop k := by
  induction k generalizing l with
  | zero =>
    cases l with
    | nil => rfl
    | cons f l =>
      rw [shr, if_neg (by rcases hend with h1 | h1; · simp at h1
                          · exact h1)]
      rfl
  | succ k ih =>
    cases l with
    | nil => simp at hk
    | cons f l =>
      have h0 := h 0 (by omega)
      rw [List.drop_zero] at h0
      rw [shr, if_pos h0, List.drop_succ_cons]
      exact ih (fun j hj => by have := h (j + 1) (by omega); simpa using this) (by simpa using hk) (by simpa using hend)
theorem total_drop (l : List Fd) (k : Nat) : total (l.drop k) ≤ total l := by
  have h := total_append (l.take k) (l.drop k)
  rw [List.take_append_drop] at h
  omega
theorem total_step {l : List Fd} {k : Nat} {f : Fd} (h : l[k]? = some f) : total (l.drop k) = f.size + total (l.drop (k + 1)) := by
  obtain ⟨hk, hx⟩ := List.getElem?_eq_some_iff.1 h
  rw [List.drop_eq_getElem_cons hk, hx, total_cons]

/-- What shrinks leaves. -/
def ShrPost (r : Int) (B g : Nat) (most : Int) (A : Option Addr) (n c : Nat) (l : List Fd) (w : World) (e : Ending) (w' : World) : Prop :=
  ∃ A' n' c', e = .returned (.tuple #[]) ∧ TabAt w' B g most A' n' c' (shr r l) ∧ Turned [g] w w' ∧ (∀ k, (Value.slice A' n' c').ownBlock = some k → (Value.slice A n c).ownBlock = some k)

set_option maxHeartbeats 1000000 in
set_option maxRecDepth 100000 in
theorem shrinks_any (r : Int) (B g : Nat) (most : Int) (A : Option Addr) (n c : Nat) (l : List Fd) (w : World) (h : TabAt w B g most A n c l) (ht : total l ≤ 70368744177664) (hn : n ≤ 70368744177664) (_hB : B ≤ w.heap.size) :
    Calls Tryd.prog 47 #[.pointer (some ⟨g, 0, none⟩), .int .i64 r] w (ShrPost r B g most A n c l w) := by
  have H := hid h
  have hlen := h.len
  have hcap := h.own.len_le
  have hcm : c ≤ 9223372036854775807 := by obtain ⟨_, _, e, _, hm⟩ := h.own.shape; injection e with _ _ e; subst e; unfold maxLen at hm; omega
  clear h
  go_enter Tryd.func47, Tryd.ntmps47
  go_wp2_with fail
  go_loopw [4] (fun s wv => ∃ k : Nat, k ≤ n ∧ s = .int .i64 k ∧ Blk wv g 65 #[.slice A n c, .int .i64 (total (l.drop k) : Nat), .int .i64 most] ∧ Turned [g] w wv ∧ ∀ j, j < k → r < (total (l.drop j) : Nat)) (fun s _ => n - (intOf s).toNat)
  case atStart => exact ⟨0, Nat.zero_le _, rfl, H.out.blk, Turned.refl _ _, fun j hj => by omega⟩
  case round =>
    obtain ⟨k, hk, rfl, hblk, htn, hall⟩ := hrel
    have hg := H.out.blk.lt
    have hmid := H.out.own.turned htn (fun q hq => by
      have := H.out.blk.mid_ne H.out.own (by decide)
      intro hm
      have := List.mem_singleton.1 hm
      subst this
      contradiction)
    have HK := hid hblk
    have HT := hid htn
    have HA := hid hall
    have HM := hid hmid
    have c0 := hblk.cell 0
    have c1 := hblk.cell 1
    have kf0 := hblk.frozen 0
    have kf1 := hblk.frozen 1
    simp at c0 c1
    have htd := total_drop l k
    clear hblk htn hall hmid
    by_cases hgo : k < n ∧ r < (total (l.drop k) : Nat)
    · obtain ⟨hkn, hr⟩ := hgo
      obtain ⟨b, o, f, rfl, hf, f0, f1, f2⟩ := Fs.at_ (w := wr) (l := l) (HM.out.rd) hkn
      have hst := total_step hf
      have hki : (k : Int) < n := by omega
      have hk0 : (0 : Int) ≤ k := by omega
      have hfs : f.size ≤ 70368744177664 := by omega
      have hw1 := IntWalk.i64_in ((total (l.drop k) : Nat) - (f.size : Nat) : Int) (by omega)
      have hsub : ((total (l.drop k) : Nat) : Int) - (f.size : Nat) = (total (l.drop (k + 1)) : Nat) := by omega
      rw [hsub] at hw1
      have HF := hid hf
      clear hf hst
      go_wp2_with fail
      have hb0 : Below wr.heap.size wr wr := Below.refl _ _
      have hs0 : wr.heap.size ≤ wr.heap.size := Nat.le_refl _
      go_region_with (first | (go_at_call 63; refine (size_any f _ hfs).mono ?_; rintro e w2 ⟨rfl, hb2⟩; refine (have hbn : Below wr.heap.size wr w2 := ?_; ?_); (focus (refine below_then ?_ ?_ hb2 <;> (go_grown; done))); have hsn := hbn.size; have hkF := HK.out.below hbn HK.out.lt; have q0 := hkF.cell 0; have q1 := hkF.cell 1; have qf1 := hkF.frozen 1; simp at q0 q1))
      all_goals
        go_wp2_with fail
        go_roundw
        case rel =>
          have hz := hkF.set_ 1 (.int .i64 (total (l.drop (k + 1)) : Nat))
          exact ⟨k + 1, by omega, by go_num, by simpa using hz, (HT.out.trans (Turned.of_below (F := [g]) hbn) (fun q hq => .inl hq)).trans ((Turned.refl [g] _).setCell (by simp) _) (fun q hq => .inl hq), fun j hj => by
            by_cases hjk : j = k
            · subst hjk; exact hr
            · exact HA.out j (by omega)⟩
        case measure => simp [intOf]; omega
    · have hend : l.length = k ∨ ¬ r < (total (l.drop k) : Nat) := by
        by_cases hkn : k < n
        · exact .inr fun h => hgo ⟨hkn, h⟩
        · exact .inl (by omega)
      have HS := hid (shr_drop HA.out (by omega) hend)
      have hfin : ∀ w', w' = wr.setCell ⟨g, 0, none⟩ (.slice (offA A k c 3) (n - k) (c - k)) → ∃ A' n' c', TabAt w' B g most A' n' c' (shr r l) ∧ Turned [g] w w' ∧ (∀ q, (Value.slice A' n' c').ownBlock = some q → (Value.slice A n c).ownBlock = some q) := by
        rintro w' rfl
        have hne := H.out.blk.mid_ne H.out.own (by decide)
        have hz := HK.out.set_ 0 (.slice (offA A k c 3) (n - k) (c - k))
        have hbk : ∀ q, (Value.slice (offA A k c 3) (n - k) (c - k)).ownBlock = some q → (Value.slice A n c).ownBlock = some q := fun q hq => by
          unfold offA at hq
          split at hq
          · rename_i he
            rcases A with _ | ad
            · simp [Value.ownBlock] at hq
            · simpa [Value.ownBlock] using hq
          · rcases A with _ | ad
            · simp [Value.ownBlock] at hq
            · simpa [Value.ownBlock, add_block] using hq
        refine ⟨offA A k c 3, n - k, c - k, ⟨?_, H.out.base, ?_⟩, HT.out.trans ((Turned.refl [g] _).setCell (by simp) _) (fun q hq => .inl hq), hbk⟩
        · rw [HS.out]
          simpa using hz
        · rw [HS.out, ← flat_drop]
          refine (HM.out.off hk).turned ((Turned.refl [g] _).setCell (by simp) _) (fun q hq hm => ?_)
          have := List.mem_singleton.1 hm
          subst this
          exact hne (hbk q hq)
      have HFI := hid hfin
      clear hfin
      have hkc : (k : Int) ≤ n := by omega
      have hkc2 : (n : Int) ≤ c := by omega
      by_cases hkn : k < n
      · have hr : ¬ r < (total (l.drop k) : Nat) := fun h => hgo ⟨hkn, h⟩
        clear hgo hend
        go_wp2_with fail
        go_end0
        obtain ⟨A', n', c', h1, h2, h3⟩ := HFI.out _ rfl
        exact ⟨A', n', c', rfl, h1, h2, h3⟩
      · obtain rfl : k = n := by omega
        clear hgo hend
        go_wp2_with fail
        go_end0
        obtain ⟨A', n', c', h1, h2, h3⟩ := HFI.out _ (by rw [Nat.sub_self])
        exact ⟨A', n', c', rfl, h1, h2, h3⟩
end Go.Proofs.YtjeocmglcgnclaaDoor

/- The dynamic table's other calls, each once. Conditions: at most 2^40 bytes in all. -/
namespace Go.Proofs.YtjeocmglcgnclaaDoor
open Go.RowKit
attribute [local go_sem] kd kdS
attribute [local go_sem ↓] sliced_word
attribute [local go_sem] offA_zero

theorem fd_i : (Tryd.prog.info? 23).map (fun i => (i.zero, i.size, i.bytes)) = some (some (.agg #[.string ⟨#[]⟩, .string ⟨#[]⟩, .bool false]), 3, 40) := by kernel_rfl
theorem fd_parts : ∃ i, Tryd.prog.info? 23 = some i ∧ i.zero = some (.agg #[.string ⟨#[]⟩, .string ⟨#[]⟩, .bool false]) ∧ i.size = 3 ∧ i.bytes = 40 := by
  have h := fd_i
  rcases hi : Tryd.prog.info? 23 with _ | i
  · rw [hi] at h; cases h
  · rw [hi] at h
    simp only [Option.map_some, Option.some.injEq, Prod.mk.injEq] at h
    exact ⟨i, rfl, h.1, h.2.1, h.2.2⟩

set_option maxHeartbeats 400000 in
set_option maxRecDepth 100000 in
theorem tabLen_any (B g : Nat) (most : Int) (A : Option Addr) (n c : Nat) (l : List Fd) (w : World) (h : TabAt w B g most A n c l) :
    Calls Tryd.prog 12 #[.pointer (some ⟨g, 0, none⟩)] w fun e w' => e = .returned (.int .i64 n) ∧ w = w' := by
  have h0 := h.blk.cell 0
  simp at h0
  clear h
  go_enter Tryd.func12, Tryd.ntmps12
  go_wp2_with fail
  go_ret
  exact ⟨rfl, rfl⟩

set_option maxHeartbeats 400000 in
set_option maxRecDepth 100000 in
theorem tabSize_any (B g : Nat) (most : Int) (A : Option Addr) (n c : Nat) (l : List Fd) (w : World) (h : TabAt w B g most A n c l) :
    Calls Tryd.prog 25 #[.pointer (some ⟨g, 0, none⟩)] w fun e w' => e = .returned (.int .i64 (total l : Nat)) ∧ w = w' := by
  have h0 := h.blk.cell 1
  simp at h0
  clear h
  go_enter Tryd.func25, Tryd.ntmps25
  go_wp2_with fail
  go_ret
  exact ⟨rfl, rfl⟩

set_option maxHeartbeats 400000 in
set_option maxRecDepth 100000 in
theorem tabMost_any (B g : Nat) (most : Int) (A : Option Addr) (n c : Nat) (l : List Fd) (w : World) (h : TabAt w B g most A n c l) :
    Calls Tryd.prog 14 #[.pointer (some ⟨g, 0, none⟩)] w fun e w' => e = .returned (.int .i64 most) ∧ w = w' := by
  have h0 := h.blk.cell 2
  simp at h0
  clear h
  go_enter Tryd.func14, Tryd.ntmps14
  go_wp2_with fail
  go_ret
  exact ⟨rfl, rfl⟩

set_option maxHeartbeats 400000 in
set_option maxRecDepth 100000 in
theorem fclone_any (A : Option Addr) (n c : Nat) (l : List Fd) (w : World) (h : Fs w A n l) (hn : n ≤ 1099511627776) :
    Calls Tryd.prog 48 #[.slice A n c] w fun e w' => ∃ A' c', e = .returned (.slice A' n c') ∧ w'.ownsRow w.heap.size 23 3 (.slice A' n c') n (flat l) ∧ Below w.heap.size w w' := by
  obtain ⟨i0, hi0, hz0, hz1, hz2⟩ := fd_parts
  have hi := hid hi0
  have hz := hid hz0
  have hsz := hid hz1
  have hby := hid hz2
  clear hi0 hz0 hz1 hz2
  have hl := World.ownsRow_lit (base := w.heap.size) (e := 23) (size := 3) w #[] 0 (Nat.le_refl _) (by decide) rfl
  have HL := hid hl
  clear hl
  have qE : ∀ (w : World) (a : Option Addr) (n c n' c' : Nat), (binOp .eql 33 (.slice a n c) (.slice none n' c')).run Tryd.prog w = .ok (.bool a.isNone) w := fun w a n c n' c' => Lib.run_eql_slice_nil w _ _ a n c n' c' Tryd.underlying33
  rcases A with _ | ad
  · obtain ⟨rfl, hl⟩ := Rd.none_zero h
    clear h
    rw [hl]
    go_enter Tryd.func48, Tryd.ntmps48
    go_wp2_with fail
    go_ret
    exact ⟨none, 0, rfl, World.ownsRow_nil _ _ _ _, Below.refl _ _⟩
  · have H := hid h
    clear h
    go_enter Tryd.func48, Tryd.ntmps48
    go_wp2_with (at_builtin; go_loud (refine wpList_app _ rfl _ _ _ rfl w.heap.size 23 i0 _ 3 40 Tryd.underlying33 hi.out hz.out hsz.out hby.out rfl (by omega) _ 0 _ rfl HL.out _ n c (flat l) rfl (H.out.below ((Below.refl _ _).alloc (Nat.le_refl _) _)) (flat_one l) (by omega) (by omega) (by simp) ?_; intro A' c' w' hown hg hat; have HO := hid hown; have HG := hid hg; clear hown hg hat))
    go_ret
    refine ⟨A', c', rfl, by simpa using HO.out, below_app ((Below.refl _ _).alloc (Nat.le_refl _) _) HL.out HG.out (Nat.le_refl _) (by simp)⟩

/-- What Limit leaves. -/
def LimPost (m : Int) (B g : Nat) (_most : Int) (_A : Option Addr) (_n _c : Nat) (l : List Fd) (w : World) (e : Ending) (w' : World) : Prop :=
  if m < 0 ∨ 4096 < m then e = .returned (.int .i64 1) ∧ w = w'
  else ∃ A' n' c', e = .returned (.int .i64 0) ∧ TabAt w' B g m A' n' c' (shr m l) ∧ Turned [g] w w' ∧ (∀ k, (Value.slice A' n' c').ownBlock = some k → w.heap.size ≤ k)
theorem shr_le (r : Int) : ∀ l : List Fd, total (shr r l) ≤ total l ∧ (shr r l).length ≤ l.length
  | [] => by simp [shr]
  | f :: l => by
    unfold shr
    have ih := shr_le r l
    rw [total_cons]
    split
    · simp only [List.length_cons]; omega
    · simp [total_cons]

set_option maxHeartbeats 1000000 in
set_option maxRecDepth 100000 in
theorem limit_any (m : Int) (B g : Nat) (most : Int) (A : Option Addr) (n c : Nat) (l : List Fd) (w : World) (h : TabAt w B g most A n c l) (ht : total l ≤ 1099511627776) (hn : n ≤ 1099511627776) (hB : B ≤ w.heap.size) :
    Calls Tryd.prog 31 #[.pointer (some ⟨g, 0, none⟩), .int .i64 m] w (LimPost m B g most A n c l w) := by
  have H := hid h
  have c2 := h.blk.cell 2
  have kf2 := h.blk.frozen 2
  simp at c2
  clear h
  by_cases hbad : m < 0 ∨ 4096 < m
  · have HP : Hid (∀ e w', (e = .returned (.int .i64 1) ∧ w = w') → LimPost m B g most A n c l w e w') := hid fun e w' h => by
      unfold LimPost
      rw [if_pos hbad]
      exact h
    rcases Int.lt_or_le m 0 with h1 | h1
    · clear hbad
      go_enter Tryd.func31, Tryd.ntmps31
      go_wp2_with fail
      go_ret
      exact HP.out _ _ ⟨rfl, rfl⟩
    · have h2 : 4096 < m := by omega
      clear hbad
      go_enter Tryd.func31, Tryd.ntmps31
      go_wp2_with fail
      go_ret
      exact HP.out _ _ ⟨rfl, rfl⟩
  · have HP : Hid (∀ e w', (∃ A' n' c', e = .returned (.int .i64 0) ∧ TabAt w' B g m A' n' c' (shr m l) ∧ Turned [g] w w' ∧ (∀ k, (Value.slice A' n' c').ownBlock = some k → w.heap.size ≤ k)) → LimPost m B g most A n c l w e w') := hid fun e w' h => by
      unfold LimPost
      rw [if_neg hbad]
      exact h
    have hm0 : 0 ≤ m := by omega
    have hm1 : m ≤ 4096 := by omega
    clear hbad
    go_enter Tryd.func31, Tryd.ntmps31
    go_wp2_with fail
    have hne := H.out.blk.mid_ne H.out.own (by decide)
    have h1 : TabAt (w.setCell ⟨g, 2, none⟩ (.int .i64 m)) B g m A n c l := ⟨by simpa using H.out.blk.set_ 2 (.int .i64 m), H.out.base, H.out.own.turned ((Turned.refl [g] _).setCell (by simp) _) (fun q hq hm => by have := List.mem_singleton.1 hm; subst this; exact hne hq)⟩
    have H1 := hid h1
    have HT1 := hid (show Turned [g] w (w.setCell ⟨g, 2, none⟩ (.int .i64 m)) from (Turned.refl [g] _).setCell (by simp) _)
    clear h1 hne
    generalize w.setCell ⟨g, 2, none⟩ (.int .i64 m) = w1 at H1 HT1 ⊢
    refine (shrinks_any m B g m A n c l w1 H1.out (by omega) (by omega) (by have := HT1.out.size; omega)).mono ?_
    rintro e w2 ⟨A2, n2, c2', rfl, h2, ht2, hk2⟩
    have H2 := hid h2
    have HT2 := hid (HT1.out.trans ht2 (fun q hq => .inl hq))
    have hle := shr_le m l
    have hl2 := h2.len
    have hlw := H.out.len
    have d0 := h2.blk.cell 0
    have kg0 := h2.blk.frozen 0
    simp at d0
    clear h2 ht2 hk2 c2 kf2
    go_wp2_with (go_at_call 48; go_must (refine (fclone_any A2 n2 c2' (shr m l) w2 H2.out.own.rd (by omega)).mono ?_; rintro e w3 ⟨A3, c3, rfl, ho3, hb3⟩; have HO3 := hid ho3; have HB3 := hid hb3; have hK3 := H2.out.blk.below hb3 H2.out.blk.lt; have d1 := hK3.cell 0; have kg1 := hK3.frozen 0; simp at d1; have HK3 := hid hK3; clear ho3 hb3 hK3))
    go_ret
    have hgl := H2.out.blk.lt
    have hsz := HT2.out.size
    have ht3 : Turned [g] w3 (w3.setCell ⟨g, 0, none⟩ (.slice A3 n2 c3)) := (Turned.refl [g] _).setCell (by simp) _
    refine HP.out _ _ ⟨A3, n2, c3, rfl, ⟨by simpa using HK3.out.set_ 0 (.slice A3 n2 c3), H.out.base, ((Mid.of_own HO3.out).rebase (by omega)).turned ht3 (fun q hq hm => ?_)⟩, (HT2.out.trans (Turned.of_below HB3.out) (fun q hq => .inl hq)).trans ht3 (fun q hq => .inl hq), fun q hq => ?_⟩
    · have := (HO3.out.lt q hq).1
      have := List.mem_singleton.1 hm
      omega
    · have := (HO3.out.lt q hq).1
      omega

/-- What New makes. -/
def NewPost (m : Int) (w : World) (e : Ending) (w' : World) : Prop :=
  if m < 0 ∨ 4096 < m then e = .returned (.tuple #[.pointer none, .int .i64 1]) ∧ Below w.heap.size w w'
  else ∃ A c, e = .returned (.tuple #[.pointer (some ⟨w.heap.size, 0, none⟩), .int .i64 0]) ∧ TabAt w' w.heap.size w.heap.size m A 0 c [] ∧ Below w.heap.size w w'

set_option maxHeartbeats 1000000 in
set_option maxRecDepth 100000 in
theorem newTab_any (m : Int) (w : World) : Calls Tryd.prog 28 #[.int .i64 m] w (NewPost m w) := by
  have hz : TabAt (w.alloc (.cells #[.slice none 0 0, .int .i64 0, .int .i64 0] 65)) w.heap.size w.heap.size 0 none 0 0 [] := ⟨Blk.new w _ _, Nat.le_refl _, Mid.of_own (World.ownsRow_nil _ _ _ _)⟩
  have HZ := hid hz
  have HB := hid (show Below w.heap.size w (w.alloc (.cells #[.slice none 0 0, .int .i64 0, .int .i64 0] 65)) from (Below.refl _ _).alloc (Nat.le_refl _) _)
  clear hz
  have HP : Hid (∀ e w', (if m < 0 ∨ 4096 < m then e = .returned (.tuple #[.pointer none, .int .i64 1]) ∧ Below w.heap.size w w'
  else ∃ A c, e = .returned (.tuple #[.pointer (some ⟨w.heap.size, 0, none⟩), .int .i64 0]) ∧ TabAt w' w.heap.size w.heap.size m A 0 c [] ∧ Below w.heap.size w w') → NewPost m w e w') := hid fun e w' h => h
  go_enter Tryd.func28, Tryd.ntmps28
  go_wp2_with fail
  generalize w.alloc (.cells #[.slice none 0 0, .int .i64 0, .int .i64 0] 65) = w1 at HZ HB ⊢
  refine (limit_any m w.heap.size w.heap.size 0 none 0 0 [] w1 HZ.out (by simp [total]) (by omega) HB.out.size).mono ?_
  intro e w2 hl
  unfold LimPost at hl
  by_cases hbad : m < 0 ∨ 4096 < m
  · rw [if_pos hbad] at hl
    obtain ⟨rfl, rfl⟩ := hl
    have HX := hid hbad
    clear hbad
    go_wp2_with fail
    go_ret2
    refine HP.out _ _ ?_
    rw [if_pos HX.out]
    exact ⟨rfl, HB.out⟩
  · rw [if_neg hbad] at hl
    obtain ⟨A2, n2, c2, rfl, h2, ht2, hk2⟩ := hl
    have HX := hid hbad
    have H2 := hid h2
    have HT2 := hid ht2
    have hn2 : n2 = 0 := by have := h2.len; simpa [shr] using this.symm
    subst hn2
    clear hbad h2 ht2 hk2
    go_wp2_with fail
    go_ret2
    refine HP.out _ _ ?_
    rw [if_neg HX.out]
    exact ⟨A2, c2, rfl, H2.out, HB.out.trans (HT2.out.below (fun b hb => by have := List.mem_singleton.1 hb; omega) HB.out.size)⟩

/-- The field at i, the newest first. -/
def getF (l : List Fd) (i : Int) : Fd × Bool := if 1 ≤ i ∧ i ≤ (l.length : Nat) then ((l[l.length - i.toNat]?).getD ⟨⟨#[]⟩, ⟨#[]⟩, false⟩, true) else (⟨⟨#[]⟩, ⟨#[]⟩, false⟩, false)

set_option maxHeartbeats 1000000 in
set_option maxRecDepth 100000 in
theorem tget_any (i : Int) (B g : Nat) (most : Int) (A : Option Addr) (n c : Nat) (l : List Fd) (w : World) (h : TabAt w B g most A n c l) (hn : n ≤ 1099511627776) :
    Calls Tryd.prog 26 #[.pointer (some ⟨g, 0, none⟩), .int .i64 i] w fun e w' => e = .returned (.tuple #[(getF l i).1.val, .bool (getF l i).2]) ∧ Below w.heap.size w w' := by
  have H := hid h
  have hlen := h.len
  have h0w : w.cell? ⟨g, 0, none⟩ = some (.slice A n c) := h.blk.cell 0
  have H0 := hid h0w
  have hcap := h.own.len_le
  clear h
  go_enter Tryd.func26, Tryd.ntmps26
  go_upto_region 1 with fail
  obtain ⟨wa, hwa⟩ : ∃ wa, w.alloc (.cells #[.string ⟨#[]⟩, .string ⟨#[]⟩, .bool false] 23) = wa := ⟨_, rfl⟩
  have hRa : Blk wa w.heap.size 23 #[.string ⟨#[]⟩, .string ⟨#[]⟩, .bool false] := by rw [← hwa]; exact Blk.new w _ _
  have hba : Below w.heap.size w wa := by rw [← hwa]; exact (Below.refl _ _).alloc (Nat.le_refl _) _
  have HR := hid hRa
  have HB := hid hba
  have h0 := below_keep hba _ _ h0w
  rw [hwa]
  clear hRa hba hwa h0w
  have k0 := HR.out.cell 0
  have k1 := HR.out.cell 1
  have k2 := HR.out.cell 2
  have kf0 := HR.out.frozen 0
  have kf1 := HR.out.frozen 1
  have kf2 := HR.out.frozen 2
  simp at k0 k1 k2
  by_cases h1 : i < 1
  · have HE : Hid (getF l i = (⟨⟨#[]⟩, ⟨#[]⟩, false⟩, false)) := hid (by unfold getF; rw [if_neg (by omega)])
    go_wp2_with fail
    have hB := ((HR.out.set_ 0 (.string ⟨#[]⟩)).set_ 1 (.string ⟨#[]⟩)).set_ 2 (.bool false)
    have hbz := (((HB.out.setCell (p := ⟨w.heap.size, 0, none⟩) (Nat.le_refl _) (.string ⟨#[]⟩)).setCell (p := ⟨w.heap.size, 1, none⟩) (Nat.le_refl _) (.string ⟨#[]⟩)).setCell (p := ⟨w.heap.size, 2, none⟩) (Nat.le_refl _) (.bool false))
    clear k0 k1 k2 kf0 kf1 kf2
    generalize ((wa.setCell ⟨w.heap.size, 0, none⟩ (.string ⟨#[]⟩)).setCell ⟨w.heap.size, 1, none⟩ (.string ⟨#[]⟩)).setCell ⟨w.heap.size, 2, none⟩ (.bool false) = wz at hB hbz ⊢
    have k0 := hB.cell 0
    have k1 := hB.cell 1
    have k2 := hB.cell 2
    simp at k0 k1 k2
    exact bodyPost_ret (v := .tuple #[.agg #[.string ⟨#[]⟩, .string ⟨#[]⟩, .bool false], .bool false]) (by simp [results, Tryd.results26, go_sem, k0, k1, k2]) rfl ⟨by rw [HE.out], hbz⟩
  · by_cases h2 : (n : Int) < i
    · have HE : Hid (getF l i = (⟨⟨#[]⟩, ⟨#[]⟩, false⟩, false)) := hid (by unfold getF; rw [if_neg (by omega)])
      go_wp2_with fail
      have hB := ((HR.out.set_ 0 (.string ⟨#[]⟩)).set_ 1 (.string ⟨#[]⟩)).set_ 2 (.bool false)
      have hbz := (((HB.out.setCell (p := ⟨w.heap.size, 0, none⟩) (Nat.le_refl _) (.string ⟨#[]⟩)).setCell (p := ⟨w.heap.size, 1, none⟩) (Nat.le_refl _) (.string ⟨#[]⟩)).setCell (p := ⟨w.heap.size, 2, none⟩) (Nat.le_refl _) (.bool false))
      clear k0 k1 k2 kf0 kf1 kf2
      generalize ((wa.setCell ⟨w.heap.size, 0, none⟩ (.string ⟨#[]⟩)).setCell ⟨w.heap.size, 1, none⟩ (.string ⟨#[]⟩)).setCell ⟨w.heap.size, 2, none⟩ (.bool false) = wz at hB hbz ⊢
      have k0 := hB.cell 0
      have k1 := hB.cell 1
      have k2 := hB.cell 2
      simp at k0 k1 k2
      exact bodyPost_ret (v := .tuple #[.agg #[.string ⟨#[]⟩, .string ⟨#[]⟩, .bool false], .bool false]) (by simp [results, Tryd.results26, go_sem, k0, k1, k2]) rfl ⟨by rw [HE.out], hbz⟩
    · obtain ⟨j, rfl⟩ : ∃ j : Nat, i = j := ⟨i.toNat, by omega⟩
      have hj1 : 1 ≤ j := by omega
      have hjn : j ≤ n := by omega
      obtain ⟨b, o, f, rfl, hf, f0, f1, f2⟩ := Fs.at_ (w := w) (l := l) (H.out.own.rd) (i := n - j) (by omega)
      have HE : Hid (getF l j = (f, true)) := hid (by
        unfold getF
        rw [if_pos (by omega), Int.toNat_natCast, hlen, hf]
        rfl)
      have hw1 := IntWalk.i64_in ((n : Int) - (j : Int)) (by omega)
      have hsub : (n : Int) - (j : Int) = ((n - j : Nat) : Int) := by omega
      rw [hsub] at hw1
      obtain ⟨d, hd⟩ : ∃ d, n - j = d := ⟨_, rfl⟩
      rw [hd] at hf f0 f1 f2 hw1 hsub
      have hdn : (d : Int) < n := by omega
      have hd0 : (0 : Int) ≤ d := by omega
      have L0 : Hid (∀ w', Below w.heap.size w w' → (Instr.loadAt 33 (.pointer (some ⟨g, 0, none⟩))).run Tryd.prog w' = .ok (.slice (some ⟨b, o, none⟩) n c) w') := hid fun w' hw => by
        have q := below_keep hw _ _ H0.out
        go_simp
      have L1 : Hid (∀ w', Below w.heap.size w w' → (Instr.loadAt 23 (.pointer (some ⟨b, o + d * 3, none⟩))).run Tryd.prog w' = .ok f.val w') := hid fun w' hw => by
        have q0 := below_keep hw _ _ f0
        have q1 := below_keep hw _ _ f1
        have q2 := below_keep hw _ _ f2
        go_simp
      clear hf f0 f1 f2 hd
      have HSB := hid (show Below w.heap.size w wa.drew from HB.out.drew)
      go_wp2_with fail
      (refine wp_mixC (Below w.heap.size w) ?_ ?_ (HSB.out) ?_; (focus kernel_rfl); (focus kernel_rfl); intro KK hKK; go_wp2_with (first
                                            | (first
        | ((with_reducible refine mixS_load L0.out ?_ ?_ ?_); (focus rfl); (focus rfl))
        | ((with_reducible refine mixS_load L1.out ?_ ?_ ?_); (focus rfl); (focus rfl))
        | ((with_reducible refine And.intro ?_ ?_); (focus (exact (((HB.out.setCell (p := ⟨w.heap.size, 0, none⟩) (Nat.le_refl _) (.string f.n)).setCell (p := ⟨w.heap.size, 1, none⟩) (Nat.le_refl _) (.string f.v)).setCell (p := ⟨w.heap.size, 2, none⟩) (Nat.le_refl _) (.bool f.x)).drew))))
                                            | (with_reducible refine mix_nil ?_)
                                            | ((with_reducible refine mixS_on ?_ ?_); (focus rfl); intro K K' hK hK'; go_simp; (first | ((with_reducible refine hK _ _ ?_); clear hK hK' K K') | ((with_reducible refine hK' _ _ ?_); clear hK hK' K K') | skip))
                                            | ((with_reducible refine mixS_off ?_ ?_); (focus rfl); intro K hK; go_simp; (first | ((with_reducible refine hK _ _ ?_); clear hK K) | skip))
                                            | ((with_reducible refine mixS_step ?_); intro K K' hK hK'; go_simp; (first | ((with_reducible refine hK _ _ ?_); clear hK hK' K K') | ((with_reducible refine hK' _ _ ?_); clear hK hK' K K') | skip))))
      have hB := (((HR.out.set_ 0 (.string f.n)).set_ 1 (.string f.v)).set_ 2 (.bool f.x)).drew
      have hbz := (((HB.out.setCell (p := ⟨w.heap.size, 0, none⟩) (Nat.le_refl _) (.string f.n)).setCell (p := ⟨w.heap.size, 1, none⟩) (Nat.le_refl _) (.string f.v)).setCell (p := ⟨w.heap.size, 2, none⟩) (Nat.le_refl _) (.bool f.x)).drew
      clear k0 k1 k2 kf0 kf1 kf2
      generalize (((wa.setCell ⟨w.heap.size, 0, none⟩ (.string f.n)).setCell ⟨w.heap.size, 1, none⟩ (.string f.v)).setCell ⟨w.heap.size, 2, none⟩ (.bool f.x)).drew = wz at hB hbz ⊢
      have k0 := hB.cell 0
      have k1 := hB.cell 1
      have k2 := hB.cell 2
      simp at k0 k1 k2
      exact bodyPost_ret (v := .tuple #[.agg #[.string f.n, .string f.v, .bool f.x], .bool true]) (by simp [results, Tryd.results26, go_sem, k0, k1, k2]) rfl ⟨by rw [HE.out], hbz⟩
end Go.Proofs.YtjeocmglcgnclaaDoor

/- The dynamic table's Add. Conditions: at most 2^40 bytes in all. -/
namespace Go.Proofs.YtjeocmglcgnclaaDoor
open Go.RowKit
attribute [local go_sem] kd kdS
attribute [local go_sem ↓] sliced_word
attribute [local go_sem] offA_zero

def addL (most : Int) (l : List Fd) (f : Fd) : List Fd := if (f.size : Int) ≤ most then shr (most - f.size) l ++ [⟨f.n, f.v, false⟩] else shr (most - f.size) l
def AddPost (B g : Nat) (most : Int) (A : Option Addr) (n c : Nat) (l : List Fd) (f : Fd) (w : World) (e : Ending) (w' : World) : Prop :=
  ∃ A' n' c', e = .returned (.tuple #[]) ∧ TabAt w' B g most A' n' c' (addL most l f) ∧ Turned (g :: (Value.slice A n c).ownBlock.toList) w w' ∧ (∀ k, (Value.slice A' n' c').ownBlock = some k → (Value.slice A n c).ownBlock = some k ∨ w.heap.size ≤ k)

/-- Behind the append and the two stores. -/
theorem add_end {f : Fd} {B g : Nat} {most : Int} {A : Option Addr} {n c : Nat} {l : List Fd} {w w4 w5 w6 : World} {A3 : Option Addr} {n3 c3 : Nat} {A5 : Option Addr} {c5 H5 : Nat}
    (h : TabAt w B g most A n c l) (ht4 : Turned [g] w w4) (h4 : TabAt w4 B g most A3 n3 c3 (shr (most - (f.size : Nat)) l)) (hk3 : ∀ k, (Value.slice A3 n3 c3).ownBlock = some k → (Value.slice A n c).ownBlock = some k) (hfit : ((f.size : Nat) : Int) ≤ most)
    (hown : Mid w5 B 23 3 (.slice A5 (n3 + 1) c5) (n3 + 1) (flat (shr (most - (f.size : Nat)) l) ++ #[.string f.n, .string f.v, .bool false].toList))
    (hg5 : Turned (Value.slice A3 n3 c3).ownBlock.toList w4 w5) (hat : (Value.slice A5 (n3 + 1) c5).ownBlock = (Value.slice A3 n3 c3).ownBlock ∨ ∀ k, (Value.slice A5 (n3 + 1) c5).ownBlock = some k → H5 ≤ k) (hH : w4.heap.size ≤ H5)
    (hz : Blk w6 g 65 #[.slice A5 (n3 + 1) c5, .int .i64 ((total (shr (most - (f.size : Nat)) l) : Nat) + (f.size : Nat)), .int .i64 most]) (ht6 : Turned [g] w5 w6) (hne : (Value.slice A3 n3 c3).ownBlock ≠ some g) :
    ∃ A' n' c', Ending.returned (.tuple #[]) = .returned (.tuple #[]) ∧ TabAt w6 B g most A' n' c' (addL most l f) ∧ Turned (g :: (Value.slice A n c).ownBlock.toList) w w6 ∧ (∀ k, (Value.slice A' n' c').ownBlock = some k → (Value.slice A n c).ownBlock = some k ∨ w.heap.size ≤ k) := by
  have hgl := h4.blk.lt
  have hsz := ht4.size
  refine ⟨A5, n3 + 1, c5, rfl, ⟨?_, h.base, ?_⟩, ?_, fun k hk => ?_⟩
  · unfold addL
    rw [if_pos hfit, total_append]
    have e : ((total (shr (most - (f.size : Nat)) l) + total [⟨f.n, f.v, false⟩] : Nat) : Int) = (total (shr (most - (f.size : Nat)) l) : Nat) + (f.size : Nat) := by
      simp [total, Fd.size]
    rw [e]
    exact hz
  · unfold addL
    rw [if_pos hfit, flat_append]
    refine Mid.turned hown ht6 (fun k hk hm => ?_)
    have := List.mem_singleton.1 hm
    subst this
    rcases hat with h1 | h1
    · exact hne (h1.symm.trans hk)
    · have := h1 k hk
      omega
  · refine Turned.trans (Turned.trans (ht4.mono (fun b hb => by have := List.mem_singleton.1 hb; simp [this])) hg5 (fun b hb => .inl ?_)) ht6 (fun b hb => .inl (by have := List.mem_singleton.1 hb; simp [this]))
    simp [Option.mem_toList] at hb ⊢
    exact .inr (hk3 b hb)
  · rcases hat with h1 | h1
    · exact .inl (hk3 k (h1.symm.trans hk))
    · have := h1 k hk
      exact .inr (by omega)

set_option maxHeartbeats 4000000 in
set_option maxRecDepth 100000 in
theorem add_any (f : Fd) (B g : Nat) (most : Int) (A : Option Addr) (n c : Nat) (l : List Fd) (w : World) (h : TabAt w B g most A n c l) (ht : total l ≤ 1099511627776) (hf : f.size ≤ 1099511627776) (hn : n ≤ 1099511627776) (hB : B ≤ w.heap.size) (hm0 : 0 ≤ most) (hm1 : most ≤ 1099511627776) :
    Calls Tryd.prog 46 #[.pointer (some ⟨g, 0, none⟩), f.val] w (AddPost B g most A n c l f w) := by
  have H := hid h
  clear h
  obtain ⟨i0, hi0, hz0, hz1, hz2⟩ := fd_parts
  have hi := hid hi0
  have hz := hid hz0
  have hsz := hid hz1
  have hby := hid hz2
  clear hi0 hz0 hz1 hz2
  go_enter Tryd.func46, Tryd.ntmps46
  go_upto_region 1 with fail
  obtain ⟨wa, hwa⟩ : ∃ wa, w.alloc (.cells #[.string f.n, .string f.v, .bool f.x] 23) = wa := ⟨_, rfl⟩
  have hFa : Blk wa w.heap.size 23 #[.string f.n, .string f.v, .bool f.x] := by rw [← hwa]; exact Blk.new w _ _
  have hba : Below w.heap.size w wa := by rw [← hwa]; exact (Below.refl _ _).alloc (Nat.le_refl _) _
  rw [hwa]
  have HF := hid hFa
  have HB := hid hba
  have b0 := hFa.cell 0
  have b1 := hFa.cell 1
  have b2 := hFa.cell 2
  simp at b0 b1 b2
  have hFl := hFa.lt
  clear hFa hba hwa
  go_wp2_with fail
  refine (size_any f wa (by omega)).mono ?_
  rintro e w2 ⟨rfl, hb2⟩
  have H2 := hid (H.out.below (HB.out.trans (hb2.mono HB.out.size)))
  have HB2 := hid (HB.out.trans (hb2.mono HB.out.size))
  have HF2 := hid (HF.out.below hb2 hFl)
  have c2 := H2.out.blk.cell 2
  simp at c2
  clear hb2 b0 b1 b2
  have hfs : (0 : Int) ≤ (f.size : Nat) := by omega
  have hfs1 : ((f.size : Nat) : Int) ≤ 1099511627776 := by omega
  go_wp2_with fail
  refine (shrinks_any (most - (f.size : Nat)) B g most A n c l w2 H2.out (by omega) (by omega) (by have := HB2.out.size; omega)).mono ?_
  rintro e w3 ⟨A3, n3, c3, rfl, h3, ht3, hk3⟩
  have H3 := hid h3
  have HT3 := hid ht3
  have HK3 := hid hk3
  have hgl := H.out.blk.lt
  have HF3 := hid (HF2.out.turned ht3 (by simp; omega))
  have hle := shr_le (most - (f.size : Nat)) l
  have hn3 := h3.len
  have hlw := H.out.len
  have d2 := h3.blk.cell 2
  simp at d2
  clear h3 ht3 hk3 c2
  have HP : Hid (∀ e w', (∃ A' n' c', e = .returned (.tuple #[]) ∧ TabAt w' B g most A' n' c' (addL most l f) ∧ Turned (g :: (Value.slice A n c).ownBlock.toList) w w' ∧ (∀ k, (Value.slice A' n' c').ownBlock = some k → (Value.slice A n c).ownBlock = some k ∨ w.heap.size ≤ k)) → AddPost B g most A n c l f w e w') := hid fun e w' h => h
  have HTW := hid ((Turned.of_below (F := [g]) HB2.out).trans HT3.out (fun q hq => .inl hq))
  by_cases hfit : ((f.size : Nat) : Int) ≤ most
  · have hfb0 := HF3.out.cell 2
    have hff := HF3.out.frozen 2
    simp at hfb0
    go_wp2_with fail
    have HF4 := hid (show Blk (w3.setCell ⟨w.heap.size, 2, none⟩ (.bool false)) w.heap.size 23 #[.string f.n, .string f.v, .bool false] from by simpa using HF3.out.set_ 2 (.bool false))
    have hown3 : ∀ k, (Value.slice A3 n3 c3).ownBlock = some k → k < w.heap.size := fun k hk => (H.out.own.lt k (HK3.out k hk)).2
    have ht34 : Turned [w.heap.size] w3 (w3.setCell ⟨w.heap.size, 2, none⟩ (.bool false)) := (Turned.refl _ _).setCell (by simp) _
    have H4 := hid (H3.out.turned ht34 (by simp; omega) (fun k hk hm => by have := hown3 k hk; have := List.mem_singleton.1 hm; omega))
    have HT4 := hid (HTW.out.trans ht34 (fun q hq => .inr (by have := List.mem_singleton.1 hq; omega)))
    clear ht34 hfb0 hff d2
    generalize w3.setCell ⟨w.heap.size, 2, none⟩ (.bool false) = w4 at HF4 H4 HT4 ⊢
    have g0 := H4.out.blk.cell 0
    have g1 := H4.out.blk.cell 1
    have gf0 := H4.out.blk.frozen 0
    have gf1 := H4.out.blk.frozen 1
    have b0 := HF4.out.cell 0
    have b1 := HF4.out.cell 1
    have b2 := HF4.out.cell 2
    simp at g0 g1 b0 b1 b2
    have hB4 : B ≤ w4.heap.size := by have := HT4.out.size; omega
    have hw1 := IntWalk.i64_in ((total (shr (most - (f.size : Nat)) l) : Nat) + (f.size : Nat) : Int) (by omega)
    have hb0 : Below w4.heap.size w4 w4 := Below.refl _ _
    have hs0 : w4.heap.size ≤ w4.heap.size := Nat.le_refl _
    have hne := H4.out.blk.mid_ne H4.out.own (by decide)
    have HNE := hid hne
    clear hne
    have ga0 := below_keep ((Below.refl w4.heap.size w4).alloc (Nat.le_refl _) (.cells #[.string f.n, .string f.v, .bool false] 23)) _ _ g0
    have ga1 := below_keep ((Below.refl w4.heap.size w4).alloc (Nat.le_refl _) (.cells #[.string f.n, .string f.v, .bool false] 23)) _ _ g1
    go_region_law (first
      | (refine at_app ?_; go_loud (refine stepL_mid B 23 i0 _ 3 40 Tryd.underlying33 hi.out hz.out hsz.out hby.out rfl (by decide) _ n3 _ (H4.out.own.below ?_) _ 1 1 _ (rd_new rfl ?_) ?_ ?_ ?_ ?_ ?_ ?_ ?_; (focus (go_grown; done)); (focus rfl); (focus rfl); (focus rfl); (focus (simp [Value.oneCell'])); (focus omega); (focus omega); (focus go_size); intro A5 c5 w5 hown5 hg5 hat5; refine (have hkg : Blk w5 g 65 #[.slice A3 n3 c3, .int .i64 (total (shr (most - (f.size : Nat)) l) : Nat), .int .i64 most] := ?_; ?_); (focus (refine Blk.grown (H4.out.blk.below ?_ H4.out.blk.lt) hg5 (fun e => HNE.out e.symm); (go_grown; done))); have z0 := hkg.cell 0; have z1 := hkg.cell 1; have zf0 := hkg.frozen 0; have zf1 := hkg.frozen 1; simp at z0 z1)))
    all_goals
      go_end0
      have hz := (hkg.set_ 0 (.slice A5 (n3 + 1) c5)).set_ 1 (.int .i64 ((total (shr (most - (f.size : Nat)) l) : Nat) + (f.size : Nat)))
      have ht5 : Turned [g] w5 ((w5.setCell ⟨g, 0, none⟩ (.slice A5 (n3 + 1) c5)).setCell ⟨g, 1, none⟩ (.int .i64 ((total (shr (most - (f.size : Nat)) l) : Nat) + (f.size : Nat)))) := ((Turned.refl [g] _).setCell (by simp) _).setCell (by simp) _
      exact HP.out _ _ (add_end H.out HT4.out H4.out HK3.out hfit hown5 (Turned.grown ((Turned.refl (Value.slice A3 n3 c3).ownBlock.toList w4).trans (Turned.of_below (F := []) ((Below.refl w4.heap.size w4).alloc (Nat.le_refl _) (.cells #[.string f.n, .string f.v, .bool false] 23)).drew) (by simp)) hg5 (fun k hk => .inl (by simp [hk]))) hat5 (by simp) (by simpa using hz) ht5 HNE.out)
  · have HFIT := hid hfit
    have hlt : decide (((f.size : Nat) : Int) ≤ most) = false := decide_eq_false hfit
    clear hfit
    go_wp2_with fail
    go_end0
    refine HP.out _ _ ⟨A3, n3, c3, rfl, by unfold addL; rw [if_neg (by have := HFIT.out; omega)]; exact H3.out, HTW.out.mono (fun b hb => by have := List.mem_singleton.1 hb; simp [this]), fun k hk => .inl (HK3.out k hk)⟩
end Go.Proofs.YtjeocmglcgnclaaDoor

/- The dynamic table's Find. Conditions: at most 2^40 fields. -/
namespace Go.Proofs.YtjeocmglcgnclaaDoor
open Go.RowKit
attribute [local go_sem] kd kdS

/-- The newest with both, and the newest with the name, among the first k. -/
def findK (l : List Fd) (nm vl : ByteArray) : Nat → Nat × Nat
  | 0 => (0, 0)
  | k + 1 => match l[k]? with
    | none => findK l nm vl k
    | some f => if f.n.toList == nm.toList then (if f.v.toList == vl.toList then (l.length - k, l.length - k) else ((findK l nm vl k).1, l.length - k)) else findK l nm vl k

theorem findK_some {l : List Fd} {nm vl : ByteArray} {k : Nat} {f : Fd} (h : l[k]? = some f) : findK l nm vl (k + 1) = if f.n.toList == nm.toList then (if f.v.toList == vl.toList then (l.length - k, l.length - k) else ((findK l nm vl k).1, l.length - k)) else findK l nm vl k := by
  rw [findK, h]

set_option maxHeartbeats 1000000 in
set_option maxRecDepth 100000 in
theorem tfind_any (nm vl : ByteArray) (B g : Nat) (most : Int) (A : Option Addr) (n c : Nat) (l : List Fd) (w : World) (h : TabAt w B g most A n c l) (hn : n ≤ 1099511627776) :
    Calls Tryd.prog 44 #[.pointer (some ⟨g, 0, none⟩), .string nm, .string vl] w fun e w' => e = .returned (.tuple #[.int .i64 ((findK l nm vl n).1 : Nat), .int .i64 ((findK l nm vl n).2 : Nat)]) ∧ Below w.heap.size w w' := by
  have H := hid h
  have hlen := h.len
  have h0 : w.cell? ⟨g, 0, none⟩ = some (.slice A n c) := h.blk.cell 0
  have H0 := hid h0
  clear h
  go_enter Tryd.func44, Tryd.ntmps44
  go_wp2_with fail
  go_loopw [8, 9, 18] (fun x y i wr => ∃ k : Nat, k ≤ n ∧ i = .int .i64 k ∧ x = .int .i64 ((findK l nm vl k).1 : Nat) ∧ y = .int .i64 ((findK l nm vl k).2 : Nat) ∧ Below w.heap.size w wr) (fun _ _ i _ => n - (intOf i).toNat)
  case atStart => exact ⟨0, Nat.zero_le _, rfl, rfl, rfl, Below.refl _ _⟩
  case round =>
    obtain ⟨k, hk, rfl, rfl, rfl, hb⟩ := hrel
    have HB := hid hb
    clear h0
    by_cases hkn : k < n
    · obtain ⟨b, o, f, rfl, hf, f0, f1, f2⟩ := Fs.at_ (w := wr) (l := l) ((H.out.own.below hb).rd) hkn
      have c0 := below_keep hb _ _ H0.out
      have HF := hid hf
      have ga0 := below_keep ((Below.refl wr.heap.size wr).alloc (Nat.le_refl _) (.cells #[.string f.n, .string f.v, .bool f.x] 23)) _ _ c0
      clear hf hb
      go_wp2_with fail
      · have a1 : (f.n.toList == nm.toList) = true := by assumption
        have a2 : (f.v.toList == vl.toList) = true := by assumption
        have e : findK l nm vl (k + 1) = (n - k, n - k) := by rw [findK_some HF.out, a1, a2, hlen]; rfl
        go_roundw
        case rel => exact ⟨k + 1, by omega, by go_num, by rw [e]; go_num, by rw [e]; go_num, HB.out.alloc HB.out.size _⟩
        case measure => simp [intOf]; omega
      · have a1 : (f.n.toList == nm.toList) = true := by assumption
        have a2 : (f.v.toList == vl.toList) = false := by assumption
        have e : findK l nm vl (k + 1) = ((findK l nm vl k).1, n - k) := by rw [findK_some HF.out, a1, a2, hlen]; rfl
        go_roundw
        case rel => exact ⟨k + 1, by omega, by go_num, by rw [e], by rw [e]; go_num, HB.out.alloc HB.out.size _⟩
        case measure => simp [intOf]; omega
      · have a1 : (f.n.toList == nm.toList) = false := by assumption
        have e : findK l nm vl (k + 1) = findK l nm vl k := by rw [findK_some HF.out, a1]; rfl
        go_roundw
        case rel => exact ⟨k + 1, by omega, by go_num, by rw [e], by rw [e], HB.out.alloc HB.out.size _⟩
        case measure => simp [intOf]; omega
    · obtain rfl : k = n := by omega
      clear hb
      go_wp2_with fail
      go_ret2
      exact ⟨rfl, HB.out⟩
end Go.Proofs.YtjeocmglcgnclaaDoor

/- The dynamic table by the blocks that it owns: F. -/
namespace Go.Proofs.YtjeocmglcgnclaaDoor
open Go.RowKit

/-- A table in block g whose blocks are F; it holds l. -/
def Tb (w : World) (B : Nat) (F : List Nat) (g : Nat) (most : Int) (l : List Fd) : Prop :=
  ∃ A n c, TabAt w B g most A n c l ∧ F = g :: (Value.slice A n c).ownBlock.toList
theorem Tb.turned {w w' : World} {B g : Nat} {F G : List Nat} {most : Int} {l : List Fd} (h : Tb w B F g most l) (ht : Turned G w w') (hd : ∀ k ∈ F, k ∉ G) : Tb w' B F g most l := by
  obtain ⟨A, n, c, ha, rfl⟩ := h
  exact ⟨A, n, c, ha.turned ht (hd g (by simp)) (fun k hk => hd k (by simp [hk])), rfl⟩
theorem Tb.below {w w' : World} {B g : Nat} {F : List Nat} {most : Int} {l : List Fd} (h : Tb w B F g most l) (hb : Below w.heap.size w w') : Tb w' B F g most l := by
  obtain ⟨A, n, c, ha, rfl⟩ := h
  exact ⟨A, n, c, ha.below hb, rfl⟩
theorem Tb.ge {w : World} {B g : Nat} {F : List Nat} {most : Int} {l : List Fd} (h : Tb w B F g most l) : ∀ k ∈ F, B ≤ k ∧ k < w.heap.size := by
  obtain ⟨A, n, c, ha, rfl⟩ := h
  intro k hk
  rcases List.mem_cons.1 hk with rfl | hk
  · exact ⟨ha.base, ha.blk.lt⟩
  · exact ha.own.lt k (by simpa using hk)

theorem len_tb {w : World} {B g : Nat} {F : List Nat} {most : Int} {l : List Fd} (h : Tb w B F g most l) :
    Calls Tryd.prog 12 #[.pointer (some ⟨g, 0, none⟩)] w fun e w' => e = .returned (.int .i64 l.length) ∧ w = w' := by
  obtain ⟨A, n, c, ha, rfl⟩ := h
  rw [ha.len]
  exact tabLen_any B g most A n c l w ha
theorem size_tb {w : World} {B g : Nat} {F : List Nat} {most : Int} {l : List Fd} (h : Tb w B F g most l) :
    Calls Tryd.prog 25 #[.pointer (some ⟨g, 0, none⟩)] w fun e w' => e = .returned (.int .i64 (total l : Nat)) ∧ w = w' := by
  obtain ⟨A, n, c, ha, rfl⟩ := h
  exact tabSize_any B g most A n c l w ha
theorem most_tb {w : World} {B g : Nat} {F : List Nat} {most : Int} {l : List Fd} (h : Tb w B F g most l) :
    Calls Tryd.prog 14 #[.pointer (some ⟨g, 0, none⟩)] w fun e w' => e = .returned (.int .i64 most) ∧ w = w' := by
  obtain ⟨A, n, c, ha, rfl⟩ := h
  exact tabMost_any B g most A n c l w ha
theorem get_tb {w : World} {B g : Nat} {F : List Nat} {most : Int} {l : List Fd} (i : Int) (h : Tb w B F g most l) (hn : l.length ≤ 1099511627776) :
    Calls Tryd.prog 26 #[.pointer (some ⟨g, 0, none⟩), .int .i64 i] w fun e w' => e = .returned (.tuple #[(getF l i).1.val, .bool (getF l i).2]) ∧ Below w.heap.size w w' := by
  obtain ⟨A, n, c, ha, rfl⟩ := h
  exact tget_any i B g most A n c l w ha (by have := ha.len; omega)
theorem find_tb {w : World} {B g : Nat} {F : List Nat} {most : Int} {l : List Fd} (nm vl : ByteArray) (h : Tb w B F g most l) (hn : l.length ≤ 1099511627776) :
    Calls Tryd.prog 44 #[.pointer (some ⟨g, 0, none⟩), .string nm, .string vl] w fun e w' => e = .returned (.tuple #[.int .i64 ((findK l nm vl l.length).1 : Nat), .int .i64 ((findK l nm vl l.length).2 : Nat)]) ∧ Below w.heap.size w w' := by
  obtain ⟨A, n, c, ha, rfl⟩ := h
  rw [ha.len]
  exact tfind_any nm vl B g most A n c l w ha (by have := ha.len; omega)

/-- A call that leaves l in the table. -/
def TbPost (v : Value) (B : Nat) (F : List Nat) (g : Nat) (most : Int) (l : List Fd) (w : World) (e : Ending) (w' : World) : Prop :=
  ∃ F', e = .returned v ∧ Tb w' B F' g most l ∧ Turned F w w' ∧ ∀ k ∈ F', k ∈ F ∨ w.heap.size ≤ k
theorem add_tb {w : World} {B g : Nat} {F : List Nat} {most : Int} {l : List Fd} (f : Fd) (h : Tb w B F g most l) (ht : total l ≤ 1099511627776) (hf : f.size ≤ 1099511627776) (hn : l.length ≤ 1099511627776) (hB : B ≤ w.heap.size) (hm0 : 0 ≤ most) (hm1 : most ≤ 1099511627776) :
    Calls Tryd.prog 46 #[.pointer (some ⟨g, 0, none⟩), f.val] w (TbPost (.tuple #[]) B F g most (addL most l f) w) := by
  obtain ⟨A, n, c, ha, rfl⟩ := h
  refine (add_any f B g most A n c l w ha ht hf (by have := ha.len; omega) hB hm0 hm1).mono ?_
  rintro e w' ⟨A', n', c', rfl, h', ht', hk'⟩
  refine ⟨_, rfl, ⟨A', n', c', h', rfl⟩, ht', fun k hk => ?_⟩
  rcases List.mem_cons.1 hk with rfl | hk
  · exact .inl (by simp)
  · rcases hk' k (by simpa using hk) with h | h
    · exact .inl (by simp [h])
    · exact .inr h
def LimTb (m : Int) (B : Nat) (F : List Nat) (g : Nat) (most : Int) (l : List Fd) (w : World) (e : Ending) (w' : World) : Prop :=
  if m < 0 ∨ 4096 < m then TbPost (.int .i64 1) B F g most l w e w' else TbPost (.int .i64 0) B F g m (shr m l) w e w'
theorem limit_tb {w : World} {B g : Nat} {F : List Nat} {most : Int} {l : List Fd} (m : Int) (h : Tb w B F g most l) (ht : total l ≤ 1099511627776) (hn : l.length ≤ 1099511627776) (hB : B ≤ w.heap.size) :
    Calls Tryd.prog 31 #[.pointer (some ⟨g, 0, none⟩), .int .i64 m] w (LimTb m B F g most l w) := by
  obtain ⟨A, n, c, ha, rfl⟩ := h
  refine (limit_any m B g most A n c l w ha ht (by have := ha.len; omega) hB).mono ?_
  intro e w' hp
  unfold LimPost at hp
  unfold LimTb
  by_cases hbad : m < 0 ∨ 4096 < m
  · rw [if_pos hbad] at hp ⊢
    obtain ⟨rfl, rfl⟩ := hp
    exact ⟨_, rfl, ⟨A, n, c, ha, rfl⟩, Turned.refl _ _, fun k hk => .inl hk⟩
  · rw [if_neg hbad] at hp ⊢
    obtain ⟨A', n', c', rfl, h', ht', hk'⟩ := hp
    refine ⟨_, rfl, ⟨A', n', c', h', rfl⟩, ht'.mono (fun b hb => by have := List.mem_singleton.1 hb; simp [this]), fun k hk => ?_⟩
    rcases List.mem_cons.1 hk with rfl | hk
    · exact .inl (by simp)
    · exact .inr (hk' k (by simpa using hk))
def NewTb (m : Int) (w : World) (e : Ending) (w' : World) : Prop :=
  if m < 0 ∨ 4096 < m then e = .returned (.tuple #[.pointer none, .int .i64 1]) ∧ Below w.heap.size w w'
  else ∃ F, e = .returned (.tuple #[.pointer (some ⟨w.heap.size, 0, none⟩), .int .i64 0]) ∧ Tb w' w.heap.size F w.heap.size m [] ∧ Below w.heap.size w w'
theorem new_tb (m : Int) (w : World) : Calls Tryd.prog 28 #[.int .i64 m] w (NewTb m w) := by
  refine (newTab_any m w).mono ?_
  intro e w' hp
  unfold NewPost at hp
  unfold NewTb
  by_cases hbad : m < 0 ∨ 4096 < m
  · rw [if_pos hbad] at hp ⊢
    exact hp
  · rw [if_neg hbad] at hp ⊢
    obtain ⟨A, c, rfl, h, hb⟩ := hp
    exact ⟨_, rfl, ⟨A, 0, c, h, rfl⟩, hb⟩
end Go.Proofs.YtjeocmglcgnclaaDoor

/- What chapter 7's examples fix: it holds. -/
namespace Go.Proofs.YtjeocmglcgnclaaDoor
open Go.RowKit
attribute [local go_sem] kd kdS

def fdA : Fd := ⟨⟨#[97]⟩, ⟨#[]⟩, false⟩
def fdB : Fd := ⟨⟨#[98]⟩, ⟨#[]⟩, false⟩
theorem first_one : addL 40 [] fdA = [fdA] := rfl
theorem first_two : addL 40 [fdA] fdB = [fdB] := rfl

end Go.Proofs.YtjeocmglcgnclaaDoor

/- Plain laws of the table's words: shr, addL, findK. -/
namespace Go.Proofs.YtjeocmglcgnclaaDoor
open Go.RowKit

theorem shr_total {r : Int} (h : 0 ≤ r) : ∀ l : List Fd, (total (shr r l) : Int) ≤ r
  | [] => by simpa [shr, total] using h
  | f :: l => by
    unfold shr
    split
    · exact shr_total h l
    · omega
theorem shr_mem {r : Int} {f : Fd} : ∀ l : List Fd, f ∈ shr r l → f ∈ l
  | [], h => by simp [shr] at h
  | g :: l, h => by
    unfold shr at h
    split at h
    · exact List.mem_cons_of_mem _ (shr_mem l h)
    · exact h
theorem shr_suffix (r : Int) : ∀ l : List Fd, ∃ p, l = p ++ shr r l
  | [] => ⟨[], by simp [shr]⟩
  | g :: l => by
    unfold shr
    split
    · obtain ⟨p, hp⟩ := shr_suffix r l
      exact ⟨g :: p, by rw [List.cons_append, ← hp]⟩
    · exact ⟨[], rfl⟩
theorem shr_below {m : Int} (hm : m < 0) : ∀ l : List Fd, shr m l = []
  | [] => rfl
  | f :: l => by
    unfold shr
    rw [if_pos (by omega), shr_below hm l]
theorem shr_zero (l : List Fd) : shr 0 l = [] := by
  induction l with
  | nil => rfl
  | cons f l ih =>
    unfold shr
    rw [if_pos (by rw [total_cons]; unfold Fd.size; omega), ih]
theorem addL_total {m : Int} (hm : 0 ≤ m) (l : List Fd) (f : Fd) : (total (addL m l f) : Int) ≤ m := by
  unfold addL
  split
  · have := shr_total (r := m - f.size) (by omega) l
    rw [total_append]
    have e : total [(⟨f.n, f.v, false⟩ : Fd)] = f.size := by simp [total, Fd.size]
    rw [e]
    omega
  · rw [shr_below (by omega)]
    simpa [total] using hm
theorem addL_len (m : Int) (l : List Fd) (f : Fd) : (addL m l f).length ≤ l.length + 1 := by
  unfold addL
  have := (shr_le (m - f.size) l).2
  split
  · simp; omega
  · omega
theorem size_le_total {l : List Fd} {f : Fd} (h : f ∈ l) : f.size ≤ total l := by
  induction l with
  | nil => cases h
  | cons g l ih =>
    rw [total_cons]
    rcases List.mem_cons.1 h with rfl | h
    · omega
    · have := ih h; omega
theorem findK_none {l : List Fd} {nm vl : ByteArray} (h : ∀ f ∈ l, (f.n.toList == nm.toList) = false) : ∀ k, findK l nm vl k = (0, 0)
  | 0 => rfl
  | k + 1 => by
    unfold findK
    rcases hx : l[k]? with _ | f
    · exact findK_none h k
    · have := h f (List.mem_of_getElem? hx)
      simp only [this]
      exact findK_none h k
theorem toList_len (b : ByteArray) : b.toList.length = b.size := by
  rw [ByteArray.toList_eq, Array.length_toList]
  rfl
theorem name_far {l : List Fd} {nm : ByteArray} (h : total l < nm.size) : ∀ f ∈ l, (f.n.toList == nm.toList) = false := by
  intro f hf
  have h1 := size_le_total hf
  unfold Fd.size at h1
  rw [beq_eq_false_iff_ne]
  intro e
  have := congrArg List.length e
  rw [toList_len, toList_len] at this
  omega
end Go.Proofs.YtjeocmglcgnclaaDoor

/- What stays true of a dynamic table. No program in sight. -/
namespace Go.Proofs.YtjeocmglcgnclaaDoor
open Go.RowKit

theorem ba_len (b : ByteArray) : b.data.toList.length = b.size := Array.length_toList
/-- What stays true of a table. -/
def TabOk (most : Int) (L : List Fd) : Prop := 0 ≤ most ∧ most ≤ 4096 ∧ (total L : Int) ≤ most ∧ ∀ f ∈ L, f.x = false
theorem TabOk.add {most : Int} {L : List Fd} (h : TabOk most L) (f : Fd) : TabOk most (addL most L f) := by
  refine ⟨h.1, h.2.1, addL_total h.1 L f, fun g hg => ?_⟩
  unfold addL at hg
  split at hg
  · rcases List.mem_append.1 hg with hg | hg
    · exact h.2.2.2 g (shr_mem _ hg)
    · simp at hg; subst hg; rfl
  · exact h.2.2.2 g (shr_mem _ hg)
theorem TabOk.lim {most m : Int} {L : List Fd} (h : TabOk most L) (h0 : 0 ≤ m) (h1 : m ≤ 4096) : TabOk m (shr m L) :=
  ⟨h0, h1, shr_total h0 L, fun g hg => h.2.2.2 g (shr_mem _ hg)⟩
theorem len_total : ∀ l : List Fd, l.length ≤ total l
  | [] => by simp
  | f :: l => by have := len_total l; rw [total_cons, List.length_cons]; unfold Fd.size; omega
theorem TabOk.len {most : Int} {L : List Fd} (h : TabOk most L) : L.length ≤ 4096 := by
  have := len_total L
  have := h.2.2.1
  have := h.2.1
  omega
theorem own_row_lt {w : World} {B : Nat} {e : TypeId} {size : Nat} {v : Value} {m : Nat} {xs : List Value} (h : w.ownsRow B e size v m xs) : ∀ k, v.ownBlock = some k → B ≤ k ∧ k < w.heap.size :=
  (Mid.of_own h).lt
end Go.Proofs.YtjeocmglcgnclaaDoor
