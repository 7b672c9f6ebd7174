/- The dynamic table's other calls, each once. Conditions: at most 2^40 bytes in all. -/
import Derived.Test.YtlnhnnejmofpcaaDyn
import Derived.Deep.DeepCutAuto
namespace Go.Proofs.Ytlnhnnejmofpcaa
open Go.RowKit
attribute [local go_sem] kd kdS
attribute [local go_sem ↓] sliced_word
attribute [local go_sem] offA_zero

theorem fd_i : (Try.prog.info? 30).map (fun i => (i.zero, i.size, i.bytes)) = some (some (.agg #[.string ⟨#[]⟩, .string ⟨#[]⟩, .bool false]), 3, 40) := by kernel_rfl
theorem fd_parts : ∃ i, Try.prog.info? 30 = some i ∧ i.zero = some (.agg #[.string ⟨#[]⟩, .string ⟨#[]⟩, .bool false]) ∧ i.size = 3 ∧ i.bytes = 40 := by
  have h := fd_i
  rcases hi : Try.prog.info? 30 with _ | i
  · rw [hi] at h; cases h
  · rw [hi] at h
    simp only [Option.map_some, Option.some.injEq, Prod.mk.injEq] at h
    exact ⟨i, rfl, h.1, h.2.1, h.2.2⟩

set_option maxHeartbeats 400000 in
set_option maxRecDepth 100000 in
theorem tabLen_any (B g : Nat) (most : Int) (A : Option Addr) (n c : Nat) (l : List Fd) (w : World) (h : TabAt w B g most A n c l) :
    Calls Try.prog 10 #[.pointer (some ⟨g, 0, none⟩)] w fun e w' => e = .returned (.int .i64 n) ∧ w = w' := by
  have h0 := h.blk.cell 0
  simp at h0
  clear h
  go_enter Try.func10, Try.ntmps10
  go_wp2_with fail
  go_ret
  exact ⟨rfl, rfl⟩

set_option maxHeartbeats 400000 in
set_option maxRecDepth 100000 in
theorem tabSize_any (B g : Nat) (most : Int) (A : Option Addr) (n c : Nat) (l : List Fd) (w : World) (h : TabAt w B g most A n c l) :
    Calls Try.prog 13 #[.pointer (some ⟨g, 0, none⟩)] w fun e w' => e = .returned (.int .i64 (total l : Nat)) ∧ w = w' := by
  have h0 := h.blk.cell 1
  simp at h0
  clear h
  go_enter Try.func13, Try.ntmps13
  go_wp2_with fail
  go_ret
  exact ⟨rfl, rfl⟩

set_option maxHeartbeats 400000 in
set_option maxRecDepth 100000 in
theorem tabMost_any (B g : Nat) (most : Int) (A : Option Addr) (n c : Nat) (l : List Fd) (w : World) (h : TabAt w B g most A n c l) :
    Calls Try.prog 15 #[.pointer (some ⟨g, 0, none⟩)] w fun e w' => e = .returned (.int .i64 most) ∧ w = w' := by
  have h0 := h.blk.cell 2
  simp at h0
  clear h
  go_enter Try.func15, Try.ntmps15
  go_wp2_with fail
  go_ret
  exact ⟨rfl, rfl⟩

set_option maxHeartbeats 400000 in
set_option maxRecDepth 100000 in
theorem fclone_any (A : Option Addr) (n c : Nat) (l : List Fd) (w : World) (h : Fs w A n l) (hn : n ≤ 1099511627776) :
    Calls Try.prog 25 #[.slice A n c] w fun e w' => ∃ A' c', e = .returned (.slice A' n c') ∧ w'.ownsRow w.heap.size 30 3 (.slice A' n c') n (flat l) ∧ Below w.heap.size w w' := by
  obtain ⟨i0, hi0, hz0, hz1, hz2⟩ := fd_parts
  have hi := hid hi0
  have hz := hid hz0
  have hsz := hid hz1
  have hby := hid hz2
  clear hi0 hz0 hz1 hz2
  have hl := World.ownsRow_lit (base := w.heap.size) (e := 30) (size := 3) w #[] 0 (Nat.le_refl _) (by decide) rfl
  have HL := hid hl
  clear hl
  have qE : ∀ (w : World) (a : Option Addr) (n c n' c' : Nat), (binOp .eql 38 (.slice a n c) (.slice none n' c')).run Try.prog w = .ok (.bool a.isNone) w := fun w a n c n' c' => Lib.run_eql_slice_nil w _ _ a n c n' c' Try.underlying38
  rcases A with _ | ad
  · obtain ⟨rfl, hl⟩ := Rd.none_zero h
    clear h
    rw [hl]
    go_enter Try.func25, Try.ntmps25
    go_wp2_with fail
    go_ret
    exact ⟨none, 0, rfl, World.ownsRow_nil _ _ _ _, Below.refl _ _⟩
  · have H := hid h
    clear h
    go_enter Try.func25, Try.ntmps25
    go_wp2_with (at_builtin; go_loud (refine wpList_app _ rfl _ _ _ rfl w.heap.size 30 i0 _ 3 40 Try.underlying38 hi.out hz.out hsz.out hby.out rfl (by omega) _ 0 _ rfl HL.out _ n c (flat l) rfl (H.out.below ((Below.refl _ _).alloc (Nat.le_refl _) _)) (flat_one l) (by omega) (by omega) (by simp) ?_; intro A' c' w' hown hg hat; have HO := hid hown; have HG := hid hg; clear hown hg hat))
    go_ret
    refine ⟨A', c', rfl, by simpa using HO.out, below_app ((Below.refl _ _).alloc (Nat.le_refl _) _) HL.out HG.out (Nat.le_refl _) (by simp)⟩

/-- What Limit leaves. -/
def LimPost (m : Int) (B g : Nat) (most : Int) (A : Option Addr) (n c : Nat) (l : List Fd) (w : World) (e : Ending) (w' : World) : Prop :=
  if m < 0 ∨ 4096 < m then e = .returned (.int .i64 1) ∧ w = w'
  else ∃ A' n' c', e = .returned (.int .i64 0) ∧ TabAt w' B g m A' n' c' (shr m l) ∧ Turned [g] w w' ∧ (∀ k, (Value.slice A' n' c').ownBlock = some k → w.heap.size ≤ k)
theorem shr_le (r : Int) : ∀ l : List Fd, total (shr r l) ≤ total l ∧ (shr r l).length ≤ l.length
  | [] => by simp [shr]
  | f :: l => by
    unfold shr
    have ih := shr_le r l
    rw [total_cons]
    split
    · simp only [List.length_cons]; omega
    · simp [total_cons]

set_option maxHeartbeats 1000000 in
set_option maxRecDepth 100000 in
theorem limit_any (m : Int) (B g : Nat) (most : Int) (A : Option Addr) (n c : Nat) (l : List Fd) (w : World) (h : TabAt w B g most A n c l) (ht : total l ≤ 1099511627776) (hn : n ≤ 1099511627776) (hB : B ≤ w.heap.size) :
    Calls Try.prog 11 #[.pointer (some ⟨g, 0, none⟩), .int .i64 m] w (LimPost m B g most A n c l w) := by
  have H := hid h
  have c2 := h.blk.cell 2
  have kf2 := h.blk.frozen 2
  simp at c2
  clear h
  by_cases hbad : m < 0 ∨ 4096 < m
  · have HP : Hid (∀ e w', (e = .returned (.int .i64 1) ∧ w = w') → LimPost m B g most A n c l w e w') := hid fun e w' h => by
      unfold LimPost
      rw [if_pos hbad]
      exact h
    rcases Int.lt_or_le m 0 with h1 | h1
    · clear hbad
      go_enter Try.func11, Try.ntmps11
      go_wp2_with fail
      go_ret
      exact HP.out _ _ ⟨rfl, rfl⟩
    · have h2 : 4096 < m := by omega
      clear hbad
      go_enter Try.func11, Try.ntmps11
      go_wp2_with fail
      go_ret
      exact HP.out _ _ ⟨rfl, rfl⟩
  · have HP : Hid (∀ e w', (∃ A' n' c', e = .returned (.int .i64 0) ∧ TabAt w' B g m A' n' c' (shr m l) ∧ Turned [g] w w' ∧ (∀ k, (Value.slice A' n' c').ownBlock = some k → w.heap.size ≤ k)) → LimPost m B g most A n c l w e w') := hid fun e w' h => by
      unfold LimPost
      rw [if_neg hbad]
      exact h
    have hm0 : 0 ≤ m := by omega
    have hm1 : m ≤ 4096 := by omega
    clear hbad
    go_enter Try.func11, Try.ntmps11
    go_wp2_with fail
    have hne := H.out.blk.mid_ne H.out.own (by decide)
    have h1 : TabAt (w.setCell ⟨g, 2, none⟩ (.int .i64 m)) B g m A n c l := ⟨by simpa using H.out.blk.set_ 2 (.int .i64 m), H.out.base, H.out.own.turned ((Turned.refl [g] _).setCell (by simp) _) (fun q hq hm => by have := List.mem_singleton.1 hm; subst this; exact hne hq)⟩
    have H1 := hid h1
    have HT1 := hid (show Turned [g] w (w.setCell ⟨g, 2, none⟩ (.int .i64 m)) from (Turned.refl [g] _).setCell (by simp) _)
    clear h1 hne
    generalize w.setCell ⟨g, 2, none⟩ (.int .i64 m) = w1 at H1 HT1 ⊢
    refine (shrinks_any m B g m A n c l w1 H1.out (by omega) (by omega) (by have := HT1.out.size; omega)).mono ?_
    rintro e w2 ⟨A2, n2, c2', rfl, h2, ht2, hk2⟩
    have H2 := hid h2
    have HT2 := hid (HT1.out.trans ht2 (fun q hq => .inl hq))
    have hle := shr_le m l
    have hl2 := h2.len
    have hlw := H.out.len
    have d0 := h2.blk.cell 0
    have kg0 := h2.blk.frozen 0
    simp at d0
    clear h2 ht2 hk2 c2 kf2
    go_wp2_with (go_at_call 25; go_must (refine (fclone_any A2 n2 c2' (shr m l) w2 H2.out.own.rd (by omega)).mono ?_; rintro e w3 ⟨A3, c3, rfl, ho3, hb3⟩; have HO3 := hid ho3; have HB3 := hid hb3; have hK3 := H2.out.blk.below hb3 H2.out.blk.lt; have d1 := hK3.cell 0; have kg1 := hK3.frozen 0; simp at d1; have HK3 := hid hK3; clear ho3 hb3 hK3))
    go_ret
    have hgl := H2.out.blk.lt
    have hsz := HT2.out.size
    have ht3 : Turned [g] w3 (w3.setCell ⟨g, 0, none⟩ (.slice A3 n2 c3)) := (Turned.refl [g] _).setCell (by simp) _
    refine HP.out _ _ ⟨A3, n2, c3, rfl, ⟨by simpa using HK3.out.set_ 0 (.slice A3 n2 c3), H.out.base, ((Mid.of_own HO3.out).rebase (by omega)).turned ht3 (fun q hq hm => ?_)⟩, (HT2.out.trans (Turned.of_below HB3.out) (fun q hq => .inl hq)).trans ht3 (fun q hq => .inl hq), fun q hq => ?_⟩
    · have := (HO3.out.lt q hq).1
      have := List.mem_singleton.1 hm
      omega
    · have := (HO3.out.lt q hq).1
      omega

/-- What New makes. -/
def NewPost (m : Int) (w : World) (e : Ending) (w' : World) : Prop :=
  if m < 0 ∨ 4096 < m then e = .returned (.tuple #[.pointer none, .int .i64 1]) ∧ Below w.heap.size w w'
  else ∃ A c, e = .returned (.tuple #[.pointer (some ⟨w.heap.size, 0, none⟩), .int .i64 0]) ∧ TabAt w' w.heap.size w.heap.size m A 0 c [] ∧ Below w.heap.size w w'

set_option maxHeartbeats 1000000 in
set_option maxRecDepth 100000 in
theorem newTab_any (m : Int) (w : World) : Calls Try.prog 8 #[.int .i64 m] w (NewPost m w) := by
  have hz : TabAt (w.alloc (.cells #[.slice none 0 0, .int .i64 0, .int .i64 0] 51)) w.heap.size w.heap.size 0 none 0 0 [] := ⟨Blk.new w _ _, Nat.le_refl _, Mid.of_own (World.ownsRow_nil _ _ _ _)⟩
  have HZ := hid hz
  have HB := hid (show Below w.heap.size w (w.alloc (.cells #[.slice none 0 0, .int .i64 0, .int .i64 0] 51)) from (Below.refl _ _).alloc (Nat.le_refl _) _)
  clear hz
  have HP : Hid (∀ e w', (if m < 0 ∨ 4096 < m then e = .returned (.tuple #[.pointer none, .int .i64 1]) ∧ Below w.heap.size w w'
  else ∃ A c, e = .returned (.tuple #[.pointer (some ⟨w.heap.size, 0, none⟩), .int .i64 0]) ∧ TabAt w' w.heap.size w.heap.size m A 0 c [] ∧ Below w.heap.size w w') → NewPost m w e w') := hid fun e w' h => h
  go_enter Try.func8, Try.ntmps8
  go_wp2_with fail
  generalize w.alloc (.cells #[.slice none 0 0, .int .i64 0, .int .i64 0] 51) = w1 at HZ HB ⊢
  refine (limit_any m w.heap.size w.heap.size 0 none 0 0 [] w1 HZ.out (by simp [total]) (by omega) HB.out.size).mono ?_
  intro e w2 hl
  unfold LimPost at hl
  by_cases hbad : m < 0 ∨ 4096 < m
  · rw [if_pos hbad] at hl
    obtain ⟨rfl, rfl⟩ := hl
    have HX := hid hbad
    clear hbad
    go_wp2_with fail
    go_ret2
    refine HP.out _ _ ?_
    rw [if_pos HX.out]
    exact ⟨rfl, HB.out⟩
  · rw [if_neg hbad] at hl
    obtain ⟨A2, n2, c2, rfl, h2, ht2, hk2⟩ := hl
    have HX := hid hbad
    have H2 := hid h2
    have HT2 := hid ht2
    have hn2 : n2 = 0 := by have := h2.len; simpa [shr] using this.symm
    subst hn2
    clear hbad h2 ht2 hk2
    go_wp2_with fail
    go_ret2
    refine HP.out _ _ ?_
    rw [if_neg HX.out]
    exact ⟨A2, c2, rfl, H2.out, HB.out.trans (HT2.out.below (fun b hb => by have := List.mem_singleton.1 hb; omega) HB.out.size)⟩

/-- The field at i, the newest first. -/
def getF (l : List Fd) (i : Int) : Fd × Bool := if 1 ≤ i ∧ i ≤ (l.length : Nat) then ((l[l.length - i.toNat]?).getD ⟨⟨#[]⟩, ⟨#[]⟩, false⟩, true) else (⟨⟨#[]⟩, ⟨#[]⟩, false⟩, false)

set_option maxHeartbeats 1000000 in
set_option maxRecDepth 100000 in
theorem get_any (i : Int) (B g : Nat) (most : Int) (A : Option Addr) (n c : Nat) (l : List Fd) (w : World) (h : TabAt w B g most A n c l) (hn : n ≤ 1099511627776) :
    Calls Try.prog 12 #[.pointer (some ⟨g, 0, none⟩), .int .i64 i] w fun e w' => e = .returned (.tuple #[(getF l i).1.val, .bool (getF l i).2]) ∧ Below w.heap.size w w' := by
  have H := hid h
  have hlen := h.len
  have h0w : w.cell? ⟨g, 0, none⟩ = some (.slice A n c) := h.blk.cell 0
  have H0 := hid h0w
  have hcap := h.own.len_le
  clear h
  go_enter Try.func12, Try.ntmps12
  go_upto_region 1 with fail
  obtain ⟨wa, hwa⟩ : ∃ wa, w.alloc (.cells #[.string ⟨#[]⟩, .string ⟨#[]⟩, .bool false] 30) = wa := ⟨_, rfl⟩
  have hRa : Blk wa w.heap.size 30 #[.string ⟨#[]⟩, .string ⟨#[]⟩, .bool false] := by rw [← hwa]; exact Blk.new w _ _
  have hba : Below w.heap.size w wa := by rw [← hwa]; exact (Below.refl _ _).alloc (Nat.le_refl _) _
  have HR := hid hRa
  have HB := hid hba
  have h0 := below_keep hba _ _ h0w
  rw [hwa]
  clear hRa hba hwa h0w
  have k0 := HR.out.cell 0
  have k1 := HR.out.cell 1
  have k2 := HR.out.cell 2
  have kf0 := HR.out.frozen 0
  have kf1 := HR.out.frozen 1
  have kf2 := HR.out.frozen 2
  simp at k0 k1 k2
  by_cases h1 : i < 1
  · have HE : Hid (getF l i = (⟨⟨#[]⟩, ⟨#[]⟩, false⟩, false)) := hid (by unfold getF; rw [if_neg (by omega)])
    go_wp2_with fail
    have hB := ((HR.out.set_ 0 (.string ⟨#[]⟩)).set_ 1 (.string ⟨#[]⟩)).set_ 2 (.bool false)
    have hbz := (((HB.out.setCell (p := ⟨w.heap.size, 0, none⟩) (Nat.le_refl _) (.string ⟨#[]⟩)).setCell (p := ⟨w.heap.size, 1, none⟩) (Nat.le_refl _) (.string ⟨#[]⟩)).setCell (p := ⟨w.heap.size, 2, none⟩) (Nat.le_refl _) (.bool false))
    clear k0 k1 k2 kf0 kf1 kf2
    generalize ((wa.setCell ⟨w.heap.size, 0, none⟩ (.string ⟨#[]⟩)).setCell ⟨w.heap.size, 1, none⟩ (.string ⟨#[]⟩)).setCell ⟨w.heap.size, 2, none⟩ (.bool false) = wz at hB hbz ⊢
    have k0 := hB.cell 0
    have k1 := hB.cell 1
    have k2 := hB.cell 2
    simp at k0 k1 k2
    exact bodyPost_ret (v := .tuple #[.agg #[.string ⟨#[]⟩, .string ⟨#[]⟩, .bool false], .bool false]) (by simp [results, Try.results12, go_sem, k0, k1, k2]) rfl ⟨by rw [HE.out], hbz⟩
  · by_cases h2 : (n : Int) < i
    · have HE : Hid (getF l i = (⟨⟨#[]⟩, ⟨#[]⟩, false⟩, false)) := hid (by unfold getF; rw [if_neg (by omega)])
      go_wp2_with fail
      have hB := ((HR.out.set_ 0 (.string ⟨#[]⟩)).set_ 1 (.string ⟨#[]⟩)).set_ 2 (.bool false)
      have hbz := (((HB.out.setCell (p := ⟨w.heap.size, 0, none⟩) (Nat.le_refl _) (.string ⟨#[]⟩)).setCell (p := ⟨w.heap.size, 1, none⟩) (Nat.le_refl _) (.string ⟨#[]⟩)).setCell (p := ⟨w.heap.size, 2, none⟩) (Nat.le_refl _) (.bool false))
      clear k0 k1 k2 kf0 kf1 kf2
      generalize ((wa.setCell ⟨w.heap.size, 0, none⟩ (.string ⟨#[]⟩)).setCell ⟨w.heap.size, 1, none⟩ (.string ⟨#[]⟩)).setCell ⟨w.heap.size, 2, none⟩ (.bool false) = wz at hB hbz ⊢
      have k0 := hB.cell 0
      have k1 := hB.cell 1
      have k2 := hB.cell 2
      simp at k0 k1 k2
      exact bodyPost_ret (v := .tuple #[.agg #[.string ⟨#[]⟩, .string ⟨#[]⟩, .bool false], .bool false]) (by simp [results, Try.results12, go_sem, k0, k1, k2]) rfl ⟨by rw [HE.out], hbz⟩
    · obtain ⟨j, rfl⟩ : ∃ j : Nat, i = j := ⟨i.toNat, by omega⟩
      have hj1 : 1 ≤ j := by omega
      have hjn : j ≤ n := by omega
      obtain ⟨b, o, f, rfl, hf, f0, f1, f2⟩ := Fs.at_ (w := w) (l := l) (H.out.own.rd) (i := n - j) (by omega)
      have HE : Hid (getF l j = (f, true)) := hid (by
        unfold getF
        rw [if_pos (by omega), Int.toNat_natCast, hlen, hf]
        rfl)
      have hw1 := IntWalk.i64_in ((n : Int) - (j : Int)) (by omega)
      have hsub : (n : Int) - (j : Int) = ((n - j : Nat) : Int) := by omega
      rw [hsub] at hw1
      obtain ⟨d, hd⟩ : ∃ d, n - j = d := ⟨_, rfl⟩
      rw [hd] at hf f0 f1 f2 hw1 hsub
      have hdn : (d : Int) < n := by omega
      have hd0 : (0 : Int) ≤ d := by omega
      have L0 : Hid (∀ w', Below w.heap.size w w' → (Instr.loadAt 38 (.pointer (some ⟨g, 0, none⟩))).run Try.prog w' = .ok (.slice (some ⟨b, o, none⟩) n c) w') := hid fun w' hw => by
        have q := below_keep hw _ _ H0.out
        go_simp
      have L1 : Hid (∀ w', Below w.heap.size w w' → (Instr.loadAt 30 (.pointer (some ⟨b, o + d * 3, none⟩))).run Try.prog w' = .ok f.val w') := hid fun w' hw => by
        have q0 := below_keep hw _ _ f0
        have q1 := below_keep hw _ _ f1
        have q2 := below_keep hw _ _ f2
        go_simp
      clear hf f0 f1 f2 hd
      have HSB := hid (show Below w.heap.size w wa.drew from HB.out.drew)
      go_wp2_with fail
      (refine wp_mixC (Below w.heap.size w) ?_ ?_ (HSB.out) ?_; (focus kernel_rfl); (focus kernel_rfl); intro KK hKK; go_wp2_with (first
                                            | (first
        | ((with_reducible refine mixS_load L0.out ?_ ?_ ?_); (focus rfl); (focus rfl))
        | ((with_reducible refine mixS_load L1.out ?_ ?_ ?_); (focus rfl); (focus rfl))
        | ((with_reducible refine And.intro ?_ ?_); (focus (exact (((HB.out.setCell (p := ⟨w.heap.size, 0, none⟩) (Nat.le_refl _) (.string f.n)).setCell (p := ⟨w.heap.size, 1, none⟩) (Nat.le_refl _) (.string f.v)).setCell (p := ⟨w.heap.size, 2, none⟩) (Nat.le_refl _) (.bool f.x)).drew))))
                                            | (with_reducible refine mix_nil ?_)
                                            | ((with_reducible refine mixS_on ?_ ?_); (focus rfl); intro K K' hK hK'; go_simp)
                                            | ((with_reducible refine mixS_off ?_ ?_); (focus rfl); intro K hK; go_simp)
                                            | ((with_reducible refine mixS_step ?_); intro K K' hK hK'; go_simp)))
      have hB := (((HR.out.set_ 0 (.string f.n)).set_ 1 (.string f.v)).set_ 2 (.bool f.x)).drew
      have hbz := (((HB.out.setCell (p := ⟨w.heap.size, 0, none⟩) (Nat.le_refl _) (.string f.n)).setCell (p := ⟨w.heap.size, 1, none⟩) (Nat.le_refl _) (.string f.v)).setCell (p := ⟨w.heap.size, 2, none⟩) (Nat.le_refl _) (.bool f.x)).drew
      clear k0 k1 k2 kf0 kf1 kf2
      generalize (((wa.setCell ⟨w.heap.size, 0, none⟩ (.string f.n)).setCell ⟨w.heap.size, 1, none⟩ (.string f.v)).setCell ⟨w.heap.size, 2, none⟩ (.bool f.x)).drew = wz at hB hbz ⊢
      have k0 := hB.cell 0
      have k1 := hB.cell 1
      have k2 := hB.cell 2
      simp at k0 k1 k2
      exact bodyPost_ret (v := .tuple #[.agg #[.string f.n, .string f.v, .bool f.x], .bool true]) (by simp [results, Try.results12, go_sem, k0, k1, k2]) rfl ⟨by rw [HE.out], hbz⟩
end Go.Proofs.Ytlnhnnejmofpcaa
