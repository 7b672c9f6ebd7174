/- The law StatSizes walked. No condition but the world's own: a slice's length. -/
import Derived.Test.YtnmadedmclcdnaaDoorStatOps
import Derived.Deep.DeepCutAuto
namespace Go.Proofs.YtnmadedmclcdnaaDoor
open Go.RowKit
attribute [local go_sem] kd kdS
attribute [local go_sem ↓] sliced_word
attribute [local go_sem] offA_zero

theorem fd_i : (Tryd.prog.info? 24).map (fun i => (i.zero, i.size, i.bytes)) = some (some (.agg #[.string ⟨#[]⟩, .string ⟨#[]⟩, .bool false]), 3, 40) := by kernel_rfl
theorem fd_parts : ∃ i, Tryd.prog.info? 24 = some i ∧ i.zero = some (.agg #[.string ⟨#[]⟩, .string ⟨#[]⟩, .bool false]) ∧ i.size = 3 ∧ i.bytes = 40 := by
  have h := fd_i
  rcases hi : Tryd.prog.info? 24 with _ | i
  · rw [hi] at h; cases h
  · rw [hi] at h
    simp only [Option.map_some, Option.some.injEq, Prod.mk.injEq] at h
    exact ⟨i, rfl, h.1, h.2.1, h.2.2⟩
theorem flat_set {l : List Fd} {i : Nat} {f : Fd} (h : l[i]? = some f) (b : Bool) : (flat l).set (i * 3 + 2) (.bool b) = flat (l.set i ⟨f.n, f.v, b⟩) := by
  induction l generalizing i with
  | nil => simp at h
  | cons f0 l ih =>
    cases i with
    | zero =>
      have e : f0 = f := by simpa using h
      subst e
      rfl
    | succ i =>
      have := ih (i := i) (by simpa using h)
      rw [show (i + 1) * 3 + 2 = i * 3 + 2 + 1 + 1 + 1 by omega]
      show f0.cells ++ (flat l).set (i * 3 + 2) (.bool b) = f0.cells ++ flat (l.set i _)
      rw [this]
theorem nv_set {l : List Fd} {i : Nat} {f : Fd} (h : l[i]? = some f) (b : Bool) : (l.set i ⟨f.n, f.v, b⟩).map nv = l.map nv := by
  rw [List.map_set]
  apply List.ext_getElem?
  intro j
  rw [List.getElem?_set]
  split
  · next e =>
    subst e
    split
    · rw [List.getElem?_map, h]; rfl
    · next hj =>
      rw [List.getElem?_eq_none (by omega)]
  · rfl
theorem nv_size {f g : Fd} (h : nv f = nv g) : f.size = g.size := by
  unfold nv at h
  obtain ⟨h1, h2⟩ := Prod.mk.inj h
  have e1 : f.n.size = g.n.size := by
    have := congrArg List.length h1
    rw [ByteArray.toList_eq, ByteArray.toList_eq, Array.length_toList, Array.length_toList] at this
    exact this
  have e2 : f.v.size = g.v.size := by
    have := congrArg List.length h2
    rw [ByteArray.toList_eq, ByteArray.toList_eq, Array.length_toList, Array.length_toList] at this
    exact this
  unfold Fd.size
  omega

set_option maxHeartbeats 2000000 in
set_option maxRecDepth 100000 in
theorem sizes_good (A : Option Addr) (n c : Nat) (l : List Fd) (k : Nat) (w : World) (h : Fs w A n l) (hnc : n ≤ c) (hcm : n ≤ 140737488355328) (hk : k ≤ n) (hf : fewF l = true) :
    Calls Tryd.prog 5 #[.slice A n c, .int .i64 k] w fun e w' => e = .returned (.bool true) ∧ Below w.heap.size w w' := by
  obtain ⟨i0, hi0, hz0, hz1, hz2⟩ := fd_parts
  have hi := hid hi0
  have hz := hid hz0
  have hsz := hid hz1
  have hby := hid hz2
  clear hi0 hz0 hz1 hz2
  have hlen := h.len
  have hn200 := fewF_len hf
  have htot := fewF_total hf
  have H := hid h
  have HFW := hid hf
  have u1 : ¬ (n : Int) < (k : Int) := by omega
  have u2 : ¬ (k : Int) < 0 := by omega
  clear h hf
  go_enter Tryd.func5, Tryd.ntmps5
  go_wp2_with fail
  refine (first_any w).mono ?_
  rintro e w1 ⟨rfl, hb1⟩
  have HB1 := hid hb1
  clear hb1
  go_wp2_with fail
  refine (fewF_any A n c l w1 (H.out.below HB1.out) (by omega)).mono ?_
  rintro e w2 ⟨rfl, ht2⟩
  have HB2 := hid (HB1.out.trans ((ht2.below (B := w1.heap.size) (by intro b hb; cases hb) (Nat.le_refl _)).mono HB1.out.size))
  rw [HFW.out]
  clear ht2 HB1
  have HL := hid (World.ownsRow_lit (base := w.heap.size) (e := 24) (size := 3) w2 #[] 0 HB2.out.size (by decide) rfl)
  have HS2 := hid ((H.out.below HB2.out).below ((Below.refl _ _).alloc (Nat.le_refl _) (.cells #[] 24)))
  go_wp2_with (at_builtin; go_loud (refine wpList_app _ rfl _ _ _ rfl w.heap.size 24 i0 _ 3 40 Tryd.underlying31 hi.out hz.out hsz.out hby.out rfl (by omega) _ 0 _ rfl HL.out _ n c (flat l) rfl HS2.out (flat_one l) (by omega) (by omega) (by have := HB2.out.size; simp; omega) ?_; intro A' c' w' hown hg hat; have HO := hid hown; have HG := hid hg; clear hown hg hat))
  have hb3 : Below w.heap.size w w' := below_app (HB2.out.alloc (HB2.out.size) _) HL.out HG.out (Nat.le_refl _) (by have := HB2.out.size; simp; omega)
  have ho3 : w'.ownsRow w.heap.size 24 3 (.slice A' n c') n (flat l) := by simpa using HO.out
  have HB3 := hid hb3
  have HO3 := hid ho3
  clear HO HG HL HS2 HB2 hb3 ho3 HFW
  go_loopw [6, 7] (fun s i wr => ∃ (j : Nat) (l' : List Fd), j ≤ n ∧ i = .int .i64 j ∧ s = .int .i64 (total (l.take j) : Nat) ∧ l'.map nv = l.map nv ∧ wr.ownsRow w.heap.size 24 3 (.slice A' n c') n (flat l') ∧ Below w.heap.size w wr) (fun _ i _ => n - (intOf i).toNat)
  case atStart => exact ⟨0, l, Nat.zero_le _, rfl, rfl, rfl, HO3.out, HB3.out⟩
  case round =>
    obtain ⟨j, l', hj, rfl, rfl, hnv, ho, hb⟩ := hrel
    have HB := hid hb
    have hll : l'.length = n := by have := congrArg List.length hnv; simp at this; omega
    clear hb HO3 HB3
    by_cases hgo : j < n
    · obtain ⟨g, cp, hA, hg1, hg2⟩ := ho.form (by omega)
      obtain ⟨rfl, -, rfl⟩ : A' = some ⟨g, 0, none⟩ ∧ True ∧ c' = cp := by
        injection hA with e1 e2 e3
        exact ⟨e1, trivial, e3⟩
      obtain ⟨f, hf⟩ : ∃ f, l'[j]? = some f := ⟨_, List.getElem?_eq_getElem (by omega)⟩
      obtain ⟨f0, hf0⟩ : ∃ f, l[j]? = some f := ⟨_, List.getElem?_eq_getElem (by omega)⟩
      obtain ⟨e0, e1, e2⟩ := flat_at hf
      have k0 : wr.cell? ⟨g, j * 3, none⟩ = some (.string f.n) := (ho.cellAt (j * 3) (by omega)).trans e0
      have k1 : wr.cell? ⟨g, j * 3 + 1, none⟩ = some (.string f.v) := (ho.cellAt (j * 3 + 1) (by omega)).trans e1
      have k2 : wr.cell? ⟨g, j * 3 + 2, none⟩ = some (.bool f.x) := (ho.cellAt (j * 3 + 2) (by omega)).trans e2
      have fz := ho.frozenAt (j * 3 + 2)
      have hst := ho.stored (j * 3 + 2) (.bool (!f.x))
      rw [flat_set hf] at hst
      have HST := hid hst.1
      have HNV := hid ((nv_set hf (!f.x)).trans hnv)
      have hsize : f.size = f0.size := by
        have : (l'.map nv)[j]? = (l.map nv)[j]? := by rw [hnv]
        rw [List.getElem?_map, List.getElem?_map, hf, hf0] at this
        exact nv_size (by simpa using this)
      have hbs : Below w.heap.size w (wr.setCell ⟨g, j * 3 + 2, none⟩ (.bool (!f.x))) := HB.out.grown hst.2 HB.out.size (fun q hq => by cases hq; exact hg1)
      have HBS := hid hbs
      have htk : total (l.take (j + 1)) = total (l.take j) + f0.size := by
        rw [List.take_add_one, hf0, total_append]
        simp [total]
      have hle : total (l.take (j + 1)) ≤ total l := by
        have := total_append (l.take (j + 1)) (l.drop (j + 1))
        rw [List.take_append_drop] at this
        omega
      have HTK := hid htk
      have h32 : 32 ≤ f.size := by unfold Fd.size; omega
      have hfs : f.size ≤ 46400 := by omega
      have hsum : total (l.take j) + f.size ≤ 46400 := by omega
      have HSZ := hid hsize
      clear hst hbs htk hle hsize hf hf0 e0 e1 e2 hnv ho
      have hset : (l'.set j ⟨f.n, f.v, !f.x⟩)[j]? = some ⟨f.n, f.v, !f.x⟩ := List.getElem?_set_self (by omega)
      go_upto_region 11 with fail
      generalize l'.set j ⟨f.n, f.v, !f.x⟩ = lx at HST HNV hset
      generalize wr.setCell ⟨g, j * 3 + 2, none⟩ (.bool (!f.x)) = wx at HST HBS ⊢
      obtain ⟨e0, e1, e2⟩ := flat_at hset
      have k0 : wx.cell? ⟨g, j * 3, none⟩ = some (.string f.n) := (HST.out.cellAt (j * 3) (by omega)).trans e0
      have k1 : wx.cell? ⟨g, j * 3 + 1, none⟩ = some (.string f.v) := (HST.out.cellAt (j * 3 + 1) (by omega)).trans e1
      have k2 : wx.cell? ⟨g, j * 3 + 2, none⟩ = some (.bool (!f.x)) := (HST.out.cellAt (j * 3 + 2) (by omega)).trans e2
      have E0 := hid e0
      have E1 := hid e1
      have E2 := hid e2
      clear e0 e1 e2 hset HB fz
      go_wp2_with fail
      refine (size_any ⟨f.n, f.v, !f.x⟩ wx (by show f.size ≤ _; omega)).mono ?_
      rintro e w5 ⟨rfl, hb5⟩
      rw [show Fd.size ⟨f.n, f.v, !f.x⟩ = f.size from rfl]
      have HST5 := hid (own_turned HST.out (Turned.of_below (F := []) hb5) (by intro k _ h; cases h))
      have HB5 := hid (HBS.out.trans (hb5.mono HBS.out.size))
      have k0 : w5.cell? ⟨g, j * 3, none⟩ = some (.string f.n) := (HST5.out.cellAt (j * 3) (by omega)).trans E0.out
      have k1 : w5.cell? ⟨g, j * 3 + 1, none⟩ = some (.string f.v) := (HST5.out.cellAt (j * 3 + 1) (by omega)).trans E1.out
      have k2 : w5.cell? ⟨g, j * 3 + 2, none⟩ = some (.bool (!f.x)) := (HST5.out.cellAt (j * 3 + 2) (by omega)).trans E2.out
      clear hb5 HST HBS
      go_wp2_with fail
      refine (size_any ⟨f.n, f.v, !f.x⟩ w5 (by show f.size ≤ _; omega)).mono ?_
      rintro e w6 ⟨rfl, hb6⟩
      rw [show Fd.size ⟨f.n, f.v, !f.x⟩ = f.size from rfl]
      have HST6 := hid (own_turned HST5.out (Turned.of_below (F := []) hb6) (by intro k _ h; cases h))
      have HB6 := hid (HB5.out.trans (hb6.mono HB5.out.size))
      have u3 : ¬ ((f.size : Nat) : Int) < 32 := by omega
      clear hb6 HST5 HB5 k0 k1 k2
      go_wp2_with fail
      go_roundw
      case rel => exact ⟨j + 1, lx, by omega, by go_num, by rw [HTK.out, ← HSZ.out]; go_num, HNV.out, HST6.out, HB6.out⟩
      case measure => simp [intOf]; omega
    · obtain rfl : j = n := by omega
      have he : l.take j = l := List.take_of_length_le (by omega)
      rw [he]
      have hm : Fs wr A' j l' := Rd.of_own ho
      have hw : Fs wr A j l := H.out.below HB.out
      have tk1 : total (l.take k) + total (l.drop k) = total l := by rw [← total_append, List.take_append_drop]
      have hwt : Fs wr A k (l.take k) := by
        have := Rd.take hw hk
        rwa [flat_take] at this
      have hwd : Fs wr (offA A k c 3) (j - k) (l.drop k) := by
        have := Rd.off hw hk hnc
        rwa [flat_drop] at this
      by_cases hkj : k = j
      · subst hkj
        have HT0 : Hid (∀ W, Below wr.heap.size wr W → Calls Tryd.prog 12 #[.slice A k c] W fun e w' => e = .returned (.int .i64 (total l : Nat)) ∧ Below W.heap.size W w') := hid fun W hW => total_any A k c l W (hw.below hW) (by omega) (by omega)
        have HT1 := HT0
        have HT2 : Hid (∀ W, Below wr.heap.size wr W → Calls Tryd.prog 12 #[.slice (offA A k c 3) 0 (c - k)] W fun e w' => e = .returned (.int .i64 0) ∧ Below W.heap.size W w') := hid fun W hW => by
          rw [Nat.sub_self] at hwd
          have := total_any (offA A k c 3) 0 (c - k) (l.drop k) W (hwd.below hW) (by omega) (by omega)
          rwa [show total (l.drop k) = 0 by rw [List.drop_of_length_le (by omega)]; rfl] at this
        have HM0 : Hid (∀ W, Below wr.heap.size wr W → Calls Tryd.prog 13 #[.slice A k c, .slice A' k c'] W fun e w' => e = .returned (.bool true) ∧ Below W.heap.size W w') := hid fun W hW => by
          have := same_any A k c l A' k c' l' W (hw.below hW) (hm.below hW) (by omega)
          rwa [show sameL l l' = true from decide_eq_true hnv.symm] at this
        have HM1 : Hid (∀ W, Below wr.heap.size wr W → Calls Tryd.prog 13 #[.slice A k c, .slice A k c] W fun e w' => e = .returned (.bool true) ∧ Below W.heap.size W w') := hid fun W hW => by
          have := same_any A k c l A k c l W (hw.below hW) (hw.below hW) (by omega)
          rwa [show sameL l l = true from decide_eq_true rfl] at this
        clear ho hnv he hgo tk1 hwt hwd hm hw
        generalize total l = a at HT0 HT1 HT2 htot ⊢
        have z6 : IntKind.i64.wrap (a : Int) = (a : Int) := IntWalk.i64_in _ (by omega)
        go_wp2_with fail
        have HSB := hid (show Below wr.heap.size wr wr.drew from (Below.refl _ _).drew)
        (refine wp_mixC (Below wr.heap.size wr) ?_ ?_ (HSB.out) ?_; (focus kernel_rfl); (focus kernel_rfl); intro KK hKK; go_wp2_with (first
                                                | (first
          | (go_at_call 7; go_must ((with_reducible refine (first_any _).mono ?_); rintro e w12 ⟨rfl, hb12⟩; have HSB := hid (HSB.out.trans (hb12.mono HSB.out.size)); clear hb12))
          | (go_at_call 12; go_must ((first | (with_reducible refine (HT0.out _ HSB.out).mono ?_) | (with_reducible refine (HT1.out _ HSB.out).mono ?_) | (with_reducible refine (HT2.out _ HSB.out).mono ?_)); rintro e w12 ⟨rfl, hb12⟩; have HSB := hid (HSB.out.trans (hb12.mono HSB.out.size)); clear hb12))
          | (go_at_call 13; go_must ((first | (with_reducible refine (HM0.out _ HSB.out).mono ?_) | (with_reducible refine (HM1.out _ HSB.out).mono ?_)); rintro e w12 ⟨rfl, hb12⟩; have HSB := hid (HSB.out.trans (hb12.mono HSB.out.size)); clear hb12))
          | ((with_reducible refine And.intro ?_ ?_); (focus (exact HSB.out))))
                                                | (with_reducible refine mix_nil ?_)
                                                | ((with_reducible refine mixS_on ?_ ?_); (focus rfl); intro K K' hK hK'; go_simp; (first | ((with_reducible refine hK _ _ ?_); clear hK hK' K K') | ((with_reducible refine hK' _ _ ?_); clear hK hK' K K') | skip))
                                                | ((with_reducible refine mixS_off ?_ ?_); (focus rfl); intro K hK; go_simp; (first | ((with_reducible refine hK _ _ ?_); clear hK K) | skip))
                                                | ((with_reducible refine mixS_step ?_); intro K K' hK hK'; go_simp; (first | ((with_reducible refine hK _ _ ?_); clear hK hK' K K') | ((with_reducible refine hK' _ _ ?_); clear hK hK' K K') | skip))))
        go_wp2_with fail
        go_ret
        exact ⟨rfl, HB.out.trans (HSB.out.mono HB.out.size)⟩
      · have z4 : ((k : Int) == (j : Int)) = false := by rw [beq_eq_false_iff_ne]; omega
        have z5 : ¬ (k : Int) = (j : Int) := by omega
        have HT0 : Hid (∀ W, Below wr.heap.size wr W → Calls Tryd.prog 12 #[.slice A j c] W fun e w' => e = .returned (.int .i64 ((total (l.take k) + total (l.drop k) : Nat) : Int)) ∧ Below W.heap.size W w') := hid fun W hW => by
          rw [tk1]
          exact total_any A j c l W (hw.below hW) (by omega) (by omega)
        have HT1 : Hid (∀ W, Below wr.heap.size wr W → Calls Tryd.prog 12 #[.slice A k c] W fun e w' => e = .returned (.int .i64 (total (l.take k) : Nat)) ∧ Below W.heap.size W w') := hid fun W hW => total_any A k c (l.take k) W (hwt.below hW) (by omega) (by omega)
        have HT2 : Hid (∀ W, Below wr.heap.size wr W → Calls Tryd.prog 12 #[.slice (offA A k c 3) (j - k) (c - k)] W fun e w' => e = .returned (.int .i64 (total (l.drop k) : Nat)) ∧ Below W.heap.size W w') := hid fun W hW => total_any (offA A k c 3) (j - k) (c - k) (l.drop k) W (hwd.below hW) (by omega) (by omega)
        have HM0 : Hid (∀ W, Below wr.heap.size wr W → Calls Tryd.prog 13 #[.slice A j c, .slice A' j c'] W fun e w' => e = .returned (.bool true) ∧ Below W.heap.size W w') := hid fun W hW => by
          have := same_any A j c l A' j c' l' W (hw.below hW) (hm.below hW) (by omega)
          rwa [show sameL l l' = true from decide_eq_true hnv.symm] at this
        have HM1 : Hid (∀ W, Below wr.heap.size wr W → Calls Tryd.prog 13 #[.slice A j c, .slice A k c] W fun e w' => e = .returned (.bool (sameL l (l.take k))) ∧ Below W.heap.size W w') := hid fun W hW => same_any A j c l A k c (l.take k) W (hw.below hW) (hwt.below hW) (by omega)
        have hab : total (l.take k) + total (l.drop k) ≤ 46400 := by omega
        rw [← tk1]
        have hsl : sameL l (l.take k) = false := sameL_len (by rw [List.length_take]; omega)
        rw [hsl] at HM1
        clear ho hnv he hgo tk1 hwt hwd hm hw hsl
        generalize total (l.take k) = a at HT0 HT1 HT2 hab ⊢
        generalize total (l.drop k) = b at HT0 HT1 HT2 hab ⊢
        have z6 : IntKind.i64.wrap ((a : Int) + (b : Int)) = (a : Int) + (b : Int) := IntWalk.i64_in _ (by omega)
        clear hkj
        go_wp2_with fail
        have HSB := hid (show Below wr.heap.size wr wr.drew from (Below.refl _ _).drew)
        (refine wp_mixC (Below wr.heap.size wr) ?_ ?_ (HSB.out) ?_; (focus kernel_rfl); (focus kernel_rfl); intro KK hKK; go_wp2_with (first
                                                | (first
          | (go_at_call 7; go_must ((with_reducible refine (first_any _).mono ?_); rintro e w12 ⟨rfl, hb12⟩; have HSB := hid (HSB.out.trans (hb12.mono HSB.out.size)); clear hb12))
          | (go_at_call 12; go_must ((first | (with_reducible refine (HT0.out _ HSB.out).mono ?_) | (with_reducible refine (HT1.out _ HSB.out).mono ?_) | (with_reducible refine (HT2.out _ HSB.out).mono ?_)); rintro e w12 ⟨rfl, hb12⟩; have HSB := hid (HSB.out.trans (hb12.mono HSB.out.size)); clear hb12))
          | (go_at_call 13; go_must ((first | (with_reducible refine (HM0.out _ HSB.out).mono ?_) | (with_reducible refine (HM1.out _ HSB.out).mono ?_)); rintro e w12 ⟨rfl, hb12⟩; have HSB := hid (HSB.out.trans (hb12.mono HSB.out.size)); clear hb12))
          | ((with_reducible refine And.intro ?_ ?_); (focus (exact HSB.out))))
                                                | (with_reducible refine mix_nil ?_)
                                                | ((with_reducible refine mixS_on ?_ ?_); (focus rfl); intro K K' hK hK'; go_simp; (first | ((with_reducible refine hK _ _ ?_); clear hK hK' K K') | ((with_reducible refine hK' _ _ ?_); clear hK hK' K K') | skip))
                                                | ((with_reducible refine mixS_off ?_ ?_); (focus rfl); intro K hK; go_simp; (first | ((with_reducible refine hK _ _ ?_); clear hK K) | skip))
                                                | ((with_reducible refine mixS_step ?_); intro K K' hK hK'; go_simp; (first | ((with_reducible refine hK _ _ ?_); clear hK hK' K K') | ((with_reducible refine hK' _ _ ?_); clear hK hK' K K') | skip))))
        go_wp2_with fail
        go_ret
        exact ⟨rfl, HB.out.trans (HSB.out.mono HB.out.size)⟩

set_option maxHeartbeats 2000000 in
set_option maxRecDepth 100000 in
theorem sizes_bad (A : Option Addr) (n c : Nat) (l : List Fd) (k : Int) (w : World) (h : Fs w A n l) (hnc : n ≤ c) (hcm : n ≤ 140737488355328) (hbad : fewF l = false ∨ k < 0 ∨ (n : Int) < k) :
    Calls Tryd.prog 5 #[.slice A n c, .int .i64 k] w fun e w' => e = .returned (.bool true) ∧ Below w.heap.size w w' := by
  have H := hid h
  have HBAD := hid hbad
  clear h hbad
  go_enter Tryd.func5, Tryd.ntmps5
  go_wp2_with fail
  refine (first_any w).mono ?_
  rintro e w1 ⟨rfl, hb1⟩
  have HB1 := hid hb1
  clear hb1
  go_wp2_with fail
  refine (fewF_any A n c l w1 (H.out.below HB1.out) (by omega)).mono ?_
  rintro e w2 ⟨rfl, ht2⟩
  have HB2 := hid (HB1.out.trans ((ht2.below (B := w1.heap.size) (by intro b hb; cases hb) (Nat.le_refl _)).mono HB1.out.size))
  clear ht2 HB1
  rcases hf : fewF l with _ | _
  · clear hf
    go_wp2_with fail
    refine (first_any w2).mono ?_
    rintro e w3 ⟨rfl, hb3⟩
    have HB3 := hid (HB2.out.trans (hb3.mono HB2.out.size))
    clear hb3
    go_wp2_with fail
    go_ret
    exact ⟨rfl, HB3.out⟩
  · by_cases hk : k < 0
    · clear hf
      go_wp2_with fail
      refine (first_any w2).mono ?_
      rintro e w3 ⟨rfl, hb3⟩
      have HB3 := hid (HB2.out.trans (hb3.mono HB2.out.size))
      clear hb3
      go_wp2_with fail
      go_ret
      exact ⟨rfl, HB3.out⟩
    · have hk2 : (n : Int) < k := by
        rcases HBAD.out with h | h | h
        · rw [hf] at h; cases h
        · omega
        · exact h
      clear hf
      go_wp2_with fail
      refine (first_any w2).mono ?_
      rintro e w3 ⟨rfl, hb3⟩
      have HB3 := hid (HB2.out.trans (hb3.mono HB2.out.size))
      clear hb3
      go_wp2_with fail
      go_ret
      exact ⟨rfl, HB3.out⟩

theorem sizes_walk (A : Option Addr) (n c : Nat) (l : List Fd) (k : Int) (w : World) (h : Fs w A n l) (hnc : n ≤ c) (hcm : n ≤ 140737488355328) :
    Calls Tryd.prog 5 #[.slice A n c, .int .i64 k] w fun e w' => e = .returned (.bool true) ∧ Below w.heap.size w w' := by
  by_cases hbad : fewF l = false ∨ k < 0 ∨ (n : Int) < k
  · exact sizes_bad A n c l k w h hnc hcm hbad
  · obtain ⟨q, rfl⟩ : ∃ q : Nat, k = q := ⟨k.toNat, by omega⟩
    exact sizes_good A n c l q w h hnc hcm (by omega) (by
      rcases hf : fewF l with _ | _
      · exact absurd (.inl hf) hbad
      · rfl)
end Go.Proofs.YtnmadedmclcdnaaDoor
