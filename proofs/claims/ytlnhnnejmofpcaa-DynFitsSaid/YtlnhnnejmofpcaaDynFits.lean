/- DynFits' walk. Conditions: at most 2^47 calls. -/
import Derived.Test.YtlnhnnejmofpcaaDynFew
import Derived.Test.YtlnhnnejmofpcaaDynPlain
namespace Go.Proofs.Ytlnhnnejmofpcaa
open Go.RowKit
attribute [local go_sem] kd kdS

/-- Between two calls: the table, and the fields that were added. -/
structure FitI (w wr : World) (g : Nat) (F : List Nat) (M : Int) (L : List Fd) (A : Option Addr) (m c : Nat) : Prop where
  tb : Tb wr g F g M L
  m0 : 0 ≤ M
  m1 : M ≤ 4096
  fit : (total L : Int) ≤ M
  nev : ∀ f ∈ L, f.x = false
  own : ∃ xs, wr.ownsRow w.heap.size 30 3 (.slice A m c) m xs
  apart : ∀ k, (Value.slice A m c).ownBlock = some k → k ∉ F
  hg : w.heap.size ≤ g
  out : Below w.heap.size w wr
section
variable {w wr wr' : World} {g m c : Nat} {F F' : List Nat} {M M' : Int} {L L' : List Fd} {A : Option Addr}
theorem FitI.below (h : FitI w wr g F M L A m c) (hb : Below wr.heap.size wr wr') : FitI w wr' g F M L A m c :=
  ⟨h.tb.below hb, h.m0, h.m1, h.fit, h.nev, by obtain ⟨xs, hx⟩ := h.own; exact ⟨xs, own_below hx hb⟩, h.apart, h.hg, h.out.trans (hb.mono h.out.size)⟩
theorem FitI.tabled (h : FitI w wr g F M L A m c) (h' : Tb wr' g F' g M' L') (ht : Turned F wr wr') (hk : ∀ k ∈ F', k ∈ F ∨ wr.heap.size ≤ k) (h0 : 0 ≤ M') (h1 : M' ≤ 4096) (hf : (total L' : Int) ≤ M') (hn : ∀ f ∈ L', f.x = false) : FitI w wr' g F' M' L' A m c := by
  refine ⟨h', h0, h1, hf, hn, ?_, fun k hk1 hk2 => ?_, h.hg, h.out.trans (ht.below (fun k hk => Nat.le_trans h.hg (h.tb.ge k hk).1) h.out.size)⟩
  · obtain ⟨xs, hx⟩ := h.own
    exact ⟨xs, own_turned hx ht h.apart⟩
  · obtain ⟨xs, hx⟩ := h.own
    have := (hx.lt k hk1).2
    rcases hk k hk2 with h3 | h3
    · exact h.apart k hk1 h3
    · omega
theorem FitI.app {A' : Option Addr} {c' : Nat} {xs : List Value} (h : FitI w wr g F M L A m c) (ho : wr'.ownsRow w.heap.size 30 3 (.slice A' (m + 1) c') (m + 1) xs) (hg : wr.grownBy wr' (Value.slice A m c).ownBlock)
    (hat : (Value.slice A' (m + 1) c').ownBlock = (Value.slice A m c).ownBlock ∨ (Value.slice A' (m + 1) c').ownBlock = some wr.heap.size) : FitI w wr' g F M L A' (m + 1) c' := by
  have ht : Turned (Value.slice A m c).ownBlock.toList wr wr' := (Turned.refl _ _).grown hg (fun k hk => .inl (by simp [hk]))
  refine ⟨h.tb.turned ht (fun k hk hk2 => h.apart k (by simpa using hk2) hk), h.m0, h.m1, h.fit, h.nev, ⟨xs, ho⟩, fun k hk1 hk2 => ?_, h.hg, h.out.trans (ht.below (fun k hk => ?_) h.out.size)⟩
  · rcases hat with h3 | h3
    · exact h.apart k (h3.symm.trans hk1) hk2
    · rw [h3] at hk1
      have := (h.tb.ge k hk2).2
      simp at hk1
      omega
  · obtain ⟨xs, hx⟩ := h.own
    exact (hx.lt k (by simpa using hk)).1
theorem FitI.lt (h : FitI w wr g F M L A m c) : g < wr.heap.size := (h.tb.ge g (by obtain ⟨A, n, c, _, e⟩ := h.tb; rw [e]; simp)).2
end
theorem addL_nev {M : Int} {L : List Fd} {f : Fd} (h : ∀ f ∈ L, f.x = false) : ∀ g ∈ addL M L f, g.x = false := by
  intro g hg
  unfold addL at hg
  split at hg
  · rcases List.mem_append.1 hg with h1 | h1
    · exact h g (shr_mem L h1)
    · rw [List.mem_singleton.1 h1]
  · exact h g (shr_mem L hg)
theorem addL_last {M : Int} {L : List Fd} {f : Fd} (h : addL M L f ≠ []) : ∃ p, addL M L f = p ++ [⟨f.n, f.v, false⟩] := by
  unfold addL at h ⊢
  split
  · exact ⟨_, rfl⟩
  · rename_i hn
    rw [if_neg hn, shr_below (by omega)] at h
    exact absurd rfl h

set_option maxHeartbeats 1000000 in
set_option maxRecDepth 100000 in
theorem dynFits_walk (most : Int) (A : Option Addr) (n c : Nat) (os : List Op7) (w : World) (h : Os7 w A n os) (hn : n ≤ 140737488355328) : Calls Try.prog 4 #[.int .i64 most, .slice A n c] w fun e w' => e = .returned (.bool true) ∧ Below w.heap.size w w' := by
  obtain ⟨i0, hi0, hz0, hz1, hz2⟩ := fd_parts
  have hi := hid hi0
  have hz := hid hz0
  have hsz0 := hid hz1
  have hby := hid hz2
  have H := hid h
  have hlen := h.len
  clear hi0 hz0 hz1 hz2 h
  go_enter Try.func4, Try.ntmps4
  go_wp2_with fail
  refine (first_any w).mono ?_
  rintro e w1 ⟨rfl, hb1⟩
  have HB1 := hid hb1
  clear hb1
  go_wp2_with fail
  refine (few7_any A n c os w1 (H.out.below (HB1.out)) hn).mono ?_
  rintro e w3 ⟨rfl, hb3⟩
  have HB3 := hid (HB1.out.trans (hb3.mono HB1.out.size))
  clear hb3 HB1
  rcases hfew : few7 os with _ | _
  · go_wp2_with fail
    refine (first_any w3).mono ?_
    rintro e w4 ⟨rfl, hb4⟩
    have HB4 := hid (HB3.out.trans (hb4.mono HB3.out.size))
    clear hb4
    go_wp2_with fail
    go_ret
    exact ⟨rfl, HB4.out⟩
  have HF := hid hfew
  have hl := fewF_len hfew
  have hn2 : n ≤ 200 := by simpa [hlen] using hl
  have HSZ := hid (show ∀ x ∈ os, x.f.size ≤ 40032 from fun x hx => by
    have := fewF_each hfew (List.mem_map_of_mem hx)
    unfold Fd.size
    omega)
  clear hfew hl
  go_wp2_with fail
  refine (new_tb most w3).mono ?_
  intro e w4 hp
  unfold NewTb at hp
  by_cases hbad : most < 0 ∨ 4096 < most
  · rw [if_pos hbad] at hp
    obtain ⟨rfl, hb4⟩ := hp
    have HB4 := hid (HB3.out.trans (hb4.mono HB3.out.size))
    clear hb4 hbad
    go_wp2_with fail
    refine (first_any w4).mono ?_
    rintro e w5 ⟨rfl, hb5⟩
    have HB5 := hid (HB4.out.trans (hb5.mono HB4.out.size))
    clear hb5
    go_wp2_with fail
    go_ret
    exact ⟨rfl, HB5.out⟩
  rw [if_neg hbad] at hp
  obtain ⟨F, rfl, h1, hb1⟩ := hp
  have HI : Hid (FitI w w4 w3.heap.size F most [] none 0 0) :=
    ⟨h1, by omega, by omega, by simp [total]; omega, (fun f hf => by cases hf), ⟨[], World.ownsRow_nil _ _ _ _⟩, (fun k hk => by simp [Value.ownBlock] at hk), HB3.out.size, HB3.out.trans (hb1.mono HB3.out.size)⟩
  clear h1 hb1 HB3
  generalize w3.heap.size = g at HI ⊢
  clear w3 hbad
  go_wp2_with fail
  go_loopw [7, 8] (fun v i wr => ∃ (k : Nat) (F : List Nat) (M : Int) (L : List Fd) (A' : Option Addr) (m c' : Nat), k ≤ n ∧ i = .int .i64 k ∧ v = .slice A' m c' ∧ FitI w wr g F M L A' m c' ∧ L.length ≤ m ∧ m ≤ k) (fun _ i _ => n - (intOf i).toNat)
  case atStart => exact ⟨0, F, most, [], none, 0, 0, Nat.zero_le _, rfl, rfl, HI.out, Nat.le_refl _, Nat.le_refl _⟩
  case round =>
    obtain ⟨k, F, M, L, A', m, c', hk, rfl, rfl, hI, hL, hmk⟩ := hrel
    have HI := hid hI
    have hgr := hI.lt
    have hm0 := hI.m0
    have hm1 := hI.m1
    have hft := hI.fit
    have hB := hI.out
    by_cases hgo : k < n
    · obtain ⟨b, o, x, rfl, hx, p0, p1, p2, p3, p4⟩ := H.out.nth hgo
      have HX := hid hx
      have hxs := HSZ.out x (List.mem_of_getElem? hx)
      have HP := hid (And.intro p0 (And.intro p1 (And.intro p2 (And.intro p3 p4))))
      have c0 := below_keep hB _ _ p0
      have c1 := below_keep hB _ _ p1
      have c2 := below_keep hB _ _ p2
      have c3 := below_keep hB _ _ p3
      have c4 := below_keep hB _ _ p4
      clear p0 p1 p2 p3 p4 hx hI hB
      rcases (show x.k = 0 ∨ x.k = 1 ∨ (x.k ≠ 0 ∧ x.k ≠ 1) by omega) with hk0 | hk0 | ⟨hk0, hk1⟩
      focus
        go_wp2_with fail
        refine (add_tb x.f HI.out.tb (by omega) (by omega) (by omega) (by omega) (by omega) (by omega)).mono ?_
        rintro e w5 ⟨F5, rfl, h5, ht5, hk5⟩
        have H5 := hid (HI.out.tabled h5 ht5 hk5 hm0 hm1 (addL_total hm0 L x.f) (addL_nev HI.out.nev))
        have hl5 := addL_len M L x.f
        have c2 := below_keep H5.out.out _ _ HP.out.2.2.1
        have c3 := below_keep H5.out.out _ _ HP.out.2.2.2.1
        have c4 := below_keep H5.out.out _ _ HP.out.2.2.2.2
        clear h5 ht5 hk5
        obtain ⟨xs, hxo⟩ := (H5.out.below ((Below.refl _ _).alloc (Nat.le_refl _) (.cells #[.string x.f.n, .string x.f.v, .bool x.f.x] 30))).own
        have HXO := hid hxo
        clear hxo
        go_wp2_with (at_builtin; go_loud (refine wpList_app _ rfl _ _ _ rfl w.heap.size 30 i0 _ 3 40 Try.underlying38 hi.out hz.out hsz0.out hby.out rfl (by omega) _ m _ rfl HXO.out _ 1 1 _ rfl (rd_new rfl ?_) ?_ (by omega) (by omega) ?_ ?_; (focus rfl); (focus (simp [Value.oneCell'])); (focus (have := H5.out.out.size; rw [World.size_alloc]; omega)); intro A6 c6 w6 ho6 hg6 hat6; have H6 := hid ((H5.out.below ((Below.refl _ _).alloc (Nat.le_refl _) _)).app ho6 hg6 hat6); clear ho6 hg6 hat6))
        have HN : Hid (x.k = 0 → addL M L x.f ≠ [] → ∃ p, addL M L x.f = p ++ [⟨x.f.n, x.f.v, false⟩]) := fun _ h => addL_last h
        have hlq : (addL M L x.f).length ≤ m + 1 := by omega
        have hmq : m + 1 ≤ k + 1 := by omega
        clear HXO H5 HI hgr hm0 hm1 hft hl5 hL hmk c0 c1 c2 c3 c4
        generalize addL M L x.f = Lq at H6 HN hlq
        generalize m + 1 = mq at H6 hlq hmq ⊢
        generalize hMq : M = Mq at H6
        clear hMq
        generalize F5 = Fq at H6
        generalize A6 = Aq at H6 ⊢
        generalize c6 = cq at H6 ⊢
        generalize w6 = wq at H6 ⊢
      rotate_left
      focus
        go_wp2_with fail
        refine (limit_tb x.n HI.out.tb (by omega) (by omega) (by omega)).mono ?_
        intro e w6 hp
        unfold LimTb at hp
        have HE : ∃ (r : Int) (Fq : List Nat) (Mq : Int) (Lq : List Fd), e = .returned (.int .i64 r) ∧ FitI w w6 g Fq Mq Lq A' m c' ∧ Lq.length ≤ m := by
          by_cases hbad : x.n < 0 ∨ 4096 < x.n
          · rw [if_pos hbad] at hp
            obtain ⟨F6, rfl, h6, ht6, hk6⟩ := hp
            exact ⟨1, F6, M, L, rfl, HI.out.tabled h6 ht6 hk6 hm0 hm1 hft HI.out.nev, hL⟩
          · rw [if_neg hbad] at hp
            obtain ⟨F6, rfl, h6, ht6, hk6⟩ := hp
            exact ⟨0, F6, x.n, _, rfl, HI.out.tabled h6 ht6 hk6 (by omega) (by omega) (shr_total (by omega) L) (fun f hf => HI.out.nev f (shr_mem L hf)), Nat.le_trans (shr_le x.n L).2 hL⟩
        obtain ⟨r, Fq, Mq, Lq, rfl, h6, hlq⟩ := HE
        have H6 := hid h6
        have HN : Hid (x.k = 0 → Lq ≠ [] → ∃ p, Lq = p ++ [⟨x.f.n, x.f.v, false⟩]) := fun h => absurd h (by omega)
        have hmq : m ≤ k + 1 := by omega
        clear HI hgr hm0 hm1 hft hL hmk c0 c1 c2 c3 c4 hp h6
        go_wp2_with fail
        generalize m = mq at H6 hlq hmq ⊢
        generalize A' = Aq at H6 ⊢
        generalize c' = cq at H6 ⊢
        generalize w6 = wq at H6 ⊢
      rotate_left
      focus
        go_wp2_with fail
        have H6 := HI
        have HN : Hid (x.k = 0 → L ≠ [] → ∃ p, L = p ++ [⟨x.f.n, x.f.v, false⟩]) := fun h => absurd h hk0
        have hlq : L.length ≤ m := hL
        have hmq : m ≤ k + 1 := by omega
        clear HI hgr hm0 hm1 hft hL hmk c0 c1 c2 c3 c4
        generalize L = Lq at H6 HN hlq ⊢
        generalize M = Mq at H6 ⊢
        generalize F = Fq at H6 ⊢
        generalize m = mq at H6 hlq hmq ⊢
        generalize A' = Aq at H6 ⊢
        generalize c' = cq at H6 ⊢
        generalize wr = wq at H6 ⊢
      rotate_left
      all_goals
        refine (len_tb H6.out.tb).mono ?_
        rintro e w7 ⟨rfl, rfl⟩
        have hq0 := H6.out.m0
        have hq1 := H6.out.m1
        have hqf := H6.out.fit
        have hli : (Lq.length : Int) ≤ mq := by omega
        have hd1 : decide (mq < Lq.length) = false := by simp; omega
        have hd2 : decide (Mq < 0) = false := by simp; omega
        have hd3 : decide (4096 < Mq) = false := by simp; omega
        go_wp2_with fail
        refine (most_tb H6.out.tb).mono ?_
        rintro e w7 ⟨rfl, rfl⟩
        go_wp2_with fail
        refine (most_tb H6.out.tb).mono ?_
        rintro e w7 ⟨rfl, rfl⟩
        go_wp2_with fail
        go_loopw [9, 11] (fun s i wr => ∃ (j : Nat), 1 ≤ j ∧ j ≤ Lq.length + 1 ∧ i = .int .i64 j ∧ s = .int .i64 (total (Lq.drop (Lq.length + 1 - j)) : Nat) ∧ FitI w wr g Fq Mq Lq Aq mq cq) (fun _ i _ => Lq.length + 1 - (intOf i).toNat)
        case atStart => exact ⟨1, Nat.le_refl _, by omega, rfl, by simp [total], H6.out⟩
        case round =>
          obtain ⟨j, hj0, hj1, rfl, rfl, hI⟩ := hrel
          have HI := hid hI
          clear hI
          by_cases hgo : j ≤ Lq.length
          · have hji : (j : Int) ≤ (Lq.length : Nat) := by omega
            go_wp2_with fail
            refine (get_tb j HI.out.tb (by omega)).mono ?_
            rintro e w8 ⟨rfl, hb8⟩
            obtain ⟨y, hy⟩ : ∃ y, Lq[Lq.length - j]? = some y := ⟨_, List.getElem?_eq_getElem (by omega)⟩
            have hget : getF Lq (j : Int) = (y, true) := by
              unfold getF
              rw [if_pos (by omega), show ((j : Int)).toNat = j by omega, hy]
              rfl
            rw [hget]
            have hyx := HI.out.nev y (List.mem_of_getElem? hy)
            have hys := size_le_total (List.mem_of_getElem? hy)
            have hst := total_step hy
            have htd := total_drop Lq (Lq.length - j)
            rw [show Lq.length - j + 1 = Lq.length + 1 - j by omega] at hst
            have HST := hid hst
            have hyn : (y.n.size : Int) ≤ 4096 := by unfold Fd.size at hys; omega
            have hyv : (y.v.size : Int) ≤ 4096 := by unfold Fd.size at hys; omega
            have htj : (total (Lq.drop (Lq.length + 1 - j)) : Int) ≤ 4096 := by omega
            have H8 := hid (HI.out.below hb8)
            clear hget hy hb8 hst htd hys
            go_wp2_with fail
            go_roundw
            case rel => exact ⟨j + 1, by omega, by omega, by go_num, by rw [show Lq.length + 1 - (j + 1) = Lq.length - j by omega, HST.out]; unfold Fd.size; go_num, H8.out.below ((Below.refl _ _).alloc (Nat.le_refl _) _)⟩
            case measure => simp [intOf]; omega
          · have hje : j = Lq.length + 1 := by omega
            subst hje
            rw [show Lq.length + 1 - (Lq.length + 1) = 0 by omega, List.drop_zero]
            go_wp2_with fail
            refine (size_tb HI.out.tb).mono ?_
            rintro e w8 ⟨rfl, rfl⟩
            go_wp2_with fail
            refine (most_tb HI.out.tb).mono ?_
            rintro e w8 ⟨rfl, rfl⟩
            have c0 := below_keep HI.out.out _ _ HP.out.1
            have hlq2 := HN.out
            by_cases hnw : x.k = 0 ∧ Lq ≠ []
            · all_goals (try (exfalso; have := hnw.1; omega))
              all_goals
                obtain ⟨p, hp⟩ := hlq2 hnw.1 hnw.2
                have hpos : 0 < Lq.length := List.length_pos_iff.2 hnw.2
                have hk0 := hnw.1
                have HPP := hid hp
                clear hnw hlq2 hp
                go_wp2_with fail
                refine (get_tb 1 HI.out.tb (by omega)).mono ?_
                rintro e w8 ⟨rfl, hb8⟩
                have hget : getF Lq 1 = (⟨x.f.n, x.f.v, false⟩, true) := by
                  unfold getF
                  rw [if_pos (by omega), HPP.out]
                  simp
                rw [hget]
                have H8 := hid (HI.out.below hb8)
                clear hget hb8 HPP
                go_upto_region 33 with fail
                obtain ⟨wb, hwb⟩ : ∃ wb, w8.alloc (.cells #[.string x.f.n, .string x.f.v, .bool false] 30) = wb := ⟨_, rfl⟩
                have hFb : Blk wb w8.heap.size 30 #[.string x.f.n, .string x.f.v, .bool false] := by rw [← hwb]; exact Blk.new w8 _ _
                have hbb : Below w8.heap.size w8 wb := by rw [← hwb]; exact (Below.refl _ _).alloc (Nat.le_refl _) _
                rw [hwb]
                have H9 := hid (H8.out.below hbb)
                have b0 := hFb.cell 0
                have b1 := hFb.cell 1
                have d0 := below_keep H9.out.out _ _ HP.out.2.2.1
                have d1 := below_keep H9.out.out _ _ HP.out.2.2.2.1
                simp at b0 b1
                clear hFb hbb hwb H8
                generalize w8.heap.size = p at b0 b1 ⊢
                go_wp2_with fail
                (refine wp_mix ?_ ?_ ?_; (focus kernel_rfl); (focus kernel_rfl); intro KK hKK; go_wp2_with (first
                      | (fail)
                      | (with_reducible refine mix_nil ?_)
                      | ((with_reducible refine mix_on ?_ ?_); (focus rfl); intro K hK; go_simp)
                      | ((with_reducible refine mix_off ?_ ?_); (focus rfl); intro K hK; go_simp)
                      | ((with_reducible refine mix_step ?_); intro K hK; go_simp)))
                all_goals
                  go_roundw
                  case rel => exact ⟨k + 1, Fq, Mq, Lq, Aq, mq, cq, by omega, by go_num, rfl, H9.out.below (Below.refl _ _).drew, by omega, hmq⟩
                  case measure => simp [intOf]; omega
            · have hor : x.k ≠ 0 ∨ Lq.length = 0 := by
                by_cases h0 : x.k = 0
                · exact .inr (by
                    have : Lq = [] := Classical.byContradiction fun h => hnw ⟨h0, h⟩
                    rw [this]; rfl)
                · exact .inl h0
              clear hnw hlq2
              rcases hor with hor | hor
              all_goals
                go_wp2_with fail
                all_goals
                  go_roundw
                  case rel => exact ⟨k + 1, Fq, Mq, Lq, Aq, mq, cq, by omega, by go_num, rfl, HI.out, by omega, hmq⟩
                  case measure => simp [intOf]; omega
    · have hkn : k = n := by omega
      subst hkn
      clear hgo
      go_wp2_with fail
      refine (first_any wr).mono ?_
      rintro e w5 ⟨rfl, hb5⟩
      have HB5 := hid (HI.out.out.trans (hb5.mono HI.out.out.size))
      clear hb5
      go_wp2_with fail
      go_ret
      exact ⟨rfl, HB5.out⟩
end Go.Proofs.Ytlnhnnejmofpcaa
