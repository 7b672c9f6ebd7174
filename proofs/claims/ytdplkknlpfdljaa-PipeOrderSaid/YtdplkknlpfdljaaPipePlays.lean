/- The law PipePlays walked. -/
import Derived.Test.YtdplkknlpfdljaaPipeOps
namespace Go.Proofs.Ytdplkknlpfdljaa
open Go.RowKit
attribute [local go_sem] kd kdS if_min if_max if_minN if_maxN
attribute [local go_sem ↓] sliced_word
attribute [local go_sem] offA_zero

theorem Pcs.below {w w' : World} {A : Option Addr} {n : Nat} {fs : List Pc} (h : Pcs w A n fs) (hb : Below w.heap.size w w') : Pcs w' A n fs :=
  ⟨h.len, fun hn => by
    obtain ⟨b, o, e, hc⟩ := h.at_ hn
    exact ⟨b, o, e, fun i x hx => ⟨below_keep hb _ _ (hc i x hx).1, below_keep hb _ _ (hc i x hx).2.1, below_keep hb _ _ (hc i x hx).2.2⟩⟩, fun x hx => ⟨(h.body x hx).1.below hb, (h.body x hx).2⟩⟩

theorem P2.start {W w : World} {g h : Nat} {r : Int} {B1 B2 : Nat} (hb : Below W.heap.size W w) (hp : PipeAt 44 w B1 g r none 0 0 [] 0 0) (hq : PipeAt 39 w B2 h r none 0 0 [] 0 0) (h1 : W.heap.size ≤ B1) (h2 : W.heap.size ≤ B2) (hgh : g ≠ h) : P2 W w g h r 0 [] 0 0 0 [] 0 0 :=
  ⟨⟨none, 0, none, 0, hb, hp.rebase h1, hq.rebase h2, hgh, fun b hb => by simp [Value.ownBlock] at hb⟩⟩

set_option maxHeartbeats 4000000 in
set_option maxRecDepth 100000 in
theorem plays_walk (room : Int) (A : Option Addr) (n c : Nat) (fs : List Pc) (w : World) (hs : Pcs w A n fs) (hn : n ≤ 140737488355328) (hr : room ≤ 9223372036854775807) :
    Calls Try.prog 4 #[.int .i64 room, .slice A n c] w fun e w' => e = .returned (.bool true) ∧ Below w.heap.size w w' := by
  have HS := hid hs
  clear hs
  go_enter Try.func4, Try.ntmps4
  go_wp2_with fail
  refine (first_any w).mono ?_
  rintro e w1 ⟨rfl, hb1⟩
  have HB1 := hid hb1
  clear hb1
  go_wp2_with fail
  refine (new_any room w1).mono ?_
  rintro e w2 ⟨rfl, hp2, hb2⟩
  have hwg : w.heap.size ≤ w1.heap.size := HB1.out.size
  generalize hrr : max room 0 = r at hp2
  have hr0 : r ≤ 9223372036854775807 := by omega
  generalize hg : w1.heap.size = g at hp2 hwg ⊢
  have HP2 := hid hp2
  have HB2 := hid (HB1.out.trans (hb2.mono HB1.out.size))
  clear hp2 hb2 hg
  go_wp2_with fail
  refine (rnew_any room w2).mono ?_
  rw [hrr]
  clear hrr
  rintro e w3 ⟨rfl, hq3, hb3⟩
  have hgh : g < w2.heap.size := HP2.out.blk.lt
  have hwh : w.heap.size ≤ w2.heap.size := HB2.out.size
  generalize hh : w2.heap.size = h at hq3 hgh hwh ⊢
  have HI3 := hid (P2.start (HB2.out.trans (hb3.mono HB2.out.size)) (HP2.out.below hb3) hq3 hwg hwh (Nat.ne_of_lt hgh))
  clear hq3 hb3 hh HP2 HB2 HB1
  go_wp2_with fail
  refine (few_any A n c fs w3 (HS.out.below HI3.out.b) hn).mono ?_
  rintro e w4 ⟨rfl, rfl⟩
  rcases hf : fewB fs with _ | _
  · go_wp2_with (go_at_call 7; (with_reducible refine (first_any _).mono ?_); rintro e w4 ⟨rfl, hb4⟩; have HB4 := hid hb4; clear hb4)
    go_ret
    exact ⟨rfl, HI3.out.b.trans (HB4.out.mono HI3.out.b.size)⟩
  · have hle := fewB_le hf
    have hlen := HS.out.len
    clear hf
    go_wp2_with fail
    go_loopw [7] (fun i wr => ∃ k m : Nat, ∃ ll ic oc, k ≤ n ∧ i = .int .i64 k ∧ P2 w wr g h r m ll ic oc m ll ic oc ∧ 0 ≤ oc ∧ (m : Int) + oc = ic ∧ ic ≤ fewSum fs k) (fun i _ => n - (intOf i).toNat)
    case atStart => exact ⟨0, 0, [], 0, 0, Nat.zero_le _, rfl, HI3.out, by omega, by omega, by omega⟩
    case round =>
      obtain ⟨k, m, ll, ic, oc, hk, rfl, hinv, hoc, hmo, hic⟩ := hrel
      have HI := hid hinv
      clear hinv HI3
      by_cases hkn : k < n
      · obtain ⟨b, o, rfl, hc⟩ := (HS.out.below HI.out.b).at_ (by omega)
        obtain ⟨x, hx⟩ : ∃ x, fs[k]? = some x := ⟨fs[k]'(by omega), List.getElem?_eq_getElem _⟩
        obtain ⟨h0, h1, h3⟩ := hc k x hx
        have hsum := fewSum_succ hx
        have hsum2 := fewSum_mono fs (k := k + 1) (by omega)
        obtain ⟨hbx, hbc⟩ := HS.out.body x (List.mem_of_getElem? hx)
        have HBX := hid hbx
        clear hc hx hbx
        by_cases hk0 : x.k = 0
        · have hnx : x.n ≤ 20000 := by omega
          rw [hk0] at h0
          go_wp2_with fail
          generalize hH : wr.heap.size = H
          have hHg : g < H ∧ h < H := by rw [← hH]; exact HI.out.lt
          obtain ⟨wa, hwa⟩ : ∃ wa, wr.alloc (.cells #[.int .i64 0, .int .i64 x.f, .slice x.A x.n x.c] 37) = wa := ⟨_, rfl⟩
          have hba : Below wr.heap.size wr wa := by rw [← hwa]; exact (Below.refl _ _).alloc (Nat.le_refl _) _
          have HA := hid (HI.out.below hba)
          have HBA := hid (show Blk wa H 37 #[.int .i64 0, .int .i64 x.f, .slice x.A x.n x.c] by rw [← hwa, ← hH]; exact Blk.new wr _ _)
          rw [hwa]
          have hbl := HI.out.b.trans (hba.mono HI.out.b.size)
          have HBL := hid hbl
          clear hba hbl hwa h0 h1 h3 hk0
          have hlo : ∀ w', w'.cell? ⟨H, 2, none⟩ = some (.slice x.A x.n x.c) → (Instr.loadAt 22 (.pointer (some ⟨H, 2, none⟩))).run Try.prog w' = .ok (.slice x.A x.n x.c) w' := fun w' h => by go_simp
          have HLO := hid hlo
          clear hlo
          have hS0 := HBA.out.cell 2
          have HD := hid (HA.out.below (Below.refl wa.heap.size wa).drew)
          have HBD := hid (show Blk wa.drew H _ _ from HBA.out)
          have HX := hid ((HBX.out.below HBL.out).below (Below.refl wa.heap.size wa).drew)
          (refine wp_mixC (fun w' => w'.cell? ⟨H, 2, none⟩ = some (.slice x.A x.n x.c)) ?_ ?_ (hS0) ?_; (focus kernel_rfl); (focus kernel_rfl); intro KK hKK; go_wp2_with (first
                                                                                    | (first
            | ((with_reducible refine mixS_load HLO.out ?_ ?_ ?_); (focus rfl); (focus rfl))
            | (go_at_call 9; go_loud (refine (P2.putA HD.out HX.out hbc (by omega) (by omega) (by omega) hr0).mono ?_; rintro e w5 ⟨rfl, hi5, hk5⟩; have H5 := hid hi5; have HB5 := hid (hk5 H _ _ (by decide) (by omega) HBD.out); clear hi5 hk5; have HX5 := hid (HBX.out.below H5.out.b)))
            | (go_at_call 17; go_loud (refine (P2.putB H5.out HX5.out hbc (by omega) (by omega) (by omega) hr0).mono ?_; rintro e w6 ⟨rfl, hi6, hk6⟩; have H6 := hid hi6; have HB6 := hid (hk6 H _ _ (by decide) (by omega) HB5.out); clear hi6 hk6))
            | ((with_reducible refine And.intro ?_ ?_); (focus (first | exact HB5.out.cell 2 | exact HB6.out.cell 2))))
                                                                                    | (with_reducible refine mix_nil ?_)
                                                                                    | ((with_reducible refine mixS_on ?_ ?_); (focus rfl); intro K K' hK hK'; go_simp)
                                                                                    | ((with_reducible refine mixS_off ?_ ?_); (focus rfl); intro K hK; go_simp)
                                                                                    | ((with_reducible refine mixS_step ?_); intro K K' hK hK'; go_simp)))
          clear HLO hS0 HD HBD HX HA HBA HBL H5 HB5 HX5
          have hpl := putN_le x.n r m
          generalize hm1 : m + putN x.n r m = m1 at H6
          generalize hi1 : ic + (putN x.n r m : Int) = i1 at H6
          obtain ⟨o1, ho1⟩ : ∃ o1, oc = o1 := ⟨_, rfl⟩
          rw [ho1] at H6
          clear HB6
          obtain ⟨QA, qc, q1, q2, q3⟩ := H6.out.cellsB
          go_wp2_with fail
          have hl1 : ∀ w', Below w6.heap.size w6 w' → (Instr.loadAt 22 (.pointer (some ⟨h, 1, none⟩))).run Try.prog w' = .ok (.slice QA m1 qc) w' := fun w' hb => by
            have q := below_keep hb _ _ q1
            clear q1 q2 q3
            go_simp
          have hl2 : ∀ w', Below w6.heap.size w6 w' → (Instr.loadAt 3 (.pointer (some ⟨h, 2, none⟩))).run Try.prog w' = .ok (.int .i64 i1) w' := fun w' hb => by
            have q := below_keep hb _ _ q2
            clear q1 q2 q3
            go_simp
          have hl3 : ∀ w', Below w6.heap.size w6 w' → (Instr.loadAt 3 (.pointer (some ⟨h, 3, none⟩))).run Try.prog w' = .ok (.int .i64 o1) w' := fun w' hb => by
            have q := below_keep hb _ _ q3
            clear q1 q2 q3
            go_simp
          have HL1 := hid hl1
          have HL2 := hid hl2
          have HL3 := hid hl3
          clear hl1 hl2 hl3 q1 q2 q3
          have HB0 := hid ((Below.refl w6.heap.size w6).drew)
          (refine wp_mixC (Below w6.heap.size w6) ?_ ?_ ((Below.refl _ _).drew) ?_; (focus kernel_rfl); (focus kernel_rfl); intro KK hKK; go_wp2_with (first
                                                                | (first
            | ((with_reducible refine mixS_load HL1.out ?_ ?_ ?_); (focus rfl); (focus rfl))
            | ((with_reducible refine mixS_load HL2.out ?_ ?_ ?_); (focus rfl); (focus rfl))
            | ((with_reducible refine mixS_load HL3.out ?_ ?_ ?_); (focus rfl); (focus rfl))
            | (go_at_call 12; go_loud (refine (P2.lenA (H6.out.below HB0.out)).mono ?_; rintro e w7 ⟨rfl, rfl⟩))
            | (go_at_call 14; go_loud (refine (P2.inA (H6.out.below HB0.out)).mono ?_; rintro e w7 ⟨rfl, rfl⟩))
            | (go_at_call 22; go_loud (refine (P2.outA (H6.out.below HB0.out)).mono ?_; rintro e w7 ⟨rfl, rfl⟩))
            | (go_at_call 13; go_loud (refine (P2.freeA (H6.out.below HB0.out) hr0).mono ?_; rintro e w7 ⟨rfl, hb7⟩; have HB0 := hid (HB0.out.trans (hb7.mono HB0.out.size)); clear hb7))
            | (go_at_call 21; go_loud (refine (P2.freeB (H6.out.below HB0.out) hr0).mono ?_; rintro e w7 ⟨rfl, hb7⟩; have HB0 := hid (HB0.out.trans (hb7.mono HB0.out.size)); clear hb7))
            | ((with_reducible refine And.intro ?_ ?_); (focus (exact HB0.out))))
                                                                | (with_reducible refine mix_nil ?_)
                                                                | ((with_reducible refine mixS_on ?_ ?_); (focus rfl); intro K K' hK hK'; go_simp)
                                                                | ((with_reducible refine mixS_off ?_ ?_); (focus rfl); intro K hK; go_simp)
                                                                | ((with_reducible refine mixS_step ?_); intro K K' hK hK'; go_simp)))
          go_roundw
          case rel => exact ⟨k + 1, m1, _, i1, o1, by omega, by go_num, H6.out.below HB0.out, by omega, by omega, by omega⟩
          case measure => simp [intOf]; omega
        · by_cases hk1 : x.k = 1
          · rw [hk1] at h0
            go_wp2_with fail
            generalize hH : wr.heap.size = H
            have hHg : g < H ∧ h < H := by rw [← hH]; exact HI.out.lt
            obtain ⟨wa, hwa⟩ : ∃ wa, wr.alloc (.cells #[.int .i64 1, .int .i64 x.f, .slice x.A x.n x.c] 37) = wa := ⟨_, rfl⟩
            have hba : Below wr.heap.size wr wa := by rw [← hwa]; exact (Below.refl _ _).alloc (Nat.le_refl _) _
            have HA := hid (HI.out.below hba)
            have HBA := hid (show Blk wa H 37 #[.int .i64 1, .int .i64 x.f, .slice x.A x.n x.c] by rw [← hwa, ← hH]; exact Blk.new wr _ _)
            rw [hwa]
            have hbl := HI.out.b.trans (hba.mono HI.out.b.size)
            have HBL := hid hbl
            clear hba hbl hwa h0 h1 h3 hk0 hk1
            have hlo : ∀ w', w'.cell? ⟨H, 1, none⟩ = some (.int .i64 x.f) → (Instr.loadAt 3 (.pointer (some ⟨H, 1, none⟩))).run Try.prog w' = .ok (.int .i64 x.f) w' := fun w' h => by go_simp
            have HLO := hid hlo
            clear hlo
            have hS0 := HBA.out.cell 1
            have HD := hid (HA.out.below (Below.refl wa.heap.size wa).drew)
            have HBD := hid (show Blk wa.drew H _ _ from HBA.out)
            have hq := lookN_le x.f m
            (refine wp_mixC (fun w' => w'.cell? ⟨H, 1, none⟩ = some (.int .i64 x.f)) ?_ ?_ (hS0) ?_; (focus kernel_rfl); (focus kernel_rfl); intro KK hKK; go_wp2_with (first
                                                                                 | (first
              | ((with_reducible refine mixS_load HLO.out ?_ ?_ ?_); (focus rfl); (focus rfl))
              | (go_at_call 10; go_loud (refine (P2.takeA HD.out (by omega) (by omega) (by omega) x.f).mono ?_; rintro e w5 ⟨A5, c5, rfl, hx5, hof5, hi5, ht5⟩; have H5 := hid hi5; have HX5 := hid hx5; have HOF5 := hid hof5; have HB5 := hid (HBD.out.turned ht5 (by simp; omega)); clear hi5 hx5 hof5 ht5))
              | (go_at_call 18; go_loud (refine (P2.takeB H5.out (by omega) (by omega) (by omega) x.f).mono ?_; rintro e w6 ⟨A6, c6, rfl, hx6, hof6, hi6, ht6⟩; have H6 := hid hi6; have HX6 := hid hx6; have HB6 := hid (HB5.out.turned ht6 (by simp; omega)); have HX56 := hid (HX5.out.turned ht6 (fun ad e hm => HOF5.out ad e (List.mem_cons_of_mem _ hm))); clear hi6 hx6 hof6 ht6))
              | (go_at_call 11; go_loud (refine (same_bytes _ _ _ _ _ _ _ _ _ HX56.out HX6.out).mono ?_; rintro e w7 ⟨rfl, rfl⟩))
              | ((with_reducible refine And.intro ?_ ?_); (focus (first | exact HB5.out.cell 1 | exact HB6.out.cell 1))))
                                                                                 | (with_reducible refine mix_nil ?_)
                                                                                 | ((with_reducible refine mixS_on ?_ ?_); (focus rfl); intro K K' hK hK'; go_simp)
                                                                                 | ((with_reducible refine mixS_off ?_ ?_); (focus rfl); intro K hK; go_simp)
                                                                                 | ((with_reducible refine mixS_step ?_); intro K K' hK hK'; go_simp)))
            clear HLO hS0 HD HBD HA HBA HBL H5 HB5 HX5 HB6 HX6 HX56
            generalize hm1 : m - lookN x.f m = m1 at H6
            generalize ho1 : oc + (lookN x.f m : Int) = o1 at H6
            obtain ⟨i1, hi1⟩ : ∃ i1, ic = i1 := ⟨_, rfl⟩
            rw [hi1] at H6
            obtain ⟨QA, qc, q1, q2, q3⟩ := H6.out.cellsB
            go_wp2_with fail
            have hl1 : ∀ w', Below w6.heap.size w6 w' → (Instr.loadAt 22 (.pointer (some ⟨h, 1, none⟩))).run Try.prog w' = .ok (.slice QA m1 qc) w' := fun w' hb => by
              have q := below_keep hb _ _ q1
              clear q1 q2 q3
              go_simp
            have hl2 : ∀ w', Below w6.heap.size w6 w' → (Instr.loadAt 3 (.pointer (some ⟨h, 2, none⟩))).run Try.prog w' = .ok (.int .i64 i1) w' := fun w' hb => by
              have q := below_keep hb _ _ q2
              clear q1 q2 q3
              go_simp
            have hl3 : ∀ w', Below w6.heap.size w6 w' → (Instr.loadAt 3 (.pointer (some ⟨h, 3, none⟩))).run Try.prog w' = .ok (.int .i64 o1) w' := fun w' hb => by
              have q := below_keep hb _ _ q3
              clear q1 q2 q3
              go_simp
            have HL1 := hid hl1
            have HL2 := hid hl2
            have HL3 := hid hl3
            clear hl1 hl2 hl3 q1 q2 q3
            have HB0 := hid ((Below.refl w6.heap.size w6).drew)
            (refine wp_mixC (Below w6.heap.size w6) ?_ ?_ ((Below.refl _ _).drew) ?_; (focus kernel_rfl); (focus kernel_rfl); intro KK hKK; go_wp2_with (first
                                                                  | (first
              | ((with_reducible refine mixS_load HL1.out ?_ ?_ ?_); (focus rfl); (focus rfl))
              | ((with_reducible refine mixS_load HL2.out ?_ ?_ ?_); (focus rfl); (focus rfl))
              | ((with_reducible refine mixS_load HL3.out ?_ ?_ ?_); (focus rfl); (focus rfl))
              | (go_at_call 12; go_loud (refine (P2.lenA (H6.out.below HB0.out)).mono ?_; rintro e w7 ⟨rfl, rfl⟩))
              | (go_at_call 14; go_loud (refine (P2.inA (H6.out.below HB0.out)).mono ?_; rintro e w7 ⟨rfl, rfl⟩))
              | (go_at_call 22; go_loud (refine (P2.outA (H6.out.below HB0.out)).mono ?_; rintro e w7 ⟨rfl, rfl⟩))
              | (go_at_call 13; go_loud (refine (P2.freeA (H6.out.below HB0.out) hr0).mono ?_; rintro e w7 ⟨rfl, hb7⟩; have HB0 := hid (HB0.out.trans (hb7.mono HB0.out.size)); clear hb7))
              | (go_at_call 21; go_loud (refine (P2.freeB (H6.out.below HB0.out) hr0).mono ?_; rintro e w7 ⟨rfl, hb7⟩; have HB0 := hid (HB0.out.trans (hb7.mono HB0.out.size)); clear hb7))
              | ((with_reducible refine And.intro ?_ ?_); (focus (exact HB0.out))))
                                                                  | (with_reducible refine mix_nil ?_)
                                                                  | ((with_reducible refine mixS_on ?_ ?_); (focus rfl); intro K K' hK hK'; go_simp)
                                                                  | ((with_reducible refine mixS_off ?_ ?_); (focus rfl); intro K hK; go_simp)
                                                                  | ((with_reducible refine mixS_step ?_); intro K K' hK hK'; go_simp)))
            go_roundw
            case rel => exact ⟨k + 1, m1, _, i1, o1, by omega, by go_num, H6.out.below HB0.out, by omega, by omega, by omega⟩
            case measure => simp [intOf]; omega
          · go_wp2_with fail
            generalize hH : wr.heap.size = H
            have hHg : g < H ∧ h < H := by rw [← hH]; exact HI.out.lt
            obtain ⟨wa, hwa⟩ : ∃ wa, wr.alloc (.cells #[.int .i64 x.k, .int .i64 x.f, .slice x.A x.n x.c] 37) = wa := ⟨_, rfl⟩
            have hba : Below wr.heap.size wr wa := by rw [← hwa]; exact (Below.refl _ _).alloc (Nat.le_refl _) _
            have HA := hid (HI.out.below hba)
            have HBA := hid (show Blk wa H 37 #[.int .i64 x.k, .int .i64 x.f, .slice x.A x.n x.c] by rw [← hwa, ← hH]; exact Blk.new wr _ _)
            rw [hwa]
            have hbl := HI.out.b.trans (hba.mono HI.out.b.size)
            have HBL := hid hbl
            clear hba hbl hwa h0 h1 h3
            have hlo : ∀ w', w'.cell? ⟨H, 1, none⟩ = some (.int .i64 x.f) → (Instr.loadAt 3 (.pointer (some ⟨H, 1, none⟩))).run Try.prog w' = .ok (.int .i64 x.f) w' := fun w' h => by go_simp
            have HLO := hid hlo
            clear hlo
            have hS0 := HBA.out.cell 1
            have HD := hid (HA.out.below (Below.refl wa.heap.size wa).drew)
            have HBD := hid (show Blk wa.drew H _ _ from HBA.out)
            (refine wp_mixC (fun w' => w'.cell? ⟨H, 1, none⟩ = some (.int .i64 x.f)) ?_ ?_ (hS0) ?_; (focus kernel_rfl); (focus kernel_rfl); intro KK hKK; go_wp2_with (first
                                                                                 | (first
              | ((with_reducible refine mixS_load HLO.out ?_ ?_ ?_); (focus rfl); (focus rfl))
              | (go_at_call 19; go_loud (refine (P2.lookA HD.out (by omega) x.f).mono ?_; rintro e w5 ⟨A5, c5, rfl, hx5, hb5⟩; have H5 := hid (HD.out.below hb5); have HX5 := hid hx5; have HB5 := hid (HBD.out.below hb5 HBD.out.lt); clear hx5 hb5))
              | (go_at_call 20; go_loud (refine (P2.lookB H5.out (by omega) x.f).mono ?_; rintro e w6 ⟨A6, c6, rfl, hx6, hb6⟩; have H6 := hid (H5.out.below hb6); have HX6 := hid hx6; have HB6 := hid (HB5.out.below hb6 HB5.out.lt); have HX56 := hid (HX5.out.below hb6); clear hx6 hb6))
              | (go_at_call 11; go_loud (refine (same_bytes _ _ _ _ _ _ _ _ _ HX56.out HX6.out).mono ?_; rintro e w7 ⟨rfl, rfl⟩))
              | ((with_reducible refine And.intro ?_ ?_); (focus (first | exact HB5.out.cell 1 | exact HB6.out.cell 1))))
                                                                                 | (with_reducible refine mix_nil ?_)
                                                                                 | ((with_reducible refine mixS_on ?_ ?_); (focus rfl); intro K K' hK hK'; go_simp)
                                                                                 | ((with_reducible refine mixS_off ?_ ?_); (focus rfl); intro K hK; go_simp)
                                                                                 | ((with_reducible refine mixS_step ?_); intro K K' hK hK'; go_simp)))
            clear HLO hS0 HD HBD HA HBA HBL H5 HB5 HX5 HB6 HX6 HX56
            obtain ⟨m1, hm1⟩ : ∃ m1, m = m1 := ⟨_, rfl⟩
            obtain ⟨o1, ho1⟩ : ∃ o1, oc = o1 := ⟨_, rfl⟩
            obtain ⟨i1, hi1⟩ : ∃ i1, ic = i1 := ⟨_, rfl⟩
            rw [hi1, ho1, hm1] at H6
            obtain ⟨QA, qc, q1, q2, q3⟩ := H6.out.cellsB
            go_wp2_with fail
            have hl1 : ∀ w', Below w6.heap.size w6 w' → (Instr.loadAt 22 (.pointer (some ⟨h, 1, none⟩))).run Try.prog w' = .ok (.slice QA m1 qc) w' := fun w' hb => by
              have q := below_keep hb _ _ q1
              clear q1 q2 q3
              go_simp
            have hl2 : ∀ w', Below w6.heap.size w6 w' → (Instr.loadAt 3 (.pointer (some ⟨h, 2, none⟩))).run Try.prog w' = .ok (.int .i64 i1) w' := fun w' hb => by
              have q := below_keep hb _ _ q2
              clear q1 q2 q3
              go_simp
            have hl3 : ∀ w', Below w6.heap.size w6 w' → (Instr.loadAt 3 (.pointer (some ⟨h, 3, none⟩))).run Try.prog w' = .ok (.int .i64 o1) w' := fun w' hb => by
              have q := below_keep hb _ _ q3
              clear q1 q2 q3
              go_simp
            have HL1 := hid hl1
            have HL2 := hid hl2
            have HL3 := hid hl3
            clear hl1 hl2 hl3 q1 q2 q3
            have HB0 := hid ((Below.refl w6.heap.size w6).drew)
            (refine wp_mixC (Below w6.heap.size w6) ?_ ?_ ((Below.refl _ _).drew) ?_; (focus kernel_rfl); (focus kernel_rfl); intro KK hKK; go_wp2_with (first
                                                                  | (first
              | ((with_reducible refine mixS_load HL1.out ?_ ?_ ?_); (focus rfl); (focus rfl))
              | ((with_reducible refine mixS_load HL2.out ?_ ?_ ?_); (focus rfl); (focus rfl))
              | ((with_reducible refine mixS_load HL3.out ?_ ?_ ?_); (focus rfl); (focus rfl))
              | (go_at_call 12; go_loud (refine (P2.lenA (H6.out.below HB0.out)).mono ?_; rintro e w7 ⟨rfl, rfl⟩))
              | (go_at_call 14; go_loud (refine (P2.inA (H6.out.below HB0.out)).mono ?_; rintro e w7 ⟨rfl, rfl⟩))
              | (go_at_call 22; go_loud (refine (P2.outA (H6.out.below HB0.out)).mono ?_; rintro e w7 ⟨rfl, rfl⟩))
              | (go_at_call 13; go_loud (refine (P2.freeA (H6.out.below HB0.out) hr0).mono ?_; rintro e w7 ⟨rfl, hb7⟩; have HB0 := hid (HB0.out.trans (hb7.mono HB0.out.size)); clear hb7))
              | (go_at_call 21; go_loud (refine (P2.freeB (H6.out.below HB0.out) hr0).mono ?_; rintro e w7 ⟨rfl, hb7⟩; have HB0 := hid (HB0.out.trans (hb7.mono HB0.out.size)); clear hb7))
              | ((with_reducible refine And.intro ?_ ?_); (focus (exact HB0.out))))
                                                                  | (with_reducible refine mix_nil ?_)
                                                                  | ((with_reducible refine mixS_on ?_ ?_); (focus rfl); intro K K' hK hK'; go_simp)
                                                                  | ((with_reducible refine mixS_off ?_ ?_); (focus rfl); intro K hK; go_simp)
                                                                  | ((with_reducible refine mixS_step ?_); intro K K' hK hK'; go_simp)))
            go_roundw
            case rel => exact ⟨k + 1, m1, _, i1, o1, by omega, by go_num, H6.out.below HB0.out, by omega, by omega, by omega⟩
            case measure => simp [intOf]; omega
      · go_wp2_with (go_at_call 7; (with_reducible refine (first_any _).mono ?_); rintro e w4 ⟨rfl, hb4⟩; have HB4 := hid hb4; clear hb4)
        go_ret
        exact ⟨rfl, HI.out.b.trans (HB4.out.mono HI.out.b.size)⟩
end Go.Proofs.Ytdplkknlpfdljaa
