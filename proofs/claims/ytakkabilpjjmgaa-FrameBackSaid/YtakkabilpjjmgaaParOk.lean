/- The parser of frames: Next where a whole frame is there. -/
import Derived.Test.YtakkabilpjjmgaaParser
namespace Go.Proofs.Ytakkabilpjjmgaa
open Go.RowKit
attribute [local go_sem] kd kdS
attribute [local go_sem ↓] sliced_word
attribute [local go_sem] offA_zero

set_option maxHeartbeats 1000000 in
set_option maxRecDepth 100000 in
theorem parNext_ok (g : Nat) (room : Int) (A : Option Addr) (n c : Nat) (l : List UInt8) (w : World) (h : ParAt w g room A n c l) (hn : n ≤ 70368744177664) (hs : ¬ n < 9) (hlong : ¬ room < lenI l) (hsh : ¬ (n : Int) < 9 + lenI l) :
    Calls Try.prog 17 #[.pointer (some ⟨g, 0, none⟩)] w (NextPost g room A n c l w) := by
  have h0 := h.blk.cell 0
  have h1 := h.blk.cell 1
  have hf1 := h.blk.frozen 1
  simp at h0 h1
  have H := hid h
  have H1W := hid h1
  have hlen := h.bs.len
  have hcap := h.cap
  clear h
  obtain ⟨b, o, _, rfl, _, _⟩ := H.out.bs.at_ (i := 0) (by omega)
  have c0w := nb_cell H.out.bs (i := 0) (by omega)
  rw [Nat.add_zero] at c0w
  have c1w := nb_cell H.out.bs (i := 1) (by omega)
  have c2w := nb_cell H.out.bs (i := 2) (by omega)
  have b0 := nb_le l 0
  have b1 := nb_le l 1
  have b2 := nb_le l 2
  have hl3 := be3b l
  have hi1 : (1 : Int) < n := by omega
  have hi2 : (2 : Int) < n := by omega
  have hi0 : (0 : Int) < n := by omega
  have HE : Hid (nextE room l = 0) := hid (by unfold nextE; rw [if_neg (by omega), if_neg hlong, if_neg (by omega)])
  obtain ⟨m, hm⟩ : ∃ m : Nat, lenI l = m := ⟨(lenI l).toNat, by have := lenI_le l; omega⟩
  have HM := hid hm
  have hmn : 9 + m ≤ n := by omega
  go_enter Try.func17, Try.ntmps17
  go_wp2_with fail
  obtain ⟨wa, hwa⟩ : ∃ wa, w.alloc (.cells #[.int .i64 0, .int .i64 0, .int .i64 0, .slice none 0 0] 30) = wa := ⟨_, rfl⟩
  have hRa : Blk wa w.heap.size 30 #[.int .i64 0, .int .i64 0, .int .i64 0, .slice none 0 0] := by rw [← hwa]; exact Blk.new w _ _
  have hba : Below w.heap.size w wa := by rw [← hwa]; exact (Below.refl _ _).alloc (Nat.le_refl _) _
  have HR := hid hRa
  have HB := hid hba
  have h0 := below_keep hba _ _ h0
  have h1 := below_keep hba _ _ h1
  have hgl := H.out.blk.lt
  have hRl := hRa.lt
  have e1 : wa.heap.size ≠ g := by have := hba.size; omega
  rw [hwa]
  clear hRa hba hwa
  refine wp_scope_jumps 0 (fun _ _ => False) (fun _ _ => 0) rfl ?_ (fun _ _ h => h.elim)
  go_upto_region 3 with fail
  obtain ⟨wb, hwb⟩ : ∃ wb, wa.alloc (.cells #[.int .i64 0, .int .i64 0, .int .i64 0, .slice none 0 0] 30) = wb := ⟨_, rfl⟩
  have hFb : Blk wb wa.heap.size 30 #[.int .i64 0, .int .i64 0, .int .i64 0, .slice none 0 0] := by rw [← hwb]; exact Blk.new wa _ _
  have hbb : Below wa.heap.size wa wb := by rw [← hwb]; exact (Below.refl _ _).alloc (Nat.le_refl _) _
  have HF := hid hFb
  have HRb := hid (HR.out.below hbb HR.out.lt)
  have HBb := hid (HB.out.trans (hbb.mono HB.out.size))
  have HBa := hid hbb
  have h0 := below_keep hbb _ _ h0
  have h1 := below_keep hbb _ _ h1
  have hFl := hFb.lt
  rw [hwb]
  clear hFb hbb hwb e1
  have c0 := below_keep (HBb.out) _ _ c0w
  have c1 := below_keep HBb.out _ _ c1w
  have c2 := below_keep HBb.out _ _ c2w
  go_wp2_with fail
  go_outline
  (refine wp_mix ?_ ?_ ?_; (focus kernel_rfl); (focus kernel_rfl); intro KK hKK; go_wp2_with (first
        | (fail)
        | (with_reducible refine mix_nil ?_)
        | ((with_reducible refine mix_on ?_ ?_); (focus rfl); intro K hK; go_simp)
        | ((with_reducible refine mix_off ?_ ?_); (focus rfl); intro K hK; go_simp)
        | ((with_reducible refine mix_step ?_); intro K hK; go_simp)))
  have hgl2 := H.out.blk.lt
  have hbl2 := cell_lt c0w
  have L1 : Hid (∀ w', Below wa.heap.size wa w' → (Instr.loadAt 25 (.pointer (some ⟨g, 1, none⟩))).run Try.prog w' = .ok (.slice (some ⟨b, o, none⟩) n c) w') := hid fun w' hw => by
    have q := below_keep hw _ _ (below_keep HB.out _ _ H1W.out)
    go_simp
  have L3 : Hid (∀ w', Below wa.heap.size wa w' → (Instr.loadAt 5 (.pointer (some ⟨b, o + 3, none⟩))).run Try.prog w' = .ok (.int .u8 (nb l 3)) w') := hid fun w' hw => by
    have q := below_keep hw _ _ (below_keep HB.out _ _ (nb_cell H.out.bs (i := 3) (by omega)))
    go_simp
  have L4 : Hid (∀ w', Below wa.heap.size wa w' → (Instr.loadAt 5 (.pointer (some ⟨b, o + 4, none⟩))).run Try.prog w' = .ok (.int .u8 (nb l 4)) w') := hid fun w' hw => by
    have q := below_keep hw _ _ (below_keep HB.out _ _ (nb_cell H.out.bs (i := 4) (by omega)))
    go_simp
  have L5 : Hid (∀ w', Below wa.heap.size wa w' → (Instr.loadAt 5 (.pointer (some ⟨b, o + 5, none⟩))).run Try.prog w' = .ok (.int .u8 (nb l 5)) w') := hid fun w' hw => by
    have q := below_keep hw _ _ (below_keep HB.out _ _ (nb_cell H.out.bs (i := 5) (by omega)))
    go_simp
  have L6 : Hid (∀ w', Below wa.heap.size wa w' → (Instr.loadAt 5 (.pointer (some ⟨b, o + 6, none⟩))).run Try.prog w' = .ok (.int .u8 (nb l 6)) w') := hid fun w' hw => by
    have q := below_keep hw _ _ (below_keep HB.out _ _ (nb_cell H.out.bs (i := 6) (by omega)))
    go_simp
  have L7 : Hid (∀ w', Below wa.heap.size wa w' → (Instr.loadAt 5 (.pointer (some ⟨b, o + 7, none⟩))).run Try.prog w' = .ok (.int .u8 (nb l 7)) w') := hid fun w' hw => by
    have q := below_keep hw _ _ (below_keep HB.out _ _ (nb_cell H.out.bs (i := 7) (by omega)))
    go_simp
  have L8 : Hid (∀ w', Below wa.heap.size wa w' → (Instr.loadAt 5 (.pointer (some ⟨b, o + 8, none⟩))).run Try.prog w' = .ok (.int .u8 (nb l 8)) w') := hid fun w' hw => by
    have q := below_keep hw _ _ (below_keep HB.out _ _ (nb_cell H.out.bs (i := 8) (by omega)))
    go_simp
  have hS := HBa.out.drew
  have HRc := hid (HRb.out.drew)
  have HFc := hid (HF.out.drew)
  have HBc := hid (HBb.out.drew)
  generalize wb.drew = wc at hS HRc HFc HBc ⊢
  have HS := hid hS
  clear hS h0 h1 c0 c1 c2
  have f0 := HFc.out.cell 0
  have f1 := HFc.out.cell 1
  have f2 := HFc.out.cell 2
  have f3 := HFc.out.cell 3
  have ff0 := HFc.out.frozen 0
  have ff1 := HFc.out.frozen 1
  have ff2 := HFc.out.frozen 2
  have ff3 := HFc.out.frozen 3
  simp at f0 f1 f2 f3
  have hi3 : (3 : Int) < n := by omega
  have hi4 : (4 : Int) < n := by omega
  have hi5 : (5 : Int) < n := by omega
  have hi6 : (6 : Int) < n := by omega
  have hi7 : (7 : Int) < n := by omega
  have hi8 : (8 : Int) < n := by omega
  have hw3 := IntWalk.i64_in (nb l 3) (by have := nb_le l 3; omega)
  have hw4 := IntWalk.i64_in (nb l 4) (by have := nb_le l 4; omega)
  (refine wp_mixC (Below wa.heap.size wa) ?_ ?_ (HS.out.drew) ?_; (focus kernel_rfl); (focus kernel_rfl); intro KK hKK; go_wp2_with (first
                                              | (first
      | ((with_reducible refine mixS_load L1.out ?_ ?_ ?_); (focus rfl); (focus rfl))
      | ((with_reducible refine mixS_load L3.out ?_ ?_ ?_); (focus rfl); (focus rfl))
      | ((with_reducible refine mixS_load L4.out ?_ ?_ ?_); (focus rfl); (focus rfl))
      | ((with_reducible refine And.intro ?_ ?_); (focus (first | exact (HS.out.setCell (Nat.le_refl _) _).drew | exact ((HS.out.setCell (Nat.le_refl _) _).setCell (Nat.le_refl _) _).drew))))
                                              | (with_reducible refine mix_nil ?_)
                                              | ((with_reducible refine mixS_on ?_ ?_); (focus rfl); intro K K' hK hK'; go_simp)
                                              | ((with_reducible refine mixS_off ?_ ?_); (focus rfl); intro K hK; go_simp)
                                              | ((with_reducible refine mixS_step ?_); intro K K' hK hK'; go_simp)))
  have HSd := hid (((HS.out.setCell (p := ⟨wa.heap.size, 0, none⟩) (Nat.le_refl _) (.int .i64 (nb l 3))).setCell (p := ⟨wa.heap.size, 1, none⟩) (Nat.le_refl _) (.int .i64 (nb l 4))).drew)
  have HFd := hid (((HFc.out.set_ 0 (.int .i64 (nb l 3))).set_ 1 (.int .i64 (nb l 4))).drew)
  have HBd := hid (((HBc.out.setCell (p := ⟨wa.heap.size, 0, none⟩) (Nat.le_of_lt hRl) (.int .i64 (nb l 3))).setCell (p := ⟨wa.heap.size, 1, none⟩) (Nat.le_of_lt hRl) (.int .i64 (nb l 4))).drew)
  have HRd := hid (HR.out.below HSd.out HR.out.lt)
  clear f0 f1 f2 f3 ff0 ff1 ff2 ff3 hw3 hw4
  generalize ((wc.setCell ⟨wa.heap.size, 0, none⟩ (.int .i64 (nb l 3))).setCell ⟨wa.heap.size, 1, none⟩ (.int .i64 (nb l 4))).drew = wd at HSd HFd HBd HRd ⊢
  have f0 := HFd.out.cell 0
  have f1 := HFd.out.cell 1
  have f2 := HFd.out.cell 2
  have f3 := HFd.out.cell 3
  have ff0 := HFd.out.frozen 0
  have ff1 := HFd.out.frozen 1
  have ff2 := HFd.out.frozen 2
  have ff3 := HFd.out.frozen 3
  simp at f0 f1 f2 f3
  have hl4 := be4b l
  have hne : wa.heap.size ≠ g := by omega
  have h1d := below_keep HSd.out _ _ (below_keep HB.out _ _ H1W.out)
  (refine wp_mixC (Below wa.heap.size wa) ?_ ?_ (HSd.out.drew) ?_; (focus kernel_rfl); (focus kernel_rfl); intro KK hKK; go_wp2_with (first
                                               | (first
      | ((with_reducible refine mixS_load L1.out ?_ ?_ ?_); (focus rfl); (focus rfl))
      | ((with_reducible refine mixS_load L5.out ?_ ?_ ?_); (focus rfl); (focus rfl))
      | ((with_reducible refine mixS_load L6.out ?_ ?_ ?_); (focus rfl); (focus rfl))
      | ((with_reducible refine mixS_load L7.out ?_ ?_ ?_); (focus rfl); (focus rfl))
      | ((with_reducible refine mixS_load L8.out ?_ ?_ ?_); (focus rfl); (focus rfl))
      | ((with_reducible refine And.intro ?_ ?_); (focus (exact (HSd.out.setCell (Nat.le_refl _) _).drew))))
                                               | (with_reducible refine mix_nil ?_)
                                               | ((with_reducible refine mixS_on ?_ ?_); (focus rfl); intro K K' hK hK'; go_simp)
                                               | ((with_reducible refine mixS_off ?_ ?_); (focus rfl); intro K hK; go_simp)
                                               | ((with_reducible refine mixS_step ?_); intro K K' hK hK'; go_simp)))
  have HSe := hid ((HSd.out.setCell (p := ⟨wa.heap.size, 2, none⟩) (Nat.le_refl _) (.int .i64 (strI l))).drew)
  have HFe := hid ((HFd.out.set_ 2 (.int .i64 (strI l))).drew)
  have HBe := hid ((HBd.out.setCell (p := ⟨wa.heap.size, 2, none⟩) (Nat.le_of_lt hRl) (.int .i64 (strI l))).drew)
  have HRe := hid (HR.out.below HSe.out HR.out.lt)
  clear f0 f1 f2 f3 ff0 ff1 ff2 ff3 h1d
  generalize (wd.setCell ⟨wa.heap.size, 2, none⟩ (.int .i64 (strI l))).drew = we at HSe HFe HBe HRe ⊢
  have hs9 := (H.out.bs.to (k := 9 + m) hmn).off (k := 9) (cap := c) (by omega) (by omega)
  rw [Nat.add_sub_cancel_left, List.drop_take, Nat.add_sub_cancel_left] at hs9
  refine (clone_any _ m (c - 9) ((l.drop 9).take m) we (hs9.below HBe.out) (by omega)).mono ?_
  rintro e wf ⟨A1, c1, rfl, ho, hbf⟩
  have HO := hid (Bs.of_own ho)
  have HOL := hid (fun k hk => (ho.lt k hk).1)
  have HBf := hid (HBe.out.trans (hbf.mono HBe.out.size))
  have HSf := hid (HSe.out.trans (hbf.mono HSe.out.size))
  have HFf := hid (HFe.out.below hbf HFe.out.lt)
  have HRf := hid (HRe.out.below hbf HRe.out.lt)
  have hp1 := below_keep HBf.out _ _ H1W.out
  have hpf := (H.out.blk.below HBf.out hgl).frozen 1
  have hFlf := HFe.out.lt
  clear ho hbf
  have f0 := HFf.out.cell 0
  have f1 := HFf.out.cell 1
  have f2 := HFf.out.cell 2
  have f3 := HFf.out.cell 3
  have ff0 := HFf.out.frozen 0
  have ff1 := HFf.out.frozen 1
  have ff2 := HFf.out.frozen 2
  have ff3 := HFf.out.frozen 3
  have r0 := HRf.out.cell 0
  have r1 := HRf.out.cell 1
  have r2 := HRf.out.cell 2
  have r3 := HRf.out.cell 3
  have rf0 := HRf.out.frozen 0
  have rf1 := HRf.out.frozen 1
  have rf2 := HRf.out.frozen 2
  have rf3 := HRf.out.frozen 3
  simp at f0 f1 f2 f3 r0 r1 r2 r3
  have hne2 : g ≠ wa.heap.size := by omega
  have hne3 : w.heap.size ≠ g := by omega
  have hne4 : g ≠ w.heap.size := by omega
  have hne5 : w.heap.size ≠ wa.heap.size := by omega
  have hne6 : wa.heap.size ≠ w.heap.size := by omega
  go_wp2_with fail
  simp only [Exit.jump]
  clear f0 f1 f2 f3 ff0 ff1 ff2 ff3 r0 r1 r2 r3 rf0 rf1 rf2 rf3 hp1 hpf
  have hbl3 : b < w.heap.size := cell_lt c0w
  have hbg : b ≠ g := fun e => H.out.off ⟨b, o, none⟩ rfl (by simp [e])
  have ht : Turned [wa.heap.size, g, w.heap.size] wf ((((((wf.setCell ⟨wa.heap.size, 3, none⟩ (.slice A1 m c1)).setCell ⟨g, 1, none⟩ (.slice (offA (some ⟨b, o, none⟩) (9 + m) c 1) (n - (9 + m)) (c - (9 + m)))).setCell ⟨w.heap.size, 0, none⟩ (.int .i64 (nb l 3))).setCell ⟨w.heap.size, 1, none⟩ (.int .i64 (nb l 4))).setCell ⟨w.heap.size, 2, none⟩ (.int .i64 (strI l))).setCell ⟨w.heap.size, 3, none⟩ (.slice A1 m c1)) :=
    ((((((Turned.refl _ _).setCell (by simp) _).setCell (by simp) _).setCell (by simp) _).setCell (by simp) _).setCell (by simp) _).setCell (by simp) _
  have hRz := ((((((HRf.out.turned ((Turned.refl [wa.heap.size] _).setCell (p := ⟨wa.heap.size, 3, none⟩) (by simp) (.slice A1 m c1)) (by simp; omega)).turned ((Turned.refl [g] _).setCell (p := ⟨g, 1, none⟩) (by simp) (.slice (offA (some ⟨b, o, none⟩) (9 + m) c 1) (n - (9 + m)) (c - (9 + m)))) (by simp; omega)).set_ 0 (.int .i64 (nb l 3))).set_ 1 (.int .i64 (nb l 4))).set_ 2 (.int .i64 (strI l))).set_ 3 (.slice A1 m c1))
  have hPf := (H.out.blk.below HBf.out hgl).turned ((Turned.refl [wa.heap.size] _).setCell (p := ⟨wa.heap.size, 3, none⟩) (by simp) (.slice A1 m c1)) (by simp; omega)
  have hPz := (hPf.set_ 1 (.slice (offA (some ⟨b, o, none⟩) (9 + m) c 1) (n - (9 + m)) (c - (9 + m)))).turned (((((Turned.refl [w.heap.size] _).setCell (p := ⟨w.heap.size, 0, none⟩) (by simp) (.int .i64 (nb l 3))).setCell (p := ⟨w.heap.size, 1, none⟩) (by simp) (.int .i64 (nb l 4))).setCell (p := ⟨w.heap.size, 2, none⟩) (by simp) (.int .i64 (strI l))).setCell (p := ⟨w.heap.size, 3, none⟩) (by simp) (.slice A1 m c1)) (by simp; omega)
  generalize ((((((wf.setCell ⟨wa.heap.size, 3, none⟩ (.slice A1 m c1)).setCell ⟨g, 1, none⟩ (.slice (offA (some ⟨b, o, none⟩) (9 + m) c 1) (n - (9 + m)) (c - (9 + m)))).setCell ⟨w.heap.size, 0, none⟩ (.int .i64 (nb l 3))).setCell ⟨w.heap.size, 1, none⟩ (.int .i64 (nb l 4))).setCell ⟨w.heap.size, 2, none⟩ (.int .i64 (strI l))).setCell ⟨w.heap.size, 3, none⟩ (.slice A1 m c1)) = wz at ht hRz hPz ⊢
  have k0 := hRz.cell 0
  have k1 := hRz.cell 1
  have k2 := hRz.cell 2
  have k3 := hRz.cell 3
  simp at k0 k1 k2 k3
  have hA1 : ∀ ad, A1 = some ad → we.heap.size ≤ ad.block := fun ad e => by subst e; exact HOL.out ad.block rfl
  have hoA : ∀ ad, offA (some ⟨b, o, none⟩) (9 + m) c 1 = some ad → ad.block = b := fun ad e => by
    unfold offA at e
    split at e
    · injection e with e; subst e; rfl
    · simp only [Option.map_some, Option.some.injEq] at e
      subst e
      exact add_block _ _
  have hwe := HBe.out.size
  refine bodyPost_ret (v := .tuple #[fv (nb l 3) (nb l 4) (strI l) A1 m c1, .int .i64 0]) (by simp [results, Try.results17, go_sem, k0, k1, k2, k3]) rfl (.inr ⟨HE.out, A1, c1, offA (some ⟨b, o, none⟩) (9 + m) c 1, c - (9 + m), m, HM.out.symm, hmn, rfl, HO.out.turned ht (fun ad e => ?_), ⟨?_, ?_, by omega, fun ad e => ?_⟩, ?_, fun ad e => ?_, fun ad e => ?_⟩)
  · have := hA1 ad e
    simp
    omega
  · simpa using hPz
  · refine ((H.out.bs.off (k := 9 + m) (cap := c) (by omega) hcap).below HBf.out).turned ht (fun ad e => ?_)
    have := hoA ad e
    simp
    omega
  · have := hoA ad e
    simp
    omega
  · exact (Turned.of_below HBf.out).trans ht (fun q hq => by simp at hq; simp; omega)
  · have := hA1 ad e
    omega
  · exact ⟨_, rfl, (hoA ad e).symm⟩

theorem parNext_any (g : Nat) (room : Int) (A : Option Addr) (n c : Nat) (l : List UInt8) (w : World) (h : ParAt w g room A n c l) (hn : n ≤ 70368744177664) :
    Calls Try.prog 17 #[.pointer (some ⟨g, 0, none⟩)] w (NextPost g room A n c l w) := by
  by_cases hs : n < 9
  · exact parNext_few g room A n c l w h hn hs
  · by_cases hlong : room < lenI l
    · exact parNext_long g room A n c l w h hn hs hlong
    · by_cases hsh : (n : Int) < 9 + lenI l
      · exact parNext_short g room A n c l w h hn hs hlong hsh
      · exact parNext_ok g room A n c l w h hn hs hlong hsh
end Go.Proofs.Ytakkabilpjjmgaa
