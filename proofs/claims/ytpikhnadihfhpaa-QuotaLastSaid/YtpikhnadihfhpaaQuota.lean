/- The quota's book over one user, each call once. Each lemma names its own conditions. -/
import Derived.Test.YtpikhnadihfhpaaQBook
import Derived.Test.YtpikhnadihfhpaaBytesFn
import Derived.Test.YtpikhnadihfhpaaMixZc
namespace Go.Proofs.Ytpikhnadihfhpaa
open Go.RowKit
attribute [local go_sem] kd kdS kdZ
attribute [local go_sem ↓] sliced_word
attribute [local go_sem] offA_zero


theorem user_info : (Try.prog.info? 52).map (fun i => (i.zero, i.size, i.bytes)) = some (some (.agg #[.string ByteArray.empty, .slice none 0 0, .slice none 0 0, .int .i64 0, .complex .f64 0 0, .slice none 0 0]), 6, 112) := by kernel_rfl

set_option maxHeartbeats 1000000 in
set_option maxRecDepth 100000 in
theorem users_one (a b : Nat) (T : Int) (x y : Nat) (w : World) (hA : w.cell? ⟨a, 0, none⟩ = some (.int .i64 T)) (hB : w.cell? ⟨b, 0, none⟩ = some (.complex .f64 x y)) :
    Calls Try.prog 7 #[.slice (some ⟨a, 0, none⟩) 1 1, .slice (some ⟨b, 0, none⟩) 1 1] w fun e w' => ∃ u c, e = .returned (.agg (confZ (.slice (some ⟨u, 0, none⟩) 1 c))) ∧
      (w'.cell? ⟨u, 0, none⟩ = some (.string u0) ∧ w'.cell? ⟨u, 1, none⟩ = some (.slice none 0 0) ∧ w'.cell? ⟨u, 2, none⟩ = some (.slice none 0 0) ∧ w'.cell? ⟨u, 3, none⟩ = some (.int .i64 T) ∧ w'.cell? ⟨u, 4, none⟩ = some (.complex .f64 x y) ∧ w'.cell? ⟨u, 5, none⟩ = some (.slice none 0 0)) ∧ Below w.heap.size w w' := by
  obtain ⟨i0, hi0, hz0, hz1, hz2⟩ := info_parts user_info
  have hi := hid hi0
  have hz := hid hz0
  have hsz := hid hz1
  have hby := hid hz2
  clear hi0 hz0 hz1 hz2
  have HA := hid hA
  have HB := hid hB
  clear hA hB
  go_enter Try.func7, Try.ntmps7
  go_wp2_with fail
  have hR : Blk ((w.alloc (.cells (confZ (.slice none 0 0)) 31)).alloc (.cells (confZ (.slice none 0 0)) 31)) w.heap.size 31 (confZ (.slice none 0 0)) := (Blk.new w _ _).alloc _
  have hC : Blk ((w.alloc (.cells (confZ (.slice none 0 0)) 31)).alloc (.cells (confZ (.slice none 0 0)) 31)) (w.heap.size + 1) 31 (confZ (.slice none 0 0)) := by
    have := Blk.new (w.alloc (.cells (confZ (.slice none 0 0)) 31)) 31 (confZ (.slice none 0 0))
    simpa using this
  have hb0 : Below w.heap.size w ((w.alloc (.cells (confZ (.slice none 0 0)) 31)).alloc (.cells (confZ (.slice none 0 0)) 31)) := ((Below.refl _ _).alloc (Nat.le_refl _) _).alloc (by simp) _
  have HR := hid hR
  have HC := hid hC
  have HB0 := hid hb0
  clear hR hC hb0
  go_loopw [6] (fun i wr => ∃ k : Nat, k ≤ 1 ∧ i = .int .i64 k ∧ Below w.heap.size w wr ∧ Blk wr w.heap.size 31 (confZ (.slice none 0 0)) ∧ ((k = 0 ∧ Blk wr (w.heap.size + 1) 31 (confZ (.slice none 0 0))) ∨ (k = 1 ∧ ∃ u c, Blk wr (w.heap.size + 1) 31 (confZ (.slice (some ⟨u, 0, none⟩) 1 c)) ∧ w.heap.size + 1 < u ∧
    wr.cell? ⟨u, 0, none⟩ = some (.string u0) ∧ wr.cell? ⟨u, 1, none⟩ = some (.slice none 0 0) ∧ wr.cell? ⟨u, 2, none⟩ = some (.slice none 0 0) ∧ wr.cell? ⟨u, 3, none⟩ = some (.int .i64 T) ∧ wr.cell? ⟨u, 4, none⟩ = some (.complex .f64 x y) ∧ wr.cell? ⟨u, 5, none⟩ = some (.slice none 0 0)))) (fun i _ => 1 - (intOf i).toNat)
  case atStart => exact ⟨0, by omega, rfl, HB0.out, HR.out, .inl ⟨rfl, HC.out⟩⟩
  case round =>
    obtain ⟨k, hk, rfl, hb, hr, hcase⟩ := hrel
    have HBW := hid hb
    have HRW := hid hr
    clear hb hr HR HC HB0
    rcases hcase with ⟨rfl, hc⟩ | ⟨rfl, u, c, hc, hu, e0, e1, e2, e3, e4, e5⟩
    · have HCW := hid hc
      have ha := below_keep (HBW.out.mono (Nat.le_refl _)) _ _ HA.out
      have hb' := below_keep (HBW.out.mono (Nat.le_refl _)) _ _ HB.out
      have L0 : Hid (∀ w', Below wr.heap.size wr w' → (Instr.loadAt 29 (.pointer (some ⟨w.heap.size + 1, 7, none⟩))).run Try.prog w' = .ok (.slice none 0 0) w') := hid fun w' hw => by
        have q0 := below_keep hw _ _ (show wr.cell? ⟨w.heap.size + 1, 7, none⟩ = some (.slice none 0 0) from HCW.out.cell 7)
        clear ha hb'
        go_simp
      have L1 : Hid (∀ w', Below wr.heap.size wr w' → (Instr.loadAt 3 (.pointer (some ⟨a, 0, none⟩))).run Try.prog w' = .ok (.int .i64 T) w') := hid fun w' hw => by
        have q0 := below_keep hw _ _ ha
        clear ha hb'
        go_simp
      have L2 : Hid (∀ w', Below wr.heap.size wr w' → (Instr.loadAt 23 (.pointer (some ⟨b, 0, none⟩))).run Try.prog w' = .ok (.complex .f64 x y) w') := hid fun w' hw => by
        have q0 := below_keep hw _ _ hb'
        clear ha hb'
        go_simp
      clear ha hb'
      have hstr := run_str (P := Try.prog) (c := 1) (show Bs ((wr.alloc (.cells #[.int .u8 48] 5)).drew) (some ⟨wr.heap.size, 0, none⟩) 1 [48] from rd_newD (n := 1) (size := 1) rfl rfl) 47 9 5 Try.underlying47 Try.underlying5 Try.underlying9
      have hw48 : IntKind.u8.wrap (IntKind.i64.wrap 48) = 48 := by decide
      have hb1 : Below wr.heap.size wr (wr.alloc (.cells #[.int .u8 48] 5)).drew := ((Below.refl _ _).alloc (Nat.le_refl _) _).drew
      have hu0 : ({ data := #[117] } : ByteArray) ++ { data := #[48] } = u0 := rfl
      have hb2 : Below wr.heap.size wr ((wr.alloc (.cells #[.int .u8 48] 5)).alloc (.cells #[.string u0, .slice none 0 0, .slice none 0 0, .int .i64 T, .complex .f64 x y, .slice none 0 0] 52)).drew := (((Below.refl _ _).alloc (Nat.le_refl _) _).alloc (by simp) _).drew
      have HB1 := hid hb1
      have HB2 := hid hb2
      clear hb1 hb2
      go_wp2_with fail
      (refine wp_mixZc (Below wr.heap.size wr) rfl ?_ ?_ ((Below.refl _ _).drew) ?_; (focus kernel_rfl); (focus kernel_rfl); intro KK hKK; simp only [List.dropLast_cons_cons, List.dropLast_singleton]; go_wp2_with (first
                                                             | (first
        | ((with_reducible refine mixZ_load L0.out ?_ ?_ ?_); (focus rfl); (focus rfl))
        | ((with_reducible refine mixZ_load L1.out ?_ ?_ ?_); (focus rfl); (focus rfl))
        | ((with_reducible refine mixZ_load L2.out ?_ ?_ ?_); (focus rfl); (focus rfl))
        | ((with_reducible refine at_mapp ?_); go_loud (refine mixZ_app (wr.heap.size + 2) 52 i0 _ 6 112 Try.underlying29 hi.out hz.out hsz.out hby.out rfl (by decide) (.slice none 0 0) 0 [] (World.ownsRow_nil _ _ _ _) (some ⟨wr.heap.size + 1, 0, none⟩) 1 1 [.string u0, .slice none 0 0, .slice none 0 0, .int .i64 T, .complex .f64 x y, .slice none 0 0] (rd_newD (size := 6) (by simp) rfl) ?_ ?_ ?_ ?_ ?_ ?_ ?_ ?_; (focus rfl); (focus rfl); (focus (intro u hu; simp at hu; rcases hu with rfl | rfl | rfl | rfl | rfl <;> rfl)); (focus omega); (focus omega); (focus simp); (focus rfl); intro A5 cs5 w5 ho5 hg5 hc5; have HS5 := hid (show Below wr.heap.size wr w5 from HB2.out.grown hg5 HB2.out.size (fun q hq => by simp [Value.ownBlock] at hq)); have HO5 := hid ho5; have hC5 := HCW.out.below HS5.out HCW.out.lt; have HC5 := hid hC5; have z7 := hC5.cell 7; have f7 := hC5.frozen 7; simp [confZ] at z7; clear ho5 hg5 hc5 hC5))
        | ((with_reducible refine And.intro ?_ ?_); (focus (first | (with_reducible exact HS5.out) | (with_reducible exact HB1.out) | (with_reducible exact HB2.out) | (rw [hw48]; exact HB1.out))))
        | ((with_reducible refine mix_nil ?_); refine hKK _ _ HS5.out ?_; (with_reducible refine last_on ?_ ?_); (focus rfl); intro K hK; go_simp))
                                                             | ((with_reducible refine mix_nil ?_); refine hKK _ _ ((Below.refl _ _).drew) ?_; (with_reducible refine last_on ?_ ?_); (focus rfl); intro K hK; go_simp)
                                                             | ((with_reducible refine mixS_on ?_ ?_); (focus rfl); intro K K' hK hK'; go_simp; (first | ((with_reducible refine hK _ _ ?_); clear hK hK' K K') | ((with_reducible refine hK' _ _ ?_); clear hK hK' K K') | skip))
                                                             | ((with_reducible refine mixS_off ?_ ?_); (focus rfl); intro K hK; go_simp; (first | ((with_reducible refine hK _ _ ?_); clear hK K) | skip))
                                                             | ((with_reducible refine mixS_step ?_); intro K K' hK hK'; go_simp; (first | ((with_reducible refine hK _ _ ?_); clear hK hK' K K') | ((with_reducible refine hK' _ _ ?_); clear hK hK' K K') | skip))))
      obtain ⟨ub, cap, hv, hge, hlt⟩ := HO5.out.form (by omega)
      injection hv with hv1 hv2 hv3
      subst hv1 hv3
      have c0 := HO5.out.cellAt 0 (by omega)
      have c1 := HO5.out.cellAt 1 (by omega)
      have c2 := HO5.out.cellAt 2 (by omega)
      have c3 := HO5.out.cellAt 3 (by omega)
      have c4 := HO5.out.cellAt 4 (by omega)
      have c5 := HO5.out.cellAt 5 (by omega)
      have HT := hid ((Turned.refl [w.heap.size + 1] w5).setCell (p := ⟨w.heap.size + 1, 7, none⟩) (by simp) (.slice (some ⟨ub, 0, none⟩) 1 cs5))
      have hne : ub ∉ [w.heap.size + 1] := by
        have := HCW.out.lt
        simp
        omega
      have hu1 : w.heap.size + 1 < ub := by
        have := HCW.out.lt
        omega
      have HCS := hid (And.intro (HT.out.cell c0 hne) (And.intro (HT.out.cell c1 hne) (And.intro (HT.out.cell c2 hne) (And.intro (HT.out.cell c3 hne) (And.intro (HT.out.cell c4 hne) (HT.out.cell c5 hne))))))
      go_roundw
      case rel => exact ⟨1, Nat.le_refl _, rfl, (HBW.out.trans (HS5.out.mono HBW.out.size)).setCell (Nat.le_succ _) _, (HRW.out.below HS5.out HRW.out.lt).turned HT.out (by simp), .inr ⟨rfl, ub, cs5, HC5.out.set_ 7 _, hu1, HCS.out⟩⟩
      case measure => simp [intOf]
    · clear hk
      have k0 := hc.cell 0
      have k1 := hc.cell 1
      have k2 := hc.cell 2
      have k3 := hc.cell 3
      have k4 := hc.cell 4
      have k5 := hc.cell 5
      have k6 := hc.cell 6
      have k7 := hc.cell 7
      simp [confZ] at k0 k1 k2 k3 k4 k5 k6 k7
      have HCC := hid hc
      have HE := hid (And.intro e0 (And.intro e1 (And.intro e2 (And.intro e3 (And.intro e4 e5)))))
      have HU := hid hu
      have r0 := HRW.out.cell 0
      have r1 := HRW.out.cell 1
      have r2 := HRW.out.cell 2
      have r3 := HRW.out.cell 3
      have r4 := HRW.out.cell 4
      have r5 := HRW.out.cell 5
      have r6 := HRW.out.cell 6
      have r7 := HRW.out.cell 7
      simp [confZ] at r0 r1 r2 r3 r4 r5 r6 r7
      have f0 := HRW.out.frozen 0
      have f1 := HRW.out.frozen 1
      have f2 := HRW.out.frozen 2
      have f3 := HRW.out.frozen 3
      have f4 := HRW.out.frozen 4
      have f5 := HRW.out.frozen 5
      have f6 := HRW.out.frozen 6
      have f7 := HRW.out.frozen 7
      clear hc hu e0 e1 e2 e3 e4 e5
      go_wp2_with fail
      have hst : Turned [w.heap.size] wr ((((((((wr.setCell ⟨w.heap.size, 0, none⟩ (.int .i64 0)).setCell ⟨w.heap.size, 1, none⟩ (.int .i64 0)).setCell ⟨w.heap.size, 2, none⟩ (.int .i64 0)).setCell ⟨w.heap.size, 3, none⟩ (.int .i64 0)).setCell ⟨w.heap.size, 4, none⟩ (.int .i64 0)).setCell ⟨w.heap.size, 5, none⟩ (.int .i64 0)).setCell ⟨w.heap.size, 6, none⟩ (.int .i64 0)).setCell ⟨w.heap.size, 7, none⟩ (.slice (some ⟨u, 0, none⟩) 1 c)) :=
        ((((((((Turned.refl _ _).setCell (by simp) _).setCell (by simp) _).setCell (by simp) _).setCell (by simp) _).setCell (by simp) _).setCell (by simp) _).setCell (by simp) _).setCell (by simp) _
      refine bodyPost_ret (v := .agg (confZ (.slice (some ⟨u, 0, none⟩) 1 c))) (by simp only [results, Try.results7, confZ]; go_simp) rfl ⟨u, c, rfl, ?_, HBW.out.trans (hst.below (by simp) HBW.out.size)⟩
      have hne : u ∉ [w.heap.size] := by
        have := HU.out
        simp
        omega
      obtain ⟨e0, e1, e2, e3, e4, e5⟩ := HE.out
      exact ⟨hst.cell e0 hne, hst.cell e1 hne, hst.cell e2 hne, hst.cell e3 hne, hst.cell e4 hne, hst.cell e5 hne⟩
end Go.Proofs.Ytpikhnadihfhpaa
