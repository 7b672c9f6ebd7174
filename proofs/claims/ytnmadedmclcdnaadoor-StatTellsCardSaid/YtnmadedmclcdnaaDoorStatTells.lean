/- The law StatTells walked. No condition but the world's own: a slice's length. -/
import Derived.Test.YtnmadedmclcdnaaDoorStatRefS
import Derived.Test.YtnmadedmclcdnaaDoorStatRef
namespace Go.Proofs.YtnmadedmclcdnaaDoor
open Go.RowKit
attribute [local go_sem] kd kdS
attribute [local go_sem ↓] sliced_word
attribute [local go_sem] offA_zero

/-- The two tables answer alike, in one form. -/
theorem both_get (i : Int) : ∃ (q : List UInt8 × List UInt8) (b : Bool), (∀ w, Calls Tryd.prog 8 #[.int .i64 i] w fun e w' => e = .returned (.tuple #[.agg #[.string ⟨q.1.toArray⟩, .string ⟨q.2.toArray⟩, .bool false], .bool b]) ∧ Below w.heap.size w w') ∧ (∀ w, Calls Tryd.prog 14 #[.int .i64 i] w fun e w' => e = .returned (.tuple #[.agg #[.string ⟨q.1.toArray⟩, .string ⟨q.2.toArray⟩, .bool false], .bool b]) ∧ Below w.heap.size w w') := by
  by_cases h : 1 ≤ i ∧ i ≤ 61
  · obtain ⟨m, rfl⟩ : ∃ m : Nat, i = ((m + 1 : Nat) : Int) := ⟨i.toNat - 1, by omega⟩
    exact ⟨tabF (m + 1), true, fun w => get_yes (m + 1) w (by omega) (by omega), fun w => static_yes m (by omega) w⟩
  · exact ⟨([], []), false, fun w => get_no i w (by omega), fun w => static_no i (by omega) w⟩
/-- The two searches, for any texts. -/
theorem both_find (a b : ByteArray) : ∃ x y : Nat, x ≤ 61 ∧ y ≤ 61 ∧ (∀ w, Calls Tryd.prog 9 #[.string a, .string b] w fun e w' => e = .returned (.tuple #[.int .i64 x, .int .i64 y]) ∧ Below w.heap.size w w') ∧ (∀ w, Calls Tryd.prog 15 #[.string a, .string b] w fun e w' => e = .returned (.tuple #[.int .i64 x, .int .i64 y]) ∧ Below w.heap.size w w') := by
  obtain ⟨⟨a⟩⟩ := a
  obtain ⟨⟨b⟩⟩ := b
  have h := findP_le a b 61
  refine ⟨_, _, h.1, h.2, fun w => find_any a b w, fun w => ?_⟩
  rw [← rfind_is]
  exact rfind_any a b w

set_option maxHeartbeats 4000000 in
set_option maxRecDepth 100000 in
theorem tells_walk (i : Int) (A : Option Addr) (n c : Nat) (l : List Fd) (A2 : Option Addr) (n2 c2 : Nat) (l2 : List Fd) (w : World) (h : Fs w A n l) (h2 : Fs w A2 n2 l2) (hn : n ≤ 140737488355328) (hn2 : n2 ≤ 140737488355328) :
    Calls Tryd.prog 6 #[.int .i64 i, .slice A n c, .slice A2 n2 c2] w fun e w' => e = .returned (.bool true) ∧ Below w.heap.size w w' := by
  have H := hid h
  have H2 := hid h2
  have hlen := h.len
  clear h h2
  go_enter Tryd.func6, Tryd.ntmps6
  go_wp2_with fail
  refine (first_any w).mono ?_
  rintro e w1 ⟨rfl, hb1⟩
  have HB1 := hid hb1
  clear hb1
  go_wp2_with fail
  refine (fewF_any A n c l w1 (H.out.below HB1.out) (by omega)).mono ?_
  rintro e w2 ⟨rfl, ht2⟩
  have HB2 := hid (HB1.out.trans ((ht2.below (B := w1.heap.size) (by intro b hb; cases hb) (Nat.le_refl _)).mono HB1.out.size))
  clear ht2 HB1
  rcases hf : fewF l with _ | _
  · clear hf
    go_wp2_with fail
    refine (first_any w2).mono ?_
    rintro e w3 ⟨rfl, hb3⟩
    have HB3 := hid (HB2.out.trans (hb3.mono HB2.out.size))
    clear hb3
    go_wp2_with fail
    go_ret
    exact ⟨rfl, HB3.out⟩
  · have hn200 := fewF_len hf
    have htot := fewF_total hf
    clear hf
    go_wp2_with fail
    refine (fewF_any A2 n2 c2 l2 w2 (H2.out.below HB2.out) (by omega)).mono ?_
    rintro e w3 ⟨rfl, ht3⟩
    have HB3 := hid (HB2.out.trans ((ht3.below (B := w2.heap.size) (by intro b hb; cases hb) (Nat.le_refl _)).mono HB2.out.size))
    clear ht3 HB2
    rcases hf : fewF l2 with _ | _
    · clear hf
      go_wp2_with fail
      refine (first_any w3).mono ?_
      rintro e w4 ⟨rfl, hb4⟩
      have HB4 := hid (HB3.out.trans (hb4.mono HB3.out.size))
      clear hb4
      go_wp2_with fail
      go_ret
      exact ⟨rfl, HB4.out⟩
    · clear hf
      obtain ⟨q, bb, g1, g2⟩ := both_get i
      have G1 := hid g1
      have G2 := hid g2
      clear g1 g2
      go_wp2_with fail
      refine (G1.out w3).mono ?_
      rintro e w4 ⟨rfl, hb4⟩
      have HB4 := hid (HB3.out.trans (hb4.mono HB3.out.size))
      clear hb4 HB3
      go_upto_region 6 with fail
      have hF : FdAt (w4.alloc (.cells #[.string ⟨q.1.toArray⟩, .string ⟨q.2.toArray⟩, .bool false] 24)) w4.heap.size q := Blk.new w4 _ _
      have hba : Below w4.heap.size w4 (w4.alloc (.cells #[.string ⟨q.1.toArray⟩, .string ⟨q.2.toArray⟩, .bool false] 24)) := (Below.refl _ _).alloc (Nat.le_refl _) _
      generalize w4.alloc (.cells #[.string ⟨q.1.toArray⟩, .string ⟨q.2.toArray⟩, .bool false] 24) = wa at hF hba ⊢
      generalize w4.heap.size = ga at hF ⊢
      have HF := hid hF
      have HBA := hid (HB4.out.trans (hba.mono HB4.out.size))
      clear hF hba HB4
      go_wp2_with fail
      refine (G2.out wa).mono ?_
      rintro e w5 ⟨rfl, hb5⟩
      have HF5 := hid (HF.out.below hb5)
      have HB5 := hid (HBA.out.trans (hb5.mono HBA.out.size))
      clear hb5 HF HBA
      go_upto_region 7 with fail
      have hF : FdAt (w5.alloc (.cells #[.string ⟨q.1.toArray⟩, .string ⟨q.2.toArray⟩, .bool false] 24)) w5.heap.size q := Blk.new w5 _ _
      have hba : Below w5.heap.size w5 (w5.alloc (.cells #[.string ⟨q.1.toArray⟩, .string ⟨q.2.toArray⟩, .bool false] 24)) := (Below.refl _ _).alloc (Nat.le_refl _) _
      generalize w5.alloc (.cells #[.string ⟨q.1.toArray⟩, .string ⟨q.2.toArray⟩, .bool false] 24) = wb at hF hba ⊢
      generalize w5.heap.size = gb at hF ⊢
      obtain ⟨k0, k1, k2⟩ := (HF5.out.below hba).c
      obtain ⟨q0, q1, q2⟩ := hF.c
      have HB6 := hid (HB5.out.trans (hba.mono HB5.out.size))
      clear hF hba HF5 HB5 G1 G2
      have zb : (bb == bb) = true := by simp
      go_wp2_with fail
      clear k0 k1 k2 q0 q1 q2
      go_loopw [11] (fun x wr => ∃ k : Nat, k ≤ n ∧ x = .int .i64 k ∧ Below w.heap.size w wr) (fun x _ => n - (intOf x).toNat)
      case atStart => exact ⟨0, Nat.zero_le _, rfl, HB6.out⟩
      case round =>
        obtain ⟨k, hk, rfl, hb⟩ := hrel
        have HB := hid hb
        clear hb HB6
        by_cases hgo : k < n
        · obtain ⟨b, o, f, rfl, hfx, c0, c1, c2⟩ := Fs.at_ (H.out.below HB.out) hgo
          obtain ⟨x, y, hx, hy, g1, g2⟩ := both_find f.n f.v
          have G1 := hid g1
          have G2 := hid g2
          have hfs : f.size ≤ 70368744177664 := by
            have := total_append (l.take k) (l.drop k)
            rw [List.take_append_drop] at this
            obtain ⟨hkl, he⟩ := List.getElem?_eq_some_iff.1 hfx
            rw [List.drop_eq_getElem_cons hkl, total_cons, he] at this
            omega
          have HFS := hid hfs
          clear g1 g2 hfs hfx
          go_wp2_with fail
          have KC : Hid (∀ w', Below wr.heap.size wr w' → w'.cell? ⟨b, o + k * 3, none⟩ = some (.string f.n) ∧ w'.cell? ⟨b, o + k * 3 + 1, none⟩ = some (.string f.v) ∧ w'.cell? ⟨b, o + k * 3 + 2, none⟩ = some (.bool f.x)) := hid fun w' hw => ⟨below_keep hw _ _ c0, below_keep hw _ _ c1, below_keep hw _ _ c2⟩
          have HE : Hid (Below wr.heap.size wr wr.drew) := hid (Below.refl _ _).drew
          (refine wp_mix ?_ ?_ ?_; (focus kernel_rfl); (focus kernel_rfl); intro KK hKK; go_wp2_with (first
                | (go_at_call 9; go_must (with_reducible refine (G1.out _).mono ?_); rintro e w12 ⟨rfl, hb12⟩; have HS := hid (HE.out.trans (hb12.mono HE.out.size)); clear hb12)
                | (with_reducible refine mix_nil ?_)
                | ((with_reducible refine mix_on ?_ ?_); (focus rfl); intro K hK; go_simp; (first | ((with_reducible refine hK _ _ ?_); clear hK K) | skip))
                | ((with_reducible refine mix_off ?_ ?_); (focus rfl); intro K hK; go_simp; (first | ((with_reducible refine hK _ _ ?_); clear hK K) | skip))
                | ((with_reducible refine mix_step ?_); intro K hK; go_simp; (first | ((with_reducible refine hK _ _ ?_); clear hK K) | skip))))
          clear c0 c1 c2 HE
          obtain ⟨c0, c1, c2⟩ := KC.out _ HS.out
          have HE := hid HS.out.drew
          go_wp2_with fail
          (refine wp_mix ?_ ?_ ?_; (focus kernel_rfl); (focus kernel_rfl); intro KK hKK; go_wp2_with (first
                | (go_at_call 15; go_must (with_reducible refine (G2.out _).mono ?_); rintro e w13 ⟨rfl, hb13⟩; have HT := hid (HE.out.trans (hb13.mono HE.out.size)); clear hb13)
                | (with_reducible refine mix_nil ?_)
                | ((with_reducible refine mix_on ?_ ?_); (focus rfl); intro K hK; go_simp; (first | ((with_reducible refine hK _ _ ?_); clear hK K) | skip))
                | ((with_reducible refine mix_off ?_ ?_); (focus rfl); intro K hK; go_simp; (first | ((with_reducible refine hK _ _ ?_); clear hK K) | skip))
                | ((with_reducible refine mix_step ?_); intro K hK; go_simp; (first | ((with_reducible refine hK _ _ ?_); clear hK K) | skip))))
          clear c0 c1 c2 HE HS
          have L0 : Hid (∀ w', Below wr.heap.size wr w' → (Instr.loadAt 24 (.pointer (some ⟨b, o + k * 3, none⟩))).run Tryd.prog w' = .ok (.agg #[.string f.n, .string f.v, .bool f.x]) w') := hid fun w' hw => by
            obtain ⟨d0, d1, d2⟩ := KC.out w' hw
            go_simp
          have S1 : Hid (∀ w', Calls Tryd.prog 11 #[.agg #[.string f.n, .string f.v, .bool f.x]] w' fun e w'' => e = .returned (.int .i64 (f.size : Nat)) ∧ Below w'.heap.size w' w'') := hid fun w' => size_any f w' HFS.out
          have S2 : Hid (∀ w', Calls Tryd.prog 16 #[.agg #[.string f.n, .string f.v, .bool f.x]] w' fun e w'' => e = .returned (.int .i64 (f.size : Nat)) ∧ Below w'.heap.size w' w'') := hid fun w' => rsize_any f w' HFS.out
          have HSB := hid HT.out.drew
          clear HT KC
          go_wp2_with fail
          (refine wp_mixC (Below wr.heap.size wr) ?_ ?_ (HSB.out) ?_; (focus kernel_rfl); (focus kernel_rfl); intro KK hKK; go_wp2_with (first
                                                  | (first
            | ((with_reducible refine mixS_load L0.out ?_ ?_ ?_); (focus rfl); (focus rfl))
            | (go_at_call 11; go_must (with_reducible refine (S1.out _).mono ?_); rintro e w14 ⟨rfl, hb14⟩; have HSB := hid (HSB.out.trans (hb14.mono HSB.out.size)); clear hb14)
            | (go_at_call 16; go_must (with_reducible refine (S2.out _).mono ?_); rintro e w14 ⟨rfl, hb14⟩; have HSB := hid (HSB.out.trans (hb14.mono HSB.out.size)); clear hb14)
            | ((with_reducible refine And.intro ?_ ?_); (focus (exact HSB.out))))
                                                  | (with_reducible refine mix_nil ?_)
                                                  | ((with_reducible refine mixS_on ?_ ?_); (focus rfl); intro K K' hK hK'; go_simp; (first | ((with_reducible refine hK _ _ ?_); clear hK hK' K K') | ((with_reducible refine hK' _ _ ?_); clear hK hK' K K') | skip))
                                                  | ((with_reducible refine mixS_off ?_ ?_); (focus rfl); intro K hK; go_simp; (first | ((with_reducible refine hK _ _ ?_); clear hK K) | skip))
                                                  | ((with_reducible refine mixS_step ?_); intro K K' hK hK'; go_simp; (first | ((with_reducible refine hK _ _ ?_); clear hK hK' K K') | ((with_reducible refine hK' _ _ ?_); clear hK hK' K K') | skip))))
          have HZ := hid (HB.out.trans (HSB.out.mono HB.out.size))
          clear L0 S1 S2 G1 G2
          go_wp2_with fail
          go_roundw
          case rel => exact ⟨k + 1, by omega, by go_num, HZ.out⟩
          case measure => simp [intOf]; omega
        · obtain rfl : k = n := by omega
          clear hgo
          go_wp2_with fail
          refine (first_any wr).mono ?_
          rintro e w7 ⟨rfl, hb7⟩
          have HB7 := hid (HB.out.trans (hb7.mono HB.out.size))
          clear hb7 HB
          go_wp2_with fail
          refine (total_any A _ c l w7 (H.out.below HB7.out) (by omega) (by omega)).mono ?_
          rintro e w8 ⟨rfl, hb8⟩
          have HB8 := hid (HB7.out.trans (hb8.mono HB7.out.size))
          clear hb8 HB7
          go_wp2_with fail
          refine (rtotal_any A _ c l w8 (H.out.below HB8.out) (by omega) (by omega)).mono ?_
          rintro e w9 ⟨rfl, hb9⟩
          have HB9 := hid (HB8.out.trans (hb9.mono HB8.out.size))
          clear hb9 HB8
          go_wp2_with fail
          refine (same_any A _ c l A2 n2 c2 l2 w9 (H.out.below HB9.out) (H2.out.below HB9.out) (by omega)).mono ?_
          rintro e w10 ⟨rfl, hb10⟩
          have HB10 := hid (HB9.out.trans (hb10.mono HB9.out.size))
          clear hb10 HB9
          go_wp2_with fail
          refine (rsame_any A _ c l A2 n2 c2 l2 w10 (H.out.below HB10.out) (H2.out.below HB10.out) (by omega)).mono ?_
          rintro e w11 ⟨rfl, hb11⟩
          have HB11 := hid (HB10.out.trans (hb11.mono HB10.out.size))
          have zs : (sameL l l2 == sameL l l2) = true := by simp
          clear hb11 HB10
          go_wp2_with fail
          go_ret
          exact ⟨rfl, HB11.out⟩
end Go.Proofs.YtnmadedmclcdnaaDoor
