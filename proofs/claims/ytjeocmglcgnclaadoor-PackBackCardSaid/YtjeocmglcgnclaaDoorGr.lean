/- Joined texts: StatRef. Each names its own conditions. -/
import Derived.Test.YtjeocmglcgnclaaDoorGs

/- The reference's Total and Same, for all fields. Conditions: at most 2^40 bytes in all. -/
namespace Go.Proofs.YtjeocmglcgnclaaDoor
open Go.RowKit
attribute [local go_sem] kd kdS
attribute [local go_sem ↓] sliced_word
attribute [local go_sem] offA_zero

set_option maxHeartbeats 400000 in
set_option maxRecDepth 100000 in
theorem rtotal_any (A : Option Addr) (n c : Nat) (l : List Fd) (w : World) (h : Fs w A n l) (ht : total l ≤ 1099511627776) (hn : n ≤ 1099511627776) :
    Calls Tryd.prog 64 #[.slice A n c] w fun e w' => e = .returned (.int .i64 (total l : Nat)) ∧ Below w.heap.size w w' := by
  have H := hid h
  have hlen := h.len
  clear h
  go_enter Tryd.func64, Tryd.ntmps64
  go_wp2_with fail
  go_loopw [3, 4] (fun s i wr => ∃ k : Nat, k ≤ n ∧ i = .int .i64 k ∧ s = .int .i64 (total (l.take k) : Nat) ∧ Below w.heap.size w wr) (fun _ i _ => n - (intOf i).toNat)
  case atStart => exact ⟨0, Nat.zero_le _, rfl, rfl, Below.refl _ _⟩
  case round =>
    obtain ⟨k, hk, rfl, rfl, hb⟩ := hrel
    have HB := hid hb
    by_cases hgo : k < n
    · obtain ⟨b, o, f, rfl, hf, c0, c1, c2⟩ := Fs.at_ (H.out.below hb) hgo
      have hst : total (l.take (k + 1)) = total (l.take k) + f.size := by
        rw [List.take_add_one, hf, total_append]
        simp [total]
      have hle : total (l.take (k + 1)) ≤ total l := by
        have := total_append (l.take (k + 1)) (l.drop (k + 1))
        rw [List.take_append_drop] at this
        omega
      have HST := hid hst
      have hfs : ((total (l.take k) : Nat) : Int) + (f.size : Nat) ≤ 1099511627776 := by omega
      have hfz : f.size ≤ 1099511627776 := by omega
      clear hst hle hf hb
      go_wp2_with fail
      refine (rsize_any f wr (by omega)).mono ?_
      rintro e w2 ⟨rfl, hb2⟩
      have HB2 := hid (HB.out.trans (hb2.mono HB.out.size))
      clear hb2 c0 c1 c2
      go_wp2_with fail
      go_roundw
      case rel => exact ⟨k + 1, by omega, by go_num, by rw [HST.out]; go_num, HB2.out⟩
      case measure => simp [intOf]; omega
    · obtain rfl : k = n := by omega
      have he : l.take k = l := List.take_of_length_le (by omega)
      rw [he]
      clear hb he hgo
      go_wp2_with fail
      go_ret
      exact ⟨rfl, HB.out⟩

set_option maxHeartbeats 1000000 in
set_option maxRecDepth 100000 in
theorem rsame_any (A : Option Addr) (n c : Nat) (l : List Fd) (A' : Option Addr) (n' c' : Nat) (l' : List Fd) (w : World) (h : Fs w A n l) (h' : Fs w A' n' l') (hn : n ≤ 1099511627776) :
    Calls Tryd.prog 39 #[.slice A n c, .slice A' n' c'] w fun e w' => e = .returned (.bool (sameL l l')) ∧ Below w.heap.size w w' := by
  have H := hid h
  have H' := hid h'
  have hlen := h.len
  have hlen' := h'.len
  clear h h'
  by_cases hnn : n = n'
  · subst hnn
    go_enter Tryd.func39, Tryd.ntmps39
    go_wp2_with fail
    go_loopw [5] (fun i wr => ∃ k : Nat, k ≤ n ∧ i = .int .i64 k ∧ (l.take k).map nv = (l'.take k).map nv ∧ Below w.heap.size w wr) (fun i _ => n - (intOf i).toNat)
    case atStart => exact ⟨0, Nat.zero_le _, rfl, rfl, Below.refl _ _⟩
    case round =>
      obtain ⟨k, hk, rfl, hq, hb⟩ := hrel
      have HB := hid hb
      have HQ := hid hq
      by_cases hgo : k < n
      · obtain ⟨b, o, f, rfl, hf, c0, c1, c2⟩ := Fs.at_ (H.out.below hb) hgo
        obtain ⟨b', o', f', rfl, hf', d0, d1, d2⟩ := Fs.at_ (H'.out.below hb) hgo
        have HF := hid hf
        have HF' := hid hf'
        clear hb hq hf hf'
        by_cases e1 : f.n.toList = f'.n.toList
        · have z1 : (f.n.toList == f'.n.toList) = true := beq_iff_eq.2 e1
          by_cases e2 : f.v.toList = f'.v.toList
          · have z2 : (f.v.toList == f'.v.toList) = true := beq_iff_eq.2 e2
            have HN := hid (sameL_step HF.out HF'.out HQ.out (by unfold sameF nv; simp [e1, e2]))
            clear e1 e2
            go_wp2_with fail
            (refine wp_mix ?_ ?_ ?_; (focus kernel_rfl); (focus kernel_rfl); intro KK hKK; go_wp2_with (first
                  | (fail)
                  | (with_reducible refine mix_nil ?_)
                  | ((with_reducible refine mix_on ?_ ?_); (focus rfl); intro K hK; go_simp; (first | ((with_reducible refine hK _ _ ?_); clear hK K) | skip))
                  | ((with_reducible refine mix_off ?_ ?_); (focus rfl); intro K hK; go_simp; (first | ((with_reducible refine hK _ _ ?_); clear hK K) | skip))
                  | ((with_reducible refine mix_step ?_); intro K hK; go_simp; (first | ((with_reducible refine hK _ _ ?_); clear hK K) | skip))))
            all_goals
              go_wp2_with fail
              go_roundw
              case rel => exact ⟨k + 1, by omega, by go_num, HN.out, HB.out.drew⟩
              case measure => simp [intOf]; omega
          · have z2 : (f.v.toList == f'.v.toList) = false := beq_eq_false_iff_ne.2 e2
            have HN := hid (sameL_not HF.out HF'.out (by unfold sameF nv; simp [e1, e2]))
            clear e1 e2
            go_wp2_with fail
            (refine wp_mix ?_ ?_ ?_; (focus kernel_rfl); (focus kernel_rfl); intro KK hKK; go_wp2_with (first
                  | (fail)
                  | (with_reducible refine mix_nil ?_)
                  | ((with_reducible refine mix_on ?_ ?_); (focus rfl); intro K hK; go_simp; (first | ((with_reducible refine hK _ _ ?_); clear hK K) | skip))
                  | ((with_reducible refine mix_off ?_ ?_); (focus rfl); intro K hK; go_simp; (first | ((with_reducible refine hK _ _ ?_); clear hK K) | skip))
                  | ((with_reducible refine mix_step ?_); intro K hK; go_simp; (first | ((with_reducible refine hK _ _ ?_); clear hK K) | skip))))
            all_goals
              go_wp2_with fail
              go_ret
              exact ⟨by rw [HN.out]; rfl, HB.out.drew⟩
        · have z1 : (f.n.toList == f'.n.toList) = false := beq_eq_false_iff_ne.2 e1
          have HN := hid (sameL_not HF.out HF'.out (by unfold sameF nv; simp [e1]))
          clear e1
          go_wp2_with fail
          (refine wp_mix ?_ ?_ ?_; (focus kernel_rfl); (focus kernel_rfl); intro KK hKK; go_wp2_with (first
                | (fail)
                | (with_reducible refine mix_nil ?_)
                | ((with_reducible refine mix_on ?_ ?_); (focus rfl); intro K hK; go_simp; (first | ((with_reducible refine hK _ _ ?_); clear hK K) | skip))
                | ((with_reducible refine mix_off ?_ ?_); (focus rfl); intro K hK; go_simp; (first | ((with_reducible refine hK _ _ ?_); clear hK K) | skip))
                | ((with_reducible refine mix_step ?_); intro K hK; go_simp; (first | ((with_reducible refine hK _ _ ?_); clear hK K) | skip))))
          all_goals
            go_wp2_with fail
            go_ret
            exact ⟨by rw [HN.out]; rfl, HB.out.drew⟩
      · obtain rfl : k = n := by omega
        have HN := hid (sameL_all hlen hlen' hq)
        clear hb hq hgo
        go_wp2_with fail
        go_ret
        exact ⟨by rw [HN.out]; rfl, HB.out⟩
  · have HN := hid (sameL_len (a := l) (b := l') (by omega))
    have z1 : ((n : Int) == (n' : Int)) = false := by rw [beq_eq_false_iff_ne]; omega
    have z2 : ¬ (n : Int) = (n' : Int) := by omega
    clear hlen hlen' hnn
    go_enter Tryd.func39, Tryd.ntmps39
    go_wp2_with fail
    go_ret
    exact ⟨by rw [HN.out]; rfl, Below.refl _ _⟩
end Go.Proofs.YtjeocmglcgnclaaDoor
