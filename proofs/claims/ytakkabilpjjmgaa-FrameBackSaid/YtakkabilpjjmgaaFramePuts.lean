/- The law FramePuts walked: whatever frames come in, Put and Same answer as the reference does, and the call returns true. -/
import Derived.Test.YtakkabilpjjmgaaFrameFew
import Derived.Test.YtakkabilpjjmgaaMix
namespace Go.Proofs.Ytakkabilpjjmgaa
open Go.RowKit
attribute [local go_sem] kd kdS

theorem Frs.below {w w' : World} {A : Option Addr} {n : Nat} {fs : List Fr} (h : Frs w A n fs) (hb : Below w.heap.size w w') : Frs w' A n fs :=
  ⟨h.len, fun hn => by
    obtain ⟨b, o, e, hc⟩ := h.at_ hn
    refine ⟨b, o, e, fun i x hx => ?_⟩
    obtain ⟨h0, h1, h2, h3⟩ := hc i x hx
    exact ⟨below_keep hb _ _ h0, below_keep hb _ _ h1, below_keep hb _ _ h2, below_keep hb _ _ h3⟩, fun x hx => (h.body x hx).below hb⟩

theorem load_frame {w : World} {b q : Nat} {x : Fr} (c0 : w.cell? ⟨b, q, none⟩ = some (.int .i64 x.k)) (c1 : w.cell? ⟨b, q + 1, none⟩ = some (.int .i64 x.f)) (c2 : w.cell? ⟨b, q + 2, none⟩ = some (.int .i64 x.s)) (c3 : w.cell? ⟨b, q + 3, none⟩ = some (.slice x.A x.n x.c)) :
    (Instr.loadAt 30 (.pointer (some ⟨b, q, none⟩))).run Try.prog w = .ok (fv x.k x.f x.s x.A x.n x.c) w := by
  go_simp

theorem sameB_self (x : Fr) : sameB x.k x.f x.s x.l x.k x.f x.s x.l = true := by simp [sameB]

set_option maxHeartbeats 4000000 in
set_option maxRecDepth 100000 in
theorem puts_walk (A : Option Addr) (n c : Nat) (fs : List Fr) (w : World) (h : Frs w A n fs) (hn : n ≤ 140737488355328) :
    Calls Try.prog 3 #[.slice A n c] w fun e w' => e = .returned (.bool true) ∧ Below w.heap.size w w' := by
  have H := hid h
  clear h
  by_cases hfew : fewB fs = true
  · have HF := hid hfew
    clear hfew
    go_enter Try.func3, Try.ntmps3
    go_wp2_with (first
      | (go_at_call 8; refine (first_any _).mono ?_; rintro e w1 ⟨rfl, hb1⟩; have HB1 := hid hb1; clear hb1)
      | (go_at_call 9; refine (few_any _ _ _ fs _ (H.out.below HB1.out) hn).mono ?_; rintro e w2 ⟨rfl, rfl⟩; rw [HF.out]))
    go_loopw [3] (fun i wr => ∃ k : Nat, k ≤ n ∧ i = .int .i64 k ∧ Below w.heap.size w wr) (fun i _ => n - (intOf i).toNat)
    case atStart => exact ⟨0, Nat.zero_le _, rfl, HB1.out⟩
    case round =>
      obtain ⟨k, hk, rfl, hb⟩ := hrel
      by_cases hlt : k < n
      · have hfr := H.out.below hb
        obtain ⟨b, o, rfl, hc⟩ := hfr.at_ (by omega)
        obtain ⟨x, hx⟩ : ∃ x, fs[k]? = some x := ⟨fs[k]'(by have := hfr.len; omega), List.getElem?_eq_getElem _⟩
        obtain ⟨c0, c1, c2, c3⟩ := hc k x hx
        have hbx := hfr.body x (List.mem_of_getElem? hx)
        have HBX := hid hbx
        have HB := hid hb
        have HC := hid hc
        have HX := hid hx
        have HFR := hid hfr
        clear hbx hb hc hx hfr
        go_wp2_with (first
          | (go_at_call 10; refine (put_any x.k x.f x.s x.A x.n x.c x.l _ HBX.out).mono ?_; rintro e w3 ⟨A3, n3, c3', rfl, hown3, hb3⟩; have c0' := below_keep hb3 _ _ c0; have c1' := below_keep hb3 _ _ c1; have c2' := below_keep hb3 _ _ c2; have c3'' := below_keep hb3 _ _ c3; have HB3 := hid hb3; have HO3 := hid hown3; clear hb3 hown3 c0 c1 c2 c3)
          | (go_at_call 11; refine (putref_any x.k x.f x.s x.A x.n x.c x.l _ (HBX.out.below HB3.out)).mono ?_; rintro e w4 ⟨A4, n4, c4', rfl, hown4, hb4⟩; have c0 := below_keep hb4 _ _ c0'; have c1 := below_keep hb4 _ _ c1'; have c2 := below_keep hb4 _ _ c2'; have c3 := below_keep hb4 _ _ c3''; have HB4 := hid hb4; have HO4 := hid hown4; clear hb4 hown4 c0' c1' c2' c3''))
        have hbA := (Bs.of_own HO3.out).below HB4.out
        have hbB := Bs.of_own HO4.out
        have hbX := (HBX.out.below HB3.out).below HB4.out
        have HBA := hid hbA
        have HBB := hid hbB
        have HBX4 := hid hbX
        have hself := sameB_self x
        have hb0 := Below.refl w4.heap.size w4
        have hs0 := Nat.le_refl w4.heap.size
        clear hbA hbB hbX
        have hld : ∀ w', Below w4.heap.size w4 w' → (Instr.loadAt 30 (.pointer (some ⟨b, o + k * 4, none⟩))).run Try.prog w' = .ok (fv x.k x.f x.s x.A x.n x.c) w' := fun w' hb =>
          load_frame (below_keep hb _ _ c0) (below_keep hb _ _ c1) (below_keep hb _ _ c2) (below_keep hb _ _ c3)
        have HLD := hid hld
        have hB4 : Below wr.heap.size wr w4 := HB3.out.trans (HB4.out.mono HB3.out.size)
        have HBW4 := hid hB4
        clear hld c0 c1 c2 c3 hB4
        by_cases hk0 : k = 0
        · have hki : (k : Int) ≤ 0 := by omega
          clear hk0
          refine wp_mixS ?_ ?_ ?_
          · kernel_rfl
          · kernel_rfl
          intro KK hKK
          go_wp2_with (first
            | (with_reducible refine mix_nil ?_)
            | ((with_reducible refine mixS_load HLD.out ?_ ?_ ?_); (focus rfl); (focus rfl))
            | ((with_reducible refine mixS_on ?_ ?_); (focus rfl); intro K K' hK hK'; go_simp)
            | ((with_reducible refine mixS_off ?_ ?_); (focus rfl); intro K hK; go_simp)
            | ((with_reducible refine mixS_step ?_); intro K K' hK hK'; go_simp)
            | ((with_reducible refine And.intro ?_ ?_); (focus (go_grown; done)))
            | (go_at_call 12; refine (bytes_any _ _ _ _ _ _ _ _ _ (HBA.out.below ?_) (HBB.out.below ?_)).mono ?_; (focus (go_grown; done)); (focus (go_grown; done)); rintro e w5 ⟨rfl, rfl⟩)
            | (go_at_call 13; (with_reducible refine (same_any x.k x.f x.s x.k x.f x.s _ _ _ _ _ _ x.l x.l _ (HBX4.out.below ?_) (HBX4.out.below ?_)).mono ?_); (focus (go_grown; done)); (focus (go_grown; done)); rintro e w6 ⟨rfl, hb6⟩; refine (have hbn6 : Below w4.heap.size w4 w6 := ?_; ?_); (focus (refine below_then ?_ ?_ hb6 <;> (go_grown; done))); have hsn6 := hbn6.size))
          go_wp2_with fail
          all_goals go_roundw
          case rel => exact ⟨k + 1, by omega, by go_num, HB.out.trans ((HBW4.out.trans (hbn6.mono HBW4.out.size)).mono HB.out.size)⟩
          case measure => simp [intOf]; omega
        · have hki : (0 : Int) < (k : Int) := by omega
          obtain ⟨y, hy⟩ : ∃ y, fs[k - 1]? = some y := ⟨fs[k - 1]'(by have := HFR.out.len; omega), List.getElem?_eq_getElem _⟩
          obtain ⟨d0, d1, d2, d3⟩ := HC.out (k - 1) y hy
          have hldy : ∀ w', Below w4.heap.size w4 w' → (Instr.loadAt 30 (.pointer (some ⟨b, o + (k - 1) * 4, none⟩))).run Try.prog w' = .ok (fv y.k y.f y.s y.A y.n y.c) w' := fun w' hb =>
            have hb' := below_keep (HBW4.out.trans (hb.mono HBW4.out.size))
            load_frame (hb' _ _ d0) (hb' _ _ d1) (hb' _ _ d2) (hb' _ _ d3)
          have HLDY := hid hldy
          have hby := (HFR.out.body y (List.mem_of_getElem? hy)).below HBW4.out
          have HBY := hid hby
          have hw1 : IntKind.i64.wrap ((k : Int) - 1) = (k : Int) - 1 := IntWalk.i64_in _ (by omega)
          have hw2 : ((k : Int) - 1).toNat = k - 1 := by omega
          have hw3 : (0 : Int) ≤ (k : Int) - 1 := by omega
          have hw4 : (1 : Int) ≤ (k : Int) := by omega
          have hw5 : (k : Int) - 1 < (n : Int) := by omega
          clear hldy hby hy d0 d1 d2 d3 hk0
          refine wp_mixS ?_ ?_ ?_
          · kernel_rfl
          · kernel_rfl
          intro KK hKK
          go_wp2_with (first
            | (with_reducible refine mix_nil ?_)
            | ((with_reducible refine mixS_load HLD.out ?_ ?_ ?_); (focus rfl); (focus rfl))
            | ((with_reducible refine mixS_load HLDY.out ?_ ?_ ?_); (focus rfl); (focus rfl))
            | ((with_reducible refine mixS_on ?_ ?_); (focus rfl); intro K K' hK hK'; go_simp)
            | ((with_reducible refine mixS_off ?_ ?_); (focus rfl); intro K hK; go_simp)
            | ((with_reducible refine mixS_step ?_); intro K K' hK hK'; go_simp)
            | ((with_reducible refine And.intro ?_ ?_); (focus (go_grown; done)))
            | (go_at_call 12; refine (bytes_any _ _ _ _ _ _ _ _ _ (HBA.out.below ?_) (HBB.out.below ?_)).mono ?_; (focus (go_grown; done)); (focus (go_grown; done)); rintro e w5 ⟨rfl, rfl⟩)
            | (go_at_call 13; (with_reducible refine (same_any x.k x.f x.s x.k x.f x.s _ _ _ _ _ _ x.l x.l _ (HBX4.out.below ?_) (HBX4.out.below ?_)).mono ?_); (focus (go_grown; done)); (focus (go_grown; done)); rintro e w6 ⟨rfl, hb6⟩; refine (have hbn6 : Below w4.heap.size w4 w6 := ?_; ?_); (focus (refine below_then ?_ ?_ hb6 <;> (go_grown; done))); have hsn6 := hbn6.size)
            | (go_at_call 13; (with_reducible refine (same_any x.k x.f x.s y.k y.f y.s _ _ _ _ _ _ x.l y.l _ (HBX4.out.below ?_) (HBY.out.below ?_)).mono ?_); (focus (go_grown; done)); (focus (go_grown; done)); rintro e w6 ⟨rfl, hb6⟩; refine (have hbn6 : Below w4.heap.size w4 w6 := ?_; ?_); (focus (refine below_then ?_ ?_ hb6 <;> (go_grown; done))); have hsn6 := hbn6.size)
            | (go_at_call 14; (with_reducible refine (same_ref x.k x.f x.s y.k y.f y.s _ _ _ _ _ _ x.l y.l _ (HBX4.out.below ?_) (HBY.out.below ?_)).mono ?_); (focus (go_grown; done)); (focus (go_grown; done)); rintro e w6 ⟨rfl, hb6⟩; refine (have hbn6 : Below w4.heap.size w4 w6 := ?_; ?_); (focus (refine below_then ?_ ?_ hb6 <;> (go_grown; done))); have hsn6 := hbn6.size))
          go_wp2_with fail
          all_goals go_roundw
          case rel => exact ⟨k + 1, by omega, by go_num, HB.out.trans ((HBW4.out.trans (hbn6.mono HBW4.out.size)).mono HB.out.size)⟩
          case measure => simp [intOf]; omega
      · have HB := hid hb
        clear hb
        go_wp2_with (go_at_call 8; refine (first_any _).mono ?_; rintro e w3 ⟨rfl, hb3⟩; have HB3 := hid hb3; clear hb3)
        go_ret
        exact ⟨rfl, HB.out.trans (HB3.out.mono HB.out.size)⟩
  · have HF := hid (show fewB fs = false by simpa using hfew)
    clear hfew
    go_enter Try.func3, Try.ntmps3
    go_wp2_with fail
    refine (first_any _).mono ?_
    rintro e w1 ⟨rfl, hb1⟩
    have HB1 := hid hb1
    clear hb1
    go_wp2_with fail
    refine (few_any _ _ _ fs _ (H.out.below HB1.out) hn).mono ?_
    rintro e w2 ⟨rfl, rfl⟩
    rw [HF.out]
    go_wp2_with fail
    refine (first_any _).mono ?_
    rintro e w3 ⟨rfl, hb3⟩
    have HB3 := hid hb3
    clear hb3
    go_wp2_with fail
    go_ret
    exact ⟨rfl, HB1.out.trans (HB3.out.mono HB1.out.size)⟩
end Go.Proofs.Ytakkabilpjjmgaa
