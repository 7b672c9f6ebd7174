/- The law PartReads walked. Condition: at most 2^47 frames. -/
import Derived.Test.YtdiahjeplaegnaaPartRd4
import Derived.Test.YtdiahjeplaegnaaPartSame
import Derived.Test.YtdiahjeplaegnaaPartFrs
import Derived.Test.YtdiahjeplaegnaaPartFirst
namespace Go.Proofs.Ytdiahjeplaegnaa
open Go.RowKit
attribute [local go_sem] kd kdS if_min if_max if_minN if_maxN
attribute [local go_sem ↓] sliced_word
attribute [local go_sem] offA_zero

set_option maxHeartbeats 4000000 in
set_option maxRecDepth 100000 in
theorem reads_walk (A : Option Addr) (n c : Nat) (fs : List Fr) (w : World) (hs : Frs w A n fs) (hn : n ≤ 140737488355328) :
    Calls Try.prog 3 #[.slice A n c] w fun e w' => e = .returned (.bool true) ∧ Below w.heap.size w w' := by
  have HS := hid hs
  clear hs
  have HF := hid (few_any A n c fs)
  rcases hf : fewB fs with _ | _
  · rw [hf] at HF
    clear hf
    go_enter Try.func3, Try.ntmps3
    go_wp2_with fail
    refine (first_any w).mono ?_
    rintro e w1 ⟨rfl, hb1⟩
    have HB1 := hid hb1
    clear hb1
    go_wp2_with fail
    refine (HF.out w1 (HS.out.below (HB1.out.mono (Nat.le_refl _))) hn).mono ?_
    rintro e w3 ⟨rfl, rfl⟩
    go_wp2_with fail
    refine (first_any _).mono ?_
    rintro e w4 ⟨rfl, hb4⟩
    have HB4 := hid (HB1.out.trans (hb4.mono HB1.out.size))
    clear hb4 HB1
    go_wp2_with fail
    go_ret
    exact ⟨rfl, HB4.out⟩
  · have hle := fewB_le hf
    rw [hf] at HF
    clear hf
    go_enter Try.func3, Try.ntmps3
    go_wp2_with fail
    refine (first_any w).mono ?_
    rintro e w1 ⟨rfl, hb1⟩
    have HB1 := hid hb1
    clear hb1
    go_wp2_with fail
    refine (HF.out w1 (HS.out.below (HB1.out.mono (Nat.le_refl _))) hn).mono ?_
    rintro e w3 ⟨rfl, rfl⟩
    have hlen := HS.out.len
    have hle1 := hle.1
    have HL2 := hid hle.2
    clear hle
    go_wp2_with fail
    go_loopw [3] (fun i wr => ∃ k : Nat, k ≤ n ∧ i = .int .i64 k ∧ Below w.heap.size w wr) (fun i _ => n - (intOf i).toNat)
    case atStart => exact ⟨0, Nat.zero_le _, rfl, HB1.out⟩
    case round =>
      obtain ⟨k, hk, rfl, hb⟩ := hrel
      have HB := hid hb
      clear hb HB1
      by_cases hkn : k < n
      · obtain ⟨b, o, rfl, hc⟩ := (HS.out.below (HB.out.mono (Nat.le_refl _))).at_ (by omega)
        obtain ⟨x, hx⟩ : ∃ x, fs[k]? = some x := ⟨fs[k]'(by omega), List.getElem?_eq_getElem _⟩
        obtain ⟨h0, h1, h2, h3⟩ := hc k x hx
        have hsum := fewSum_succ hx
        have hsum2 := fewSum_mono fs (k := k + 1) (by omega)
        obtain ⟨hbx, hbc⟩ := HS.out.body x (List.mem_of_getElem? hx)
        have hnx : x.n ≤ 40000 := by have := HL2.out; omega
        have HBX := hid hbx
        have H0 := hid (And.intro h0 (And.intro h1 (And.intro h2 h3)))
        have hsl : (readP x.k x.f x.s x.l).sets.length ≤ 40000 := by
          have h1 := readP_sets x.k x.f x.s x.l
          have h2 := hbx.len
          omega
        clear hc hx hbx hsum hsum2
        go_wp2_with fail
        refine (read_any x.k x.f x.s x.A x.n x.c x.l wr (HBX.out.below HB.out) hbc (by omega)).mono ?_
        have hR := rread_any x.k x.f x.s x.A x.n x.c x.l
        generalize readP x.k x.f x.s x.l = P at hsl hR ⊢
        have HR := hid hR
        clear hR
        rintro e w2 ⟨Ad, nd, cd, As, ns, cs, rfl, hbd, hst, had, has, hb2⟩
        have hns : ns ≤ 40000 := by have := hst.len; omega
        unfold pv ft
        have H1 := hid (And.intro hbd hst)
        have HB2 := hid hb2
        clear hbd hst had has hb2 h0 h1 h2 h3
        go_upto_region 9 with fail
        obtain ⟨wa, hwa⟩ : ∃ wa, (w2.alloc (.cells #[.slice Ad nd cd, .int .i64 P.pad, .int .i64 P.code, .int .i64 P.last, .int .i64 P.step, .slice As ns cs, .bool P.e, .bool P.a, .bool P.w] 28)).alloc (.cells #[.bool P.bad, .bool P.conn, .int .i64 P.fc] 30) = wa := ⟨_, rfl⟩
        have hb2' : Below w.heap.size w w2 := HB.out.trans (HB2.out.mono HB.out.size)
        have hba : Below w2.heap.size w2 wa := by rw [← hwa]; exact ((Below.refl _ _).alloc (Nat.le_refl _) _).alloc (by simp) _
        have hP1 : Blk wa w2.heap.size 28 #[.slice Ad nd cd, .int .i64 P.pad, .int .i64 P.code, .int .i64 P.last, .int .i64 P.step, .slice As ns cs, .bool P.e, .bool P.a, .bool P.w] := by rw [← hwa]; exact (Blk.new w2 _ _).alloc _
        have hX1 : Blk wa (w2.heap.size + 1) 30 #[.bool P.bad, .bool P.conn, .int .i64 P.fc] := by
          rw [← hwa]
          have := Blk.new (w2.alloc (.cells #[.slice Ad nd cd, .int .i64 P.pad, .int .i64 P.code, .int .i64 P.last, .int .i64 P.step, .slice As ns cs, .bool P.e, .bool P.a, .bool P.w] 28)) 30 #[.bool P.bad, .bool P.conn, .int .i64 P.fc]
          simpa using this
        rw [hwa]
        have HBA := hid (hb2'.trans (hba.mono hb2'.size))
        have HPA := hid (And.intro (H1.out.1.below hba) (Rd.below H1.out.2 hba))
        have HP1 := hid hP1
        have HX1 := hid hX1
        obtain ⟨g0, g1, g2, g3⟩ := H0.out
        have hwa2 : Below wr.heap.size wr wa := HB2.out.trans (hba.mono HB2.out.size)
        have g0 := below_keep hwa2 _ _ g0
        have g1 := below_keep hwa2 _ _ g1
        have g2 := below_keep hwa2 _ _ g2
        have g3 := below_keep hwa2 _ _ g3
        generalize w2.heap.size = p1 at HP1 HX1 ⊢
        clear hwa hb2' hba hP1 hX1 hwa2 HB2 H1
        go_wp2_with fail
        refine (HR.out wa (HBX.out.below HBA.out) hbc (by omega)).mono ?_
        rintro e w3 ⟨Ad2, nd2, cd2, As2, ns2, cs2, rfl, hbd, hst, had, has, hb3⟩
        unfold pv ft
        have H3 := hid (And.intro hbd hst)
        have HP3 := hid (HP1.out.below hb3 HP1.out.lt)
        have HX3 := hid (HX1.out.below hb3 HX1.out.lt)
        have HP4 := hid (And.intro (HPA.out.1.below hb3) (Rd.below HPA.out.2 hb3))
        have HB3 := hid (HBA.out.trans (hb3.mono HBA.out.size))
        clear hbd hst had has hb3 g0 g1 g2 g3 HP1 HX1 HPA HBA
        go_upto_region 10 with fail
        obtain ⟨wb, hwb⟩ : ∃ wb, (w3.alloc (.cells #[.slice Ad2 nd2 cd2, .int .i64 P.pad, .int .i64 P.code, .int .i64 P.last, .int .i64 P.step, .slice As2 ns2 cs2, .bool P.e, .bool P.a, .bool P.w] 28)).alloc (.cells #[.bool P.bad, .bool P.conn, .int .i64 P.fc] 30) = wb := ⟨_, rfl⟩
        have hbb : Below w3.heap.size w3 wb := by rw [← hwb]; exact ((Below.refl _ _).alloc (Nat.le_refl _) _).alloc (by simp) _
        have hP2 : Blk wb w3.heap.size 28 #[.slice Ad2 nd2 cd2, .int .i64 P.pad, .int .i64 P.code, .int .i64 P.last, .int .i64 P.step, .slice As2 ns2 cs2, .bool P.e, .bool P.a, .bool P.w] := by rw [← hwb]; exact (Blk.new w3 _ _).alloc _
        have hX2 : Blk wb (w3.heap.size + 1) 30 #[.bool P.bad, .bool P.conn, .int .i64 P.fc] := by
          rw [← hwb]
          have := Blk.new (w3.alloc (.cells #[.slice Ad2 nd2 cd2, .int .i64 P.pad, .int .i64 P.code, .int .i64 P.last, .int .i64 P.step, .slice As2 ns2 cs2, .bool P.e, .bool P.a, .bool P.w] 28)) 30 #[.bool P.bad, .bool P.conn, .int .i64 P.fc]
          simpa using this
        rw [hwb]
        have HBB := hid (HB3.out.trans (hbb.mono HB3.out.size))
        have HQ1 := hid (And.intro (HP4.out.1.below hbb) (Rd.below HP4.out.2 hbb))
        have HQ2 := hid (And.intro (H3.out.1.below hbb) (Rd.below H3.out.2 hbb))
        obtain ⟨p0, p1', p2, p3, p4, p5, p6, p7, p8, _, _, _⟩ := blk9 (HP3.out.below hbb HP3.out.lt)
        obtain ⟨q0, q1, q2, q3, q4, q5, q6, q7, q8, _, _, _⟩ := blk9 hP2
        have x0 : wb.cell? ⟨p1 + 1, 0, none⟩ = some (.bool P.bad) := (HX3.out.below hbb HX3.out.lt).cell 0
        have x1 : wb.cell? ⟨p1 + 1, 1, none⟩ = some (.bool P.conn) := (HX3.out.below hbb HX3.out.lt).cell 1
        have x2 : wb.cell? ⟨p1 + 1, 2, none⟩ = some (.int .i64 P.fc) := (HX3.out.below hbb HX3.out.lt).cell 2
        have y0 : wb.cell? ⟨w3.heap.size + 1, 0, none⟩ = some (.bool P.bad) := hX2.cell 0
        have y1 : wb.cell? ⟨w3.heap.size + 1, 1, none⟩ = some (.bool P.conn) := hX2.cell 1
        have y2 : wb.cell? ⟨w3.heap.size + 1, 2, none⟩ = some (.int .i64 P.fc) := hX2.cell 2
        generalize w3.heap.size = p2' at q0 q1 q2 q3 q4 q5 q6 q7 q8 y0 y1 y2 ⊢
        clear hwb hbb hP2 hX2 HP3 HX3 HP4 H3 HB3
        have hs2 := same_part P wb Ad nd cd As ns cs Ad2 nd2 cd2 As2 ns2 cs2 HQ1.out.1 HQ2.out.1 (by omega) HQ1.out.2 HQ2.out.2
        unfold pv at hs2
        have HS2 := hid hs2
        clear hs2
        rcases hbad : P.bad with _ | _
        · rw [hbad] at x0 y0
          go_wp2_with fail
          refine HS2.out.mono ?_
          rintro e w5 ⟨rfl, hb5⟩
          have HB5 := hid (HBB.out.trans (hb5.mono HBB.out.size))
          clear hb5 p0 p1' p2 p3 p4 p5 p6 p7 p8 q0 q1 q2 q3 q4 q5 q6 q7 q8 x0 x1 x2 y0 y1 y2
          go_wp2_with fail
          go_roundw
          case rel => exact ⟨k + 1, by omega, by go_num, HB5.out⟩
          case measure => simp [intOf]; omega
        · rw [hbad] at x0 y0
          go_wp2_with fail
          go_roundw
          case rel => exact ⟨k + 1, by omega, by go_num, HBB.out⟩
          case measure => simp [intOf]; omega
      · obtain rfl : k = n := by omega
        go_wp2_with fail
        refine (first_any _).mono ?_
        rintro e w4 ⟨rfl, hb4⟩
        have HB4 := hid (HB.out.trans (hb4.mono HB.out.size))
        clear hb4 HB
        go_wp2_with fail
        go_ret
        exact ⟨rfl, HB4.out⟩
end Go.Proofs.Ytdiahjeplaegnaa
