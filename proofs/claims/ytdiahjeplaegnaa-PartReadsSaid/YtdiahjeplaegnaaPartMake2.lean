/- The frames of settings and of the end of a connection, as the package part makes them. Conditions: at most 2^40 settings. -/
import Derived.Test.YtdiahjeplaegnaaPartMake
import Derived.Test.YtdiahjeplaegnaaMixZ
namespace Go.Proofs.Ytdiahjeplaegnaa
open Go.RowKit
attribute [local go_sem] kd kdS
attribute [local go_sem ↓] sliced_word

def setB (x : Int × Int) : List UInt8 := numB x.1 2 2 ++ numB x.2 4 4
def setBs (l : List (Int × Int)) : List UInt8 := l.flatMap setB
theorem setB_len (x : Int × Int) : (setB x).length = 6 := by simp [setB, numB_len]
theorem setBs_len (l : List (Int × Int)) : (setBs l).length = 6 * l.length := by
  induction l with
  | nil => rfl
  | cons x l ih =>
    have : setBs (x :: l) = setB x ++ setBs l := rfl
    rw [this, List.length_append, ih, setB_len, List.length_cons]
    omega
theorem setBs_succ {l : List (Int × Int)} {k : Nat} {x : Int × Int} (h : l[k]? = some x) : (setBs (l.take (k + 1))).map bv = (setBs (l.take k)).map bv ++ (numB x.1 2 2).map bv ++ (numB x.2 4 4).map bv := by
  unfold setBs
  rw [List.take_add_one, h, List.flatMap_append, List.map_append, List.append_assoc, ← List.map_append]
  simp [setB]
theorem Sts.at_ {w : World} {A : Option Addr} {n : Nat} {l : List (Int × Int)} (h : Sts w A n l) {i : Nat} (hi : i < n) : ∃ b o x, A = some ⟨b, o, none⟩ ∧ l[i]? = some x ∧ w.cell? ⟨b, o + i * 2, none⟩ = some (.int .i64 x.1) ∧ w.cell? ⟨b, o + i * 2 + 1, none⟩ = some (.int .i64 x.2) := by
  obtain ⟨b, o, e, hc⟩ := h.2 (by omega)
  have hl : i < l.length := by have := h.len; omega
  have key : ∀ (l : List (Int × Int)) (i : Nat) (hi : i < l.length), (setCells l)[i * 2]? = some (.int .i64 l[i].1) ∧ (setCells l)[i * 2 + 1]? = some (.int .i64 l[i].2) := by
    intro l
    induction l with
    | nil => intro i hi; simp at hi
    | cons x l ih =>
      intro i hi
      have e : setCells (x :: l) = [.int .i64 x.1, .int .i64 x.2] ++ setCells l := rfl
      cases i with
      | zero => rw [e]; exact ⟨rfl, rfl⟩
      | succ i =>
        have := ih i (by simpa using hi)
        rw [e, show (i + 1) * 2 = 2 + i * 2 by omega, show 2 + i * 2 + 1 = 2 + (i * 2 + 1) by omega]
        refine ⟨?_, ?_⟩
        · rw [List.getElem?_append_right (by simp)]
          simpa using this.1
        · rw [List.getElem?_append_right (by simp)]
          simpa using this.2
  obtain ⟨k0, k1⟩ := key l i hl
  exact ⟨b, o, l[i], e, List.getElem?_eq_getElem hl, hc _ _ k0, by rw [Nat.add_assoc]; exact hc _ _ k1⟩
theorem Turned.app2 {w w1 w2 w3 : World} {A A2 : Option Addr} {n c n2 c2 : Nat} (h : Turned (rowF A) w w2) (hg : w2.grownBy w3 (Value.slice A2 n2 c2).ownBlock) (hc : (Value.slice A2 n2 c2).ownBlock = (Value.slice A n c).ownBlock ∨ (Value.slice A2 n2 c2).ownBlock = some w1.heap.size) (hs : w.heap.size ≤ w1.heap.size) : Turned (rowF A) w w3 :=
  h.grown hg (fun k hk => by
    rcases hc with h1 | h1
    · exact .inl (rowF_own (h1 ▸ hk))
    · rw [h1] at hk
      injection hk with hk
      exact .inr (by omega))

theorem bits2 (v : Int) (w : World) : Calls Try.prog 30 #[.int .i64 v, .int .i64 2] w fun e w' =>
      ∃ A c, e = .returned (.slice A 2 c) ∧ w'.ownsRow w.heap.size 5 1 (.slice A 2 c) 2 ((numB v 2 2).map bv) ∧ Below w.heap.size w w' := bits_any v 2 w (by omega)
theorem bits4 (v : Int) (w : World) : Calls Try.prog 30 #[.int .i64 v, .int .i64 4] w fun e w' =>
      ∃ A c, e = .returned (.slice A 4 c) ∧ w'.ownsRow w.heap.size 5 1 (.slice A 4 c) 4 ((numB v 4 4).map bv) ∧ Below w.heap.size w w' := bits_any v 4 w (by omega)
set_option maxHeartbeats 400000 in
theorem flag_no (n : Int) (w : World) : Calls Try.prog 29 #[.bool false, .int .i64 n] w fun e w' => e = .returned (.int .i64 0) ∧ w = w' := by
  go_enter Try.func29, Try.ntmps29
  go_wp2_with fail
  go_ret
  exact ⟨rfl, rfl⟩

set_option maxHeartbeats 2000000 in
set_option maxRecDepth 100000 in
theorem settings_make (A : Option Addr) (n c : Nat) (l : List (Int × Int)) (w : World) (h : Sts w A n l) (hn : n ≤ 1099511627776) :
    Calls Try.prog 12 #[.slice A n c, .bool false] w (MadePost 4 0 (setBs l) w) := by
  have hlen := h.len
  have H := hid h
  clear h
  obtain ⟨i0, hi0, hz0, hz1, hz2⟩ := info_parts u8_info
  have hi := hid hi0
  have hz := hid hz0
  have hsz := hid hz1
  have hby := hid hz2
  clear hi0 hz0 hz1 hz2
  go_enter Try.func12, Try.ntmps12
  go_upto_region 2 with (go_at_call 29; refine (flag_no 1 _).mono ?_; rintro e w1 ⟨rfl, rfl⟩)
  have hk1 : Blk ((w.alloc (.cells #[.int .i64 0, .int .i64 0, .int .i64 0, .slice none 0 0] 34)).alloc (.cells #[.int .i64 4, .int .i64 0, .int .i64 0, .slice none 0 0] 34)) w.heap.size 34 #[.int .i64 0, .int .i64 0, .int .i64 0, .slice none 0 0] := (Blk.new w _ _).alloc _
  have hk2 : Blk ((w.alloc (.cells #[.int .i64 0, .int .i64 0, .int .i64 0, .slice none 0 0] 34)).alloc (.cells #[.int .i64 4, .int .i64 0, .int .i64 0, .slice none 0 0] 34)) (w.heap.size + 1) 34 #[.int .i64 4, .int .i64 0, .int .i64 0, .slice none 0 0] := by
    have := Blk.new (w.alloc (.cells #[.int .i64 0, .int .i64 0, .int .i64 0, .slice none 0 0] 34)) 34 #[.int .i64 4, .int .i64 0, .int .i64 0, .slice none 0 0]
    rw [World.size_alloc] at this
    exact this
  have hbw : Below w.heap.size w ((w.alloc (.cells #[.int .i64 0, .int .i64 0, .int .i64 0, .slice none 0 0] 34)).alloc (.cells #[.int .i64 4, .int .i64 0, .int .i64 0, .slice none 0 0] 34)) := ((Below.refl _ _).alloc (Nat.le_refl _) _).alloc (by simp) _
  generalize (w.alloc (.cells #[.int .i64 0, .int .i64 0, .int .i64 0, .slice none 0 0] 34)).alloc (.cells #[.int .i64 4, .int .i64 0, .int .i64 0, .slice none 0 0] 34) = W at hk1 hk2 hbw ⊢
  have HK1 := hid hk1
  have HK2 := hid hk2
  have HBW := hid hbw
  clear hk1 hk2 hbw
  go_wp2_with fail
  go_loopw [13] (fun i wr => ∃ (k : Nat) (A5 : Option Addr) (c5 : Nat), k ≤ n ∧ i = .int .i64 k ∧ Blk wr w.heap.size 34 #[.int .i64 0, .int .i64 0, .int .i64 0, .slice none 0 0] ∧ Blk wr (w.heap.size + 1) 34 #[.int .i64 4, .int .i64 0, .int .i64 0, .slice A5 (6 * k) c5] ∧ wr.ownsRow (w.heap.size + 2) 5 1 (.slice A5 (6 * k) c5) (6 * k) ((setBs (l.take k)).map bv) ∧ Below w.heap.size w wr) (fun i _ => n - (intOf i).toNat)
  case atStart => exact ⟨0, none, 0, Nat.zero_le _, rfl, HK1.out, HK2.out, World.ownsRow_nil _ _ _ _, HBW.out⟩
  case round =>
    obtain ⟨k, A5, c5, hk, rfl, hk1, hk2, hown, hb⟩ := hrel
    have HK1 := hid hk1
    have HK2 := hid hk2
    have HOW := hid hown
    have HB := hid hb
    have h2lt := hk2.lt
    clear hk1 hk2 hown hb HBW
    by_cases hlt : k < n
    · obtain ⟨b, o, x, rfl, hx, hc0, hc1⟩ := (show Sts wr A n l from Rd.below H.out HB.out).at_ hlt
      have HX := hid hx
      clear hx
      go_upto_region 5 with fail
      have hlw := HB.out.size
      obtain ⟨V, hV⟩ : ∃ V, wr.alloc (.cells #[.int .i64 x.1, .int .i64 x.2] 40) = V := ⟨_, rfl⟩
      have hbV : Below wr.heap.size wr V := by rw [← hV]; exact (Below.refl _ _).alloc (Nat.le_refl _) _
      have HKX : Hid (Blk V wr.heap.size 40 #[.int .i64 x.1, .int .i64 x.2]) := hid (by rw [← hV]; exact Blk.new wr _ _)
      have HK1 := hid (HK1.out.below hbV HK1.out.lt)
      have HK2 := hid (HK2.out.below hbV HK2.out.lt)
      have HOV := hid (own_below HOW.out hbV)
      have HBV := hid (HB.out.trans (hbV.mono hlw))
      rw [hV]
      clear hV hbV hc0 hc1
      have hXlt := HKX.out.lt
      generalize hqx : wr.heap.size = q at HKX hXlt h2lt hlw ⊢
      have hge := rowF_ge HOV.out
      have hqF : q ∉ rowF A5 := fun hm => by
        rcases A5 with _ | ad
        · cases hm
        · have e : q = ad.block := by simpa [rowF] using hm
          have := (HOW.out.lt ad.block rfl).2
          omega
      have h2F : w.heap.size + 1 ∉ rowF A5 := fun hm => by have := hge _ hm; omega
      have h1F : w.heap.size ∉ rowF A5 := fun hm => by have := hge _ hm; omega
      have H1F := hid h1F
      have H2F := hid h2F
      have HGE := hid hge
      have hsV : w.heap.size + 2 ≤ V.heap.size := by omega
      have x0 := HKX.out.cell 0
      have x1 := HKX.out.cell 1
      have y3 := HK2.out.cell 3
      simp at x0 x1 y3
      have LS : Hid (∀ w', Turned (rowF A5) V w' → (Instr.loadAt 25 (.pointer (some ⟨w.heap.size + 1, 3, none⟩))).run Try.prog w' = .ok (.slice A5 (6 * k) c5) w') := hid fun w' ht => by
        have z := ht.cell y3 h2F
        clear x0 x1 y3
        go_simp
      have L0 : Hid (∀ w', Turned (rowF A5) V w' → (Instr.loadAt 3 (.pointer (some ⟨q, 0, none⟩))).run Try.prog w' = .ok (.int .i64 x.1) w') := hid fun w' ht => by
        have z := ht.cell x0 hqF
        clear x0 x1 y3
        go_simp
      have L1 : Hid (∀ w', Turned (rowF A5) V w' → (Instr.loadAt 3 (.pointer (some ⟨q, 1, none⟩))).run Try.prog w' = .ok (.int .i64 x.2) w') := hid fun w' ht => by
        have z := ht.cell x1 hqF
        clear x0 x1 y3
        go_simp
      have HSB := hid (show Turned (rowF A5) V V.drew from (Turned.refl _ _).drew)
      have HOB := hid (own_below HOV.out (Below.refl V.heap.size V).drew)
      have HSZ := hid hsV
      clear hge hqF h2F h1F x0 x1 y3 HKX hqx hsV
      (refine wp_mixZ (Turned (rowF A5) V) rfl ?_ ?_ (HSB.out) ?_; (focus kernel_rfl); (focus kernel_rfl); intro KK hKK; simp only [List.dropLast_cons_cons, List.dropLast_singleton]; go_wp2_with (first
                                           | (first
        | ((with_reducible refine mixS_load LS.out ?_ ?_ ?_); (focus rfl); (focus rfl))
        | ((with_reducible refine mixS_load L0.out ?_ ?_ ?_); (focus rfl); (focus rfl))
        | ((with_reducible refine mixS_load L1.out ?_ ?_ ?_); (focus rfl); (focus rfl))
        | (go_at_call 30; ((with_reducible refine (bits2 x.1 _).mono ?_); rintro e w1 ⟨A1, c1, rfl, ho1, hb1⟩; have HS1 := hid (HSB.out.then hb1); have HO1 := hid (own_below HOB.out hb1); have HR1 := hid (Bs.of_own ho1); have HZ1 := hid (Nat.le_trans HSZ.out hb1.size); have HT1 := hid hb1.size; clear ho1 hb1))
        | (go_at_call 30; ((with_reducible refine (bits4 x.2 _).mono ?_); rintro e w3 ⟨A3, c3, rfl, ho3, hb3⟩; have HS3 := hid (HS2.out.then hb3); have HO3 := hid (own_below HO2.out hb3); have HR3 := hid (Bs.of_own ho3); have HZ3 := hid (Nat.le_trans HZ2.out hb3.size); clear ho3 hb3))
        | ((with_reducible refine at_mapp ?_); ((refine mixS_app (w.heap.size + 2) 5 i0 _ 1 1 Try.underlying25 hi.out hz.out hsz.out hby.out rfl Nat.one_pos _ (6 * k) _ HO1.out A1 2 c1 _ HR1.out ?_ ?_ (bv_one _) ?_ ?_ HZ1.out ?_ ?_); (focus rfl); (focus rfl); (focus omega); (focus omega); (focus rfl); intro A2 c2 w2 ho2 hg2 hc2; have HS2 := hid (HS1.out.app hg2); have HO2 := hid ho2; have HC2 := hid hc2; have HZ2 := hid (Nat.le_trans HZ1.out hg2.size); clear ho2 hg2 hc2; refine ⟨HS2.out, ?_⟩))
        | ((with_reducible refine at_mapp ?_); ((refine mixS_app (w.heap.size + 2) 5 i0 _ 1 1 Try.underlying25 hi.out hz.out hsz.out hby.out rfl Nat.one_pos _ (6 * k + 2) _ HO3.out A3 4 c3 _ HR3.out ?_ ?_ (bv_one _) ?_ ?_ HZ3.out ?_ ?_); (focus rfl); (focus rfl); (focus omega); (focus omega); (focus rfl); intro A4 c4 w4 ho4 hg4 hc4; have HS4 := hid (HS3.out.app2 (w1 := w1) hg4 HC2.out HT1.out); have HO4 := hid ho4; have HK24 := hid (HK2.out.turned HS4.out H2F.out); have y3 := HK24.out.cell 3; have yf3 := HK24.out.frozen 3; clear ho4 hg4 hc4; refine ⟨HS4.out, ?_⟩))
        | ((with_reducible refine And.intro ?_ ?_); (focus (first | (with_reducible exact HSB.out) | (with_reducible exact HS1.out) | (with_reducible exact HS3.out))))
        | ((with_reducible refine mix_nil ?_); refine hKK _ _ HS4.out ?_; (with_reducible refine last_on ?_ ?_); (focus rfl); intro K hK; go_simp))
                                           | ((with_reducible refine mix_nil ?_); refine hKK _ _ (HSB.out) ?_; (with_reducible refine last_on ?_ ?_); (focus rfl); intro K hK; go_simp)
                                           | ((with_reducible refine mixS_on ?_ ?_); (focus rfl); intro K K' hK hK'; go_simp; (first | ((with_reducible refine hK _ _ ?_); clear hK hK' K K') | ((with_reducible refine hK' _ _ ?_); clear hK hK' K K') | skip))
                                           | ((with_reducible refine mixS_off ?_ ?_); (focus rfl); intro K hK; go_simp; (first | ((with_reducible refine hK _ _ ?_); clear hK K) | skip))
                                           | ((with_reducible refine mixS_step ?_); intro K K' hK hK'; go_simp; (first | ((with_reducible refine hK _ _ ?_); clear hK hK' K K') | ((with_reducible refine hK' _ _ ?_); clear hK hK' K K') | skip))))
      have HT := hid ((Turned.refl [w.heap.size + 1] w4).setCell (p := ⟨w.heap.size + 1, 3, none⟩) (by simp) (.slice A4 (6 * k + 2 + 4) c4))
      have HBS := hid (setBs_succ HX.out)
      go_roundw
      case rel => exact ⟨k + 1, A4, c4, by omega, by go_num, (HK1.out.turned HS4.out H1F.out).turned HT.out (by simp), by rw [show 6 * (k + 1) = 6 * k + 2 + 4 by omega]; exact HK24.out.set_ 3 _, by rw [HBS.out, show 6 * (k + 1) = 6 * k + 2 + 4 by omega]; exact own_turned HO4.out HT.out (fun b hb hm => by have := (HO4.out.lt b hb).1; simp at hm; omega), (HBV.out.trans (HS4.out.below (B := w.heap.size) (fun b hb => by have := HGE.out b hb; omega) HBV.out.size)).trans (HT.out.below (B := w.heap.size) (by simp) (Nat.le_trans HBV.out.size HS4.out.size))⟩
      case measure => simp [intOf]; omega
    · obtain rfl : k = n := by omega
      rw [List.take_of_length_le (by omega)] at HOW
      have k0 := HK1.out.cell 0
      have k1 := HK1.out.cell 1
      have k2 := HK1.out.cell 2
      have k3 := HK1.out.cell 3
      have f0 := HK1.out.frozen 0
      have f1 := HK1.out.frozen 1
      have f2 := HK1.out.frozen 2
      have f3 := HK1.out.frozen 3
      have j0 := HK2.out.cell 0
      have j1 := HK2.out.cell 1
      have j2 := HK2.out.cell 2
      have j3 := HK2.out.cell 3
      simp at k0 k1 k2 k3 j0 j1 j2 j3
      go_wp2_with fail
      refine frame_end 4 Try.results12 rfl HK1.out rfl ?_
      intro w' ht
      have HL := setBs_len l
      rw [hlen] at HL
      have ho := own_turned HOW.out ht (fun b hb hm => by have := (HOW.out.lt b hb).1; simp at hm; omega)
      unfold MadePost
      rw [HL]
      exact ⟨A5, c5, rfl, Bs.of_own ho, own_le ho, HB.out.trans (ht.below (B := w.heap.size) (by simp) HB.out.size)⟩
end Go.Proofs.Ytdiahjeplaegnaa
