/- The law PintShort walked. -/
import Derived.Test.YtbbjhmhinbmhgaaPintBack
namespace Go.Proofs.Ytbbjhmhinbmhgaa
open Go.RowKit

theorem chain_last : ∀ (t : List UInt8) (j : Nat), chain t → t.length = j + 1 → ∃ x, t[j]? = some x ∧ x.toNat < 128 ∧ chain (t.set j (UInt8.ofNat (x.toNat + 128)) ++ [0]) ∧
    valOf (t.set j (UInt8.ofNat (x.toNat + 128)) ++ [0]) = valOf t ∧ ∀ y ∈ t.set j (UInt8.ofNat (x.toNat + 128)), 128 ≤ y.toNat
  | [], _, h, _ => h.elim
  | [x], j, h, hl => by
    have hj : j = 0 := by simpa using hl.symm
    subst hj
    rw [chain_one] at h
    have hx := byteN (x.toNat + 128) (by omega)
    refine ⟨x, rfl, h, ?_, ?_, ?_⟩
    · show chain [_, 0]
      rw [chain_more, chain_one, hx]
      exact ⟨by omega, by decide⟩
    · show valOf [_, 0] = valOf [x]
      simp only [valOf, hx]
      have : (0 : UInt8).toNat = 0 := rfl
      omega
    · intro y hy
      have hy : y = UInt8.ofNat (x.toNat + 128) := by simpa using hy
      rw [hy, hx]
      omega
  | x :: y :: t, j, h, hl => by
    obtain ⟨k, rfl⟩ : ∃ k, j = k + 1 := ⟨j - 1, by simp at hl; omega⟩
    rw [chain_more] at h
    obtain ⟨z, h1, h2, h3, h4, h5⟩ := chain_last (y :: t) k h.2 (by simpa using hl)
    refine ⟨z, by simpa using h1, h2, ?_, ?_, ?_⟩
    · show chain (x :: ((y :: t).set k _ ++ [0]))
      rw [chain, if_neg (by simp)]
      exact ⟨h.1, h3⟩
    · show valOf (x :: ((y :: t).set k _ ++ [0])) = _
      rw [valOf, h4]
      rfl
    · intro q hq
      have hq : q ∈ x :: (y :: t).set k (UInt8.ofNat (z.toNat + 128)) := hq
      rcases List.mem_cons.1 hq with rfl | hq
      · exact h.1
      · exact h5 q hq

theorem coded_pad {first bits n : Int} {L : List UInt8} {j : Nat} (h : Coded first bits n L) (hn : onesN bits ≤ n) (hl : L.length = j + 1) :
    ∃ x, L[j]? = some x ∧ x.toNat < 128 ∧ (j < 5 → Coded first bits n (L.set j (UInt8.ofNat (x.toNat + 128)) ++ [0])) := by
  obtain ⟨hd, t, rfl, e1, e2, e3⟩ := h
  obtain ⟨k1, k2, k3⟩ := e3 hn
  have ht : t ≠ [] := by rintro rfl; exact k1
  have := List.length_pos_iff.2 ht
  simp only [List.length_cons] at hl
  obtain ⟨k, rfl⟩ : ∃ k, j = k + 1 := ⟨j - 1, by omega⟩
  obtain ⟨x, h1, h2, h3, h4, h5⟩ := chain_last t k k1 (by omega)
  refine ⟨x, by simpa using h1, h2, fun hj => ⟨hd, t.set k (UInt8.ofNat (x.toNat + 128)) ++ [0], rfl, e1, fun h => by omega, fun _ => ⟨h3, by rw [h4]; exact k2, by simp; omega⟩⟩⟩

theorem coded_over {first bits n : Int} {L : List UInt8} {x : UInt8} (h : Coded first bits n L) (hb1 : 1 ≤ bits) (hb2 : bits ≤ 8) (hn0 : 0 ≤ n) (hn : onesN bits ≤ n) (hl : L.length = 6) (hx : L[5]? = some x) (more : List UInt8) :
    getR (L.set 5 (UInt8.ofNat (x.toNat + 128)) ++ more) bits = (0, 0, 1) := by
  obtain ⟨hd, t, rfl, e1, e2, e3⟩ := h
  obtain ⟨k1, k2, k3⟩ := e3 hn
  simp only [List.length_cons] at hl
  obtain ⟨z, h1, h2, h3, h4, h5⟩ := chain_last t 4 k1 (by omega)
  have hzx : z = x := by
    have : t[4]? = some x := by simpa using hx
    rw [h1] at this
    injection this
  subst hzx
  obtain ⟨hf, hf1⟩ := ones_some hb1 hb2
  have hm := coded_mod hb1 hb2 hn0 e1
  unfold getR
  rw [if_neg (by omega)]
  show (if hd.toNat % ((onesN bits).toNat + 1) < (onesN bits).toNat then (hd.toNat % ((onesN bits).toNat + 1), 1, 0) else getG 5 (hd :: t.set 4 (UInt8.ofNat (z.toNat + 128)) ++ more) 1 (hd.toNat % ((onesN bits).toNat + 1))) = _
  rw [if_neg (by omega)]
  exact getG_over 5 (t.set 4 _ ++ more) 1 _ [hd] rfl (by simp; omega) (fun y hy => h5 y (by
    rw [List.take_append_of_le_length (by simp; omega)] at hy
    exact List.mem_of_mem_take hy))

theorem or_last {x : UInt8} (h : x.toNat < 128) : Value.int .u8 (Go.bits .or .u8 (x.toNat : Int) 128) = bv (UInt8.ofNat (x.toNat + 128)) := by
  rw [Go.u8_or128_right _ (by omega) (by omega), ← byte_of _ (by omega)]
  rfl
theorem map_set {L : List UInt8} {j : Nat} {x : UInt8} : (L.map bv).set j (bv x) = (L.set j x).map bv := by
  rw [List.map_set]

set_option maxHeartbeats 4000000 in
set_option maxRecDepth 100000 in
theorem short_walk (bits n : Int) (w : World) :
    Calls Try.prog 5 #[.int .i64 bits, .int .i64 n] w fun e w' => e = .returned (.bool true) ∧ Below w.heap.size w w' := by
  obtain ⟨i0, hi0, hz0, hz1, hz2⟩ := info_parts u8_info
  have hi := hid hi0
  have hz := hid hz0
  have hsz := hid hz1
  have hby := hid hz2
  clear hi0 hz0 hz1 hz2
  go_enter Try.func5, Try.ntmps5
  go_wp2_with fail
  refine (first_any w).mono ?_
  rintro e w1 ⟨rfl, hb1⟩
  have HB1 := hid hb1
  clear hb1
  generalize hra : putR 0 bits n = ra
  have HRA := hid hra
  clear hra
  go_wp2_with fail
  refine (put_all 0 bits n w1 (by decide) (by decide)).mono ?_
  rw [HRA.out]
  rintro e w2 ⟨A2, k2, c2, rfl, ho2, hb2⟩
  have HO2 := hid (Bs.of_own ho2)
  have HB2 := hid (HB1.out.trans (hb2.mono HB1.out.size))
  clear ho2 hb2
  by_cases hbad : 1 ≤ bits ∧ bits ≤ 8 ∧ 0 ≤ n ∧ n ≤ 2147483647
  · obtain ⟨b1, b2, n1, n2⟩ := hbad
    obtain ⟨nn, rfl⟩ : ∃ nn : Nat, n = nn := ⟨n.toNat, by omega⟩
    have hco := coded_of (first := 0) (by decide) (by decide) b1 b2 n1 n2
    rw [HRA.out] at hco
    have CA := hid hco.1
    have hr2 := hco.2
    have hcl := coded_len CA.out
    rw [HO2.out.len] at hcl
    obtain ⟨hl1, hl6, hl7⟩ := hcl
    have hpw := ones_pow b1 b2
    obtain ⟨hf, hf1⟩ := ones_some b1 b2
    clear hco
    generalize hff : onesN bits = f at hl7 hpw hf hf1
    have HF := hid hff
    clear hff
    by_cases hnf : (nn : Int) < f
    · have hk1 : k2 = 1 := hl7.2 hnf
      subst hk1
      clear hl7
      obtain ⟨b, o, x, hA2, hx, hc0⟩ := HO2.out.at_ (i := 0) (by omega)
      subst hA2
      rw [Nat.add_zero] at hc0
      unfold bv at hc0
      have hxn : (x.toNat : Int) = nn := by
        obtain ⟨hd, t, e0, e1, _, _⟩ := CA.out
        rw [e0] at hx
        have e : hd = x := by simpa using hx
        subst e
        rw [e1, HF.out]
        simp
        omega
      have HX := hid hx
      clear hx
      go_wp2_with fail
      refine (first_any _).mono ?_
      rintro e w6 ⟨rfl, hb6⟩
      have hc6 := below_keep hb6 _ _ hc0
      have HB6 := hid hb6
      clear hb6 hc0
      go_wp2_with fail
      go_ret
      exact ⟨rfl, HB2.out.trans (HB6.out.mono HB2.out.size)⟩
    · have hk1 : ¬ k2 = 1 := fun h => hnf (hl7.1 h)
      clear hl7
      have hk10 : ((k2 : Int) == 1) = false := by
        rw [beq_eq_false_iff_ne]
        omega
      have hl := World.ownsRow_lit (base := w2.heap.size) (e := 5) (size := 1) w2 #[] 0 (Nat.le_refl _) (by decide) rfl
      have HL := hid hl
      clear hl
      have HO2b := hid (HO2.out.below ((Below.refl _ _).alloc (Nat.le_refl _) (.cells #[] 5)))
      go_wp2_with (at_builtin; go_loud (refine wpList_app _ rfl _ _ _ rfl w2.heap.size 5 i0 _ 1 1 Try.underlying22 hi.out hz.out hsz.out hby.out rfl (by omega) _ 0 _ rfl HL.out A2 k2 c2 _ rfl HO2b.out (bv_one ra.1) (by omega) (by omega) (by simp) ?_; intro A3 c3 w3 ho3 hg3 hat3; have HO3 := hid ho3; have H23 := hid (below_app ((Below.refl _ _).alloc (Nat.le_refl _) _) HL.out hg3 (Nat.le_refl _) (by simp)); clear ho3 hg3 hat3))
      have HB3 := hid (HB2.out.trans (H23.out.mono HB2.out.size))
      have hkk : 0 + k2 = k2 := by omega
      have h5 := HO3.out
      rw [hkk, show #[].toList ++ ra.1.map bv = ra.1.map bv by rfl] at h5
      have HO3 := hid h5
      clear h5
      go_wp2_with fail
      go_loopw [8] (fun s wr => ∃ (j c : Nat) (g : Nat) (L : List UInt8), s = .slice (some ⟨g, 0, none⟩) (j + 1) c ∧ j ≤ 5 ∧ wr.ownsRow w2.heap.size 5 1 (.slice (some ⟨g, 0, none⟩) (j + 1) c) (j + 1) (L.map bv) ∧ Below w2.heap.size w2 wr ∧ Coded 0 bits nn L) (fun s _ => match s with | .slice _ n _ => 6 - n | _ => 0)
      case atStart =>
        obtain ⟨g, cap, hv, _, _⟩ := HO3.out.form (by omega)
        injection hv with hv1 hv2 hv3
        obtain ⟨j, rfl⟩ : ∃ j, k2 = j + 1 := ⟨k2 - 1, by omega⟩
        subst hv1
        exact ⟨j, c3, g, ra.1, rfl, by omega, HO3.out, H23.out, CA.out⟩
      case round =>
        obtain ⟨j, c4, g, L, rfl, hj5, hown, hbl, hcd⟩ := hrel
        have HO4 := hid hown
        have H24 := hid hbl
        have HCD := hid hcd
        have hw24 := hbl.size
        have hlen : L.length = j + 1 := by have := hown.1; simpa using this
        obtain ⟨x, hx, hx1, hpad⟩ := coded_pad hcd (by rw [HF.out]; omega) hlen
        have hcell := hown.cellAt j (by omega)
        rw [List.getElem?_map, hx, Option.map_some] at hcell
        unfold bv at hcell
        have hfz := hown.frozenAt j
        obtain ⟨hst, hsg⟩ := hown.stored j (bv (UInt8.ofNat (x.toNat + 128)))
        rw [map_set] at hst
        rw [← or_last hx1] at hst hsg
        have HST := hid hst
        have HBS := hid (hbl.grown hsg hbl.size (fun q hq => by injection hq with hq; subst hq; exact (hown.lt g rfl).1))
        have hws := HBS.out.size
        have HX := hid hx
        have HPAD := hid hpad
        have HLEN := hid hlen
        clear hown hbl hcd hst hsg hx hpad hlen
        by_cases hj : j = 5
        · subst hj
          have hge := coded_get HCD.out b1 b2 n1 n2 []
          rw [List.append_nil, HLEN.out, Int.toNat_natCast] at hge
          have HGE := hid hge
          have HOV := hid (coded_over HCD.out b1 b2 n1 (by rw [HF.out]; omega) HLEN.out HX.out [0])
          have HRD := hid (Bs.of_own HO4.out)
          clear hge
          go_wp2_with (first
            | (go_at_call 10; (with_reducible refine (get_all (some ⟨g, 0, none⟩) 6 c4 L bits wr HRD.out (by decide)).mono ?_); rw [HGE.out]; rintro e w6 ⟨rfl, rfl⟩)
            | (at_builtin; go_loud (refine wpList_app _ rfl _ _ _ rfl w2.heap.size 5 i0 _ 1 1 Try.underlying22 hi.out hz.out hsz.out hby.out rfl (by omega) _ (5 + 1) _ rfl (HST.out.alloc _) _ 1 1 _ rfl (rd_one (by simp)) (by simp [Value.oneCell']) (by omega) (by omega) (by simp; omega) ?_; intro A5 c5 w5 ho5 hg5 hat5; have HO5 := hid ho5; have H25 := hid (below_app (HBS.out.alloc HBS.out.size _) (HST.out.alloc _) hg5 (Nat.le_refl _) (by simp; omega)); clear ho5 hg5 hat5))
            | (go_at_call 7; go_must (refine (first_any _).mono ?_; rintro e w6 ⟨rfl, hb6⟩; have HB6 := hid hb6; clear hb6))
            | (go_at_call 10; go_must (refine (get_all _ _ _ (L.set 5 (UInt8.ofNat (x.toNat + 128)) ++ [0]) bits _ (show Bs _ A5 _ _ from by have h9 := Rd.of_own HO5.out; unfold Bs; rw [List.map_append]; exact h9) (by omega)).mono ?_; rw [HOV.out]; rintro e w7 ⟨rfl, rfl⟩)))
          go_ret
          exact ⟨rfl, (HB2.out.trans (H25.out.mono HB2.out.size)).trans (HB6.out.mono (HB2.out.trans (H25.out.mono HB2.out.size)).size)⟩
        · have hj4 : j < 5 := by omega
          go_wp2_with ((at_builtin; go_loud (refine wpList_app _ rfl _ _ _ rfl w2.heap.size 5 i0 _ 1 1 Try.underlying22 hi.out hz.out hsz.out hby.out rfl (by omega) _ (j + 1) _ rfl (HST.out.alloc _) _ 1 1 _ rfl (rd_one (by simp)) (by simp [Value.oneCell']) (by omega) (by omega) (by simp; omega) ?_; intro A5 c5 w5 ho5 hg5 hat5; have HO5 := hid ho5; have H25 := hid (below_app (HBS.out.alloc HBS.out.size _) (HST.out.alloc _) hg5 (Nat.le_refl _) (by simp; omega)); clear ho5 hg5 hat5)))
          obtain ⟨g5, cap5, hv5, _, _⟩ := HO5.out.form (by omega)
          injection hv5 with hv5
          subst hv5
          go_roundw
          case rel => exact ⟨j + 1, c5, g5, _, rfl, by omega, by have h9 := HO5.out; rw [show [Value.int .u8 0] = [(0 : UInt8)].map bv from rfl, ← List.map_append] at h9; exact h9, H25.out, HPAD.out hj4⟩
          case measure => simp; omega
  · have HX := hid hbad
    have hr2 : ra.2 = 1 := by
      rcases put_err 0 bits n with h | h
      · exact absurd (put_ok h) hbad
      · rw [← HRA.out]; exact h
    clear hbad
    go_wp2_with (go_at_call 7; go_must (refine (first_any _).mono ?_; rintro e w6 ⟨rfl, hb6⟩; have HB6 := hid hb6; clear hb6))
    all_goals first | (exfalso; have := HX.out; omega) | skip
    all_goals
      go_ret
      exact ⟨rfl, HB2.out.trans (HB6.out.mono HB2.out.size)⟩
end Go.Proofs.Ytbbjhmhinbmhgaa
