/- The law UnpackAdds walked. No condition. -/
import Derived.Test.YtdiejemhhcaicaaDoorUnpAddsPJ
import Derived.Test.YtdiejemhhcaicaaDoorGu
import Derived.Test.YtdiejemhhcaicaaDoorGs
import Derived.Lib.AppendStr
namespace Go.Proofs.YtdiejemhhcaicaaDoor
open Go.RowKit
attribute [local go_sem] kd kdS

theorem str_cells (l : List UInt8) : Lib.strCells ⟨l.toArray⟩ = l.map bv := by
  unfold Lib.strCells bv
  simp
/-- A row whose block is kept, behind a call of the decoder. -/
theorem DecI.row {w wr w' : World} {B : Nat} {F : List Nat} {gd gt : Nat} {dead : Bool} {most : Int} {L : List Fd} {K : List Nat} (h : DecI w wr B F gd gt dead most L K) (ht : Turned (gd :: F) wr w') {base size n c g : Nat} {e : TypeId} {xs : List Value} (ho : wr.ownsRow base e size (.slice (some ⟨g, 0, none⟩) n c) n xs) (hg : g ∈ K) : w'.ownsRow base e size (.slice (some ⟨g, 0, none⟩) n c) n xs :=
  own_turned ho ht (fun k hk => by
    have e : some g = some k := hk
    injection e with e
    subst e
    exact (h.kept _ hg).1)
theorem DecI.fs {w wr w' : World} {B : Nat} {F : List Nat} {gd gt : Nat} {dead : Bool} {most : Int} {L : List Fd} {K : List Nat} (h : DecI w wr B F gd gt dead most L K) (ht : Turned (gd :: F) wr w') {n g o : Nat} {l : List Fd} (ho : Fs wr (some ⟨g, o, none⟩) n l) (hg : g ∈ K) : Fs w' (some ⟨g, o, none⟩) n l :=
  Rd.turned ho ht (fun ad e hm => by
    injection e with e
    subst e
    exact (h.kept _ hg).1 hm)
theorem DecI.other {w wr w' : World} {B : Nat} {F : List Nat} {gd gt : Nat} {dead : Bool} {most : Int} {L : List Fd} {K G : List Nat} (h : DecI w wr B F gd gt dead most L K) (ht : Turned G wr w') (hG : ∀ k ∈ G, k ∈ K ∧ w.heap.size ≤ k) : DecI w w' B F gd gt dead most L K :=
  ⟨h.dec.turned ht (fun k hk hm => (h.kept k (hG k hm).1).1 hk), fun k hk => ⟨(h.kept k hk).1, Nat.lt_of_lt_of_le (h.kept k hk).2 ht.size⟩, h.out.trans (ht.below (fun b hb => (hG b hb).2) h.out.size), h.wB⟩
theorem fs_off {w w' : World} {G : List Nat} {n g o : Nat} {l : List Fd} (h : Fs w (some ⟨g, o, none⟩) n l) (ht : Turned G w w') (hg : g ∉ G) : Fs w' (some ⟨g, o, none⟩) n l :=
  Rd.turned h ht (fun ad e hm => by
    injection e with e
    subst e
    exact hg hm)
theorem row_off {w w' : World} {G : List Nat} {base size n c g : Nat} {e : TypeId} {xs : List Value} (h : w.ownsRow base e size (.slice (some ⟨g, 0, none⟩) n c) n xs) (ht : Turned G w w') (hg : g ∉ G) : w'.ownsRow base e size (.slice (some ⟨g, 0, none⟩) n c) n xs :=
  own_turned h ht (fun k hk => by
    have e : some g = some k := hk
    injection e with e
    subst e
    exact hg)
/-- The row of fields that a Decode has answered: its block is kept. -/
theorem DecI.ans {w w' : World} {B : Nat} {F : List Nat} {gd gt : Nat} {dead : Bool} {most : Int} {L : List Fd} {K : List Nat} (h : DecI w w' B F gd gt dead most L K) {base n c : Nat} {A : Option Addr} {l : List Fd} (ho : w'.ownsRow base 31 3 (.slice A n c) n (flat l)) (hr : ∀ k ∈ gd :: F, (Value.slice A n c).ownBlock ≠ some k) (hl : 0 < l.length) :
    ∃ g, A = some ⟨g, 0, none⟩ ∧ n = l.length ∧ Fs w' (some ⟨g, 0, none⟩) n l ∧ DecI w w' B F gd gt dead most L (g :: K) := by
  have hF : Fs w' A n l := Rd.of_own ho
  have hn := hF.len
  obtain ⟨g, cap, e, _, hlt⟩ := ho.form (by omega)
  injection e with e1 _ _
  subst e1
  exact ⟨g, rfl, hn.symm, hF, h.keep (fun hm => hr g hm rfl) hlt⟩
theorem fs_one {w : World} {f : Fd} : Fs (w.alloc (.cells #[.string f.n, .string f.v, .bool f.x] 31)) (some ⟨w.heap.size, 0, none⟩) 1 [f] := rd_new rfl rfl
theorem fs_two {w : World} {f : Fd} : Fs (w.alloc (.cells #[.string f.n, .string f.v, .bool f.x, .string f.n, .string f.v, .bool f.x] 31)) (some ⟨w.heap.size, 0, none⟩) 2 [f, f] := rd_new rfl rfl
theorem Fs.cells {w : World} {g n : Nat} {f : Fd} {l : List Fd} (h : Fs w (some ⟨g, 0, none⟩) n (f :: l)) : w.cell? ⟨g, 0, none⟩ = some (.string f.n) ∧ w.cell? ⟨g, 1, none⟩ = some (.string f.v) ∧ w.cell? ⟨g, 2, none⟩ = some (.bool f.x) := by
  have hn := h.len
  obtain ⟨b, o, f', e, hf, c0, c1, c2⟩ := h.at_ (i := 0) (by simp at hn; omega)
  injection e with e
  injection e with e1 e2 _
  subst e1 e2
  obtain rfl : f = f' := by simpa using hf
  exact ⟨by simpa using c0, by simpa using c1, by simpa using c2⟩
theorem same_refl (l : List Fd) : sameL l l = true := by simp [sameL]

set_option maxHeartbeats 8000000 in
set_option maxRecDepth 100000 in
theorem adds8_walk (nm vl : List UInt8) (w : World) : Calls Tryd.prog 7 #[.string ⟨nm.toArray⟩, .string ⟨vl.toArray⟩] w fun e w' => e = .returned (.bool true) ∧ Below w.heap.size w w' := by
  have hs1 : (⟨nm.toArray⟩ : ByteArray).size = nm.length := by simp [ByteArray.size]
  have hs2 : (⟨vl.toArray⟩ : ByteArray).size = vl.length := by simp [ByteArray.size]
  obtain ⟨i0, hi0, hz0, hz1, hz2⟩ := info_parts u8_info
  have hi := hid hi0
  have hz := hid hz0
  have hsz := hid hz1
  have hby := hid hz2
  clear hi0 hz0 hz1 hz2
  go_enter Tryd.func7, Tryd.ntmps7
  go_wp2_with fail
  refine (first8_any w).mono ?_
  rintro e w1 ⟨rfl, hb1⟩
  have HB1 := hid hb1
  clear hb1
  go_wp2_with fail
  refine (decNew_any w1).mono ?_
  rintro e w2 ⟨F, gd, gt, rfl, h2, hb2⟩
  have HI2 := hid (show DecI w w2 w1.heap.size F gd gt false 4096 [] [] from ⟨h2, (fun k hk => by cases hk), HB1.out.trans (hb2.mono HB1.out.size), HB1.out.size⟩)
  clear h2 hb2
  by_cases hn : 100 < nm.length
  · go_wp2_with (go_at_call 8; go_must (refine (first8_any w2).mono ?_; rintro e w3 ⟨rfl, hb3⟩; have HB3 := hid (HI2.out.out.trans (hb3.mono HI2.out.out.size)); clear hb3))
    go_ret
    exact ⟨rfl, HB3.out⟩
  by_cases hv : 20 < vl.length
  · go_wp2_with (go_at_call 8; go_must (refine (first8_any w2).mono ?_; rintro e w3 ⟨rfl, hb3⟩; have HB3 := hid (HI2.out.out.trans (hb3.mono HI2.out.out.size)); clear hb3))
    go_ret
    exact ⟨rfl, HB3.out⟩
  go_upto_region 6 with fail
  have hwn : IntKind.u8.wrap (nm.length : Int) = (nm.length : Int) := by rw [u8_wrap, Nat.mod_eq_of_lt (by omega)]
  have hwv : IntKind.u8.wrap (vl.length : Int) = (vl.length : Int) := by rw [u8_wrap, Nat.mod_eq_of_lt (by omega)]
  have HL := hid (World.ownsRow_lit (base := w2.heap.size) (e := 5) (size := 1) w2 #[.int .u8 64, .int .u8 (nm.length : Int)] 2 (Nat.le_refl _) (by decide) rfl)
  have hm1 : nm.length ≤ 100 := by omega
  have hm2 : vl.length ≤ 20 := by omega
  have HS1 := hid hs1
  have HS2 := hid hs2
  go_upto_region 7 with (first
    | (at_builtin; (refine Lib.wpList_append_own_string _ rfl _ _ 29 9 rfl w2.heap.size 5 i0 Tryd.underlying29 Tryd.underlying9 hi.out hz.out hsz.out hby.out _ 2 _ rfl HL.out ⟨nm.toArray⟩ rfl (by rw [HS1.out]; unfold maxLen; omega) (by rw [HS1.out]; omega) (by simp) ?_; intro v3 w3 ho3 hg3 hn3; obtain ⟨A3, c3, rfl, _⟩ := own_shape ho3; rw [HS1.out] at ho3; have HO3 := hid ho3; have HB3 := hid (below_app ((Below.refl w2.heap.size w2).alloc (Nat.le_refl _) _) HL.out hg3 (Nat.le_refl _) (by simp)); have hz3 := HB3.out.size; clear ho3 hg3 hn3))
    | (at_builtin; (refine wpList_app _ rfl _ _ _ rfl w2.heap.size 5 i0 _ 1 1 Tryd.underlying29 hi.out hz.out hsz.out hby.out rfl (by omega) _ (2 + nm.length) _ rfl (HO3.out.alloc _) _ 1 1 _ rfl (rd_one rfl) (by simp [Value.oneCell']) (by omega) (by omega) (by simp; omega) ?_; intro A4 c4 w4 ho4 hg4 hat4; have HO4 := hid ho4; have HB4 := hid (below_app (HB3.out.alloc hz3 _) (HO3.out.alloc _) hg4 (Nat.le_refl _) (by simp; omega)); have hz4 := HB4.out.size; clear ho4 hg4 hat4))
    | (at_builtin; (refine Lib.wpList_append_own_string _ rfl _ _ 29 9 rfl w2.heap.size 5 i0 Tryd.underlying29 Tryd.underlying9 hi.out hz.out hsz.out hby.out _ (2 + nm.length + 1) _ rfl HO4.out ⟨vl.toArray⟩ rfl (by rw [HS2.out]; unfold maxLen; omega) (by rw [HS2.out]; omega) (by omega) ?_; intro v5 w5 ho5 hg5 hn5; obtain ⟨A5, c5, rfl, _⟩ := own_shape ho5; rw [HS2.out] at ho5; have HO5 := hid ho5; have HB5 := hid (below_app HB4.out HO4.out hg5 (Nat.le_refl _) hz4); clear ho5 hg5 hn5)))
  obtain ⟨f, hf⟩ : ∃ f : Fd, f = ⟨⟨nm.toArray⟩, ⟨vl.toArray⟩, false⟩ := ⟨_, rfl⟩
  have HFD := hid hf
  have HA1 := hid (adds_1 hm1 hm2)
  have HA2 := hid (adds_2 hm1 hm2)
  have HA3 := hid (adds_3 hm1 hm2 [f])
  rw [← hf] at HA1 HA2
  have HTF := hid (show f.size ≤ 152 by rw [hf]; simp only [Fd.size, ByteArray.size, List.size_toArray]; omega)
  obtain ⟨M, hM⟩ : ∃ M, 2 + nm.length + 1 + vl.length = M := ⟨_, rfl⟩
  have hP : w5.ownsRow w2.heap.size 5 1 (.slice A5 M c5) M ((64 :: bodyL nm vl).map bv) := by
    have h5 := HO5.out
    rw [hM, str_cells, str_cells, byte_of nm.length (by omega), byte_of vl.length (by omega)] at h5
    have e : (64 :: bodyL nm vl).map bv = #[Value.int .u8 64, bv (UInt8.ofNat nm.length)].toList ++ nm.map bv ++ [bv (UInt8.ofNat vl.length)] ++ vl.map bv := by
      unfold bodyL
      simp
      rfl
    rw [e]
    exact h5
  rw [hM]
  have hM0 : 0 < M := by omega
  have hM1 : M ≤ 123 := by omega
  have hPL : (64 :: bodyL nm vl).length = M := by have := hP.1; simpa using this
  obtain ⟨p, cap, e, hp1, hp2⟩ := hP.form hM0
  injection e with e1 _ e3
  subst e1 e3
  have HI5 := hid (HI2.out.fresh HB5.out hp1 hp2)
  have HP5 := hid hP
  have HPL := hid hPL
  clear hP hp1 hp2 HL HO3 HO4 HO5 HB3 HB4 HB5 hz3 hz4 HI2 hwn hwv hM hPL hf hs1 hs2
  obtain ⟨P, hPP⟩ : ∃ P, 64 :: bodyL nm vl = P := ⟨_, rfl⟩
  rw [hPP] at HP5 HA1 HPL
  have HPH := hid hPP.symm
  clear hPP
  go_wp2_with fail
  refine (decode_any 100000 w1.heap.size F gd gt false 4096 [] (some ⟨p, 0, none⟩) M c5 P w5 HI5.out.dec (Bs.of_own HP5.out) (by omega)).mono ?_
  intro e w6 hp
  obtain ⟨k1, k2⟩ := decO_ok HA1.out (room := 100000) (by have := HTF.out; simp [total]; omega)
  obtain ⟨A6, n6, c6, F6, rfl, ho, hi, ht, hr⟩ := HI5.out.decoded hp
  rw [k1] at ho
  rw [k2] at hi
  rw [k1]
  dsimp only at ho hi ⊢
  obtain ⟨ga, rfl, hn6, hfa, hi6⟩ := hi.ans ho hr (by simp)
  obtain rfl : n6 = 1 := hn6
  have HI6 := hid hi6
  have HFA6 := hid hfa
  have HP6 := hid (HI5.out.row ht HP5.out (by simp))
  clear hp k1 k2 ho hi ht hr hfa hi6 HI5 HP5 HA1
  have HL7 := hid (World.ownsRow_lit (base := w6.heap.size) (e := 5) (size := 1) w6 #[] 0 (Nat.le_refl _) (by decide) rfl)
  go_upto_region 9 with (at_builtin; (refine wpList_app _ rfl _ _ _ rfl w6.heap.size 5 i0 _ 1 1 Tryd.underlying29 hi.out hz.out hsz.out hby.out rfl (by omega) _ 0 _ rfl HL7.out (some ⟨p, 0, none⟩) M c5 (P.map bv) rfl ((Bs.of_own HP6.out).below ((Below.refl _ _).alloc (Nat.le_refl _) _)) (bv_one P) (by omega) (by omega) (by simp) ?_; intro A7 c7 w7 ho hg hat; have HO7 := hid ho; have HB7 := hid (below_app ((Below.refl w6.heap.size w6).alloc (Nat.le_refl _) _) HL7.out hg (Nat.le_refl _) (by simp)); clear ho hg hat))
  have hoa : w7.ownsRow w6.heap.size 5 1 (.slice A7 M c7) M (P.map bv) := by have := HO7.out; simpa using this
  obtain ⟨q7, cap, e, hq1, hq2⟩ := hoa.form hM0
  injection e with e1 _ e3
  subst e1 e3
  have HI7 := hid (HI6.out.fresh HB7.out hq1 hq2)
  have HQ7 := hid hoa
  have HNE7 := hid (show ga ≠ q7 ∧ p ≠ q7 by have h1 := (HI6.out.kept ga (by simp)).2; have h2 := (HI6.out.kept p (by simp)).2; omega)
  have HWQ7 := hid (show w.heap.size ≤ q7 from Nat.le_trans HI6.out.out.size hq1)
  have HFA7 := hid (HFA6.out.below HB7.out)
  have HP7 := hid (own_below HP6.out HB7.out)
  have cc := hoa.cellAt 0 (by omega)
  have ff := hoa.frozenAt 0
  rw [HPH.out] at cc
  simp only [List.map_cons, List.getElem?_cons_zero] at cc
  unfold bv at cc
  clear hoa HL7 HO7 HB7 hq1 hq2 HFA6 HP6 HI6
  go_upto_region 10 with fail
  have hst := (HQ7.out.stored 0 (.int .u8 0)).1
  rw [HPH.out] at hst
  have hst2 : (w7.setCell ⟨q7, 0, none⟩ (.int .u8 0)).ownsRow w6.heap.size 5 1 (.slice (some ⟨q7, 0, none⟩) M c7) M ((0 :: bodyL nm vl).map bv) := hst
  have ht8 : Turned [q7] w7 (w7.setCell ⟨q7, 0, none⟩ (.int .u8 0)) := (Turned.refl _ _).setCell (by simp) _
  have HI8 := hid (HI7.out.other ht8 (fun k hk => by have e := List.mem_singleton.1 hk; subst e; exact ⟨by simp, HWQ7.out⟩))
  have HFA8 := hid (fs_off HFA7.out ht8 (by simp; exact HNE7.out.1))
  have HP8 := hid (row_off HP7.out ht8 (by simp; exact HNE7.out.2))
  have HQ8 := hid hst2
  clear hst hst2 ht8 cc ff HI7 HFA7 HP7 HQ7
  generalize w7.setCell ⟨q7, 0, none⟩ (.int .u8 0) = w8 at HI8 HFA8 HP8 HQ8 ⊢
  have hz8 := (HI8.out.kept q7 (by simp)).2
  have hb8 : w6.heap.size ≤ w8.heap.size := by have := (own_row_lt HQ8.out q7 rfl).1; omega
  go_wp2_with (at_builtin; (refine wpList_app _ rfl _ _ _ rfl w6.heap.size 5 i0 _ 1 1 Tryd.underlying29 hi.out hz.out hsz.out hby.out rfl (by omega) _ M _ rfl (HQ8.out.alloc _) _ 1 1 [.int .u8 190] rfl (rd_new rfl rfl) (by simp [Value.oneCell']) (by omega) (by omega) (by simp; omega) ?_; intro A9 c9 w9 ho hg hat; have HO9 := hid ho; have HT9 := hid (((Turned.refl [q7] w8).thenB ((Below.refl w8.heap.size w8).alloc (Nat.le_refl _) _)).grown hg (fun k hk => by have e : some q7 = some k := hk; injection e with e; subst e; exact .inl (by simp))); clear ho hg hat))
  have HI9 := hid (HI8.out.other HT9.out (fun k hk => by have e := List.mem_singleton.1 hk; subst e; exact ⟨by simp, HWQ7.out⟩))
  have HFA9 := hid (fs_off HFA8.out HT9.out (by simp; exact HNE7.out.1))
  have HP9 := hid (row_off HP8.out HT9.out (by simp; exact HNE7.out.2))
  have hb9 : Bs w9 A9 (M + 1) (0 :: bodyL nm vl ++ [190]) := by
    have := Rd.of_own HO9.out
    unfold Bs
    rw [List.map_append]
    exact this
  have HB9 := hid hb9
  clear hb9 HO9 HT9 HI8 HFA8 HP8 HQ8 hz8 hb8
  refine (decode_any 100000 w1.heap.size F6 gd gt false 4096 [f] A9 (M + 1) c9 (0 :: bodyL nm vl ++ [190]) w9 HI9.out.dec HB9.out (by omega)).mono ?_
  intro e w10 hp
  obtain ⟨k1, k2⟩ := decO_ok HA2.out (room := 100000) (by have := HTF.out; simp [total]; omega)
  obtain ⟨A10, n10, c10, F10, rfl, ho, hi10, ht, hr⟩ := HI9.out.decoded hp
  rw [k1] at ho
  rw [k2] at hi10
  rw [k1]
  dsimp only at ho hi10 ⊢
  obtain ⟨gb, rfl, hn10, hfb, hi11⟩ := hi10.ans ho hr (by simp)
  obtain rfl : n10 = 2 := hn10
  have HI10 := hid hi11
  have HFB10 := hid hfb
  have HP10 := hid (HI9.out.row ht HP9.out (by simp))
  have HFA10 := hid (HI9.out.fs ht HFA9.out (by simp))
  clear hp k1 k2 ho hi10 ht hr hfb hi11 HI9 HP9 HFA9 HB9 HA2
  have HL11 := hid (World.ownsRow_lit (base := w10.heap.size) (e := 5) (size := 1) w10 #[] 0 (Nat.le_refl _) (by decide) rfl)
  go_upto_region 12 with (at_builtin; (refine wpList_app _ rfl _ _ _ rfl w10.heap.size 5 i0 _ 1 1 Tryd.underlying29 hi.out hz.out hsz.out hby.out rfl (by omega) _ 0 _ rfl HL11.out (some ⟨p, 0, none⟩) M c5 (P.map bv) rfl ((Bs.of_own HP10.out).below ((Below.refl _ _).alloc (Nat.le_refl _) _)) (bv_one P) (by omega) (by omega) (by simp) ?_; intro A11 c11 w11 ho hg hat; have HO11 := hid ho; have HB11 := hid (below_app ((Below.refl w10.heap.size w10).alloc (Nat.le_refl _) _) HL11.out hg (Nat.le_refl _) (by simp)); clear ho hg hat))
  have hoa : w11.ownsRow w10.heap.size 5 1 (.slice A11 M c11) M (P.map bv) := by have := HO11.out; simpa using this
  obtain ⟨q11, cap, e, hq1, hq2⟩ := hoa.form hM0
  injection e with e1 _ e3
  subst e1 e3
  have HI11 := hid (HI10.out.fresh HB11.out hq1 hq2)
  have HQ11 := hid hoa
  have HNE11 := hid (show ga ≠ q11 ∧ gb ≠ q11 by have h1 := (HI10.out.kept ga (by simp)).2; have h2 := (HI10.out.kept gb (by simp)).2; omega)
  have HWQ11 := hid (show w.heap.size ≤ q11 from Nat.le_trans HI10.out.out.size hq1)
  have HFA11 := hid (HFA10.out.below HB11.out)
  have HFB11 := hid (HFB10.out.below HB11.out)
  have cc := hoa.cellAt 0 (by omega)
  have ff := hoa.frozenAt 0
  rw [HPH.out] at cc
  simp only [List.map_cons, List.getElem?_cons_zero] at cc
  unfold bv at cc
  clear hoa HL11 HO11 HB11 hq1 hq2 HFA10 HFB10 HP10 HI10
  go_upto_region 13 with fail
  have hst := (HQ11.out.stored 0 (.int .u8 16)).1
  rw [HPH.out] at hst
  have hst2 : (w11.setCell ⟨q11, 0, none⟩ (.int .u8 16)).ownsRow w10.heap.size 5 1 (.slice (some ⟨q11, 0, none⟩) M c11) M ((16 :: bodyL nm vl).map bv) := hst
  have ht8 : Turned [q11] w11 (w11.setCell ⟨q11, 0, none⟩ (.int .u8 16)) := (Turned.refl _ _).setCell (by simp) _
  have HI12 := hid (HI11.out.other ht8 (fun k hk => by have e := List.mem_singleton.1 hk; subst e; exact ⟨by simp, HWQ11.out⟩))
  have HFA12 := hid (fs_off HFA11.out ht8 (by simp; exact HNE11.out.1))
  have HFB12 := hid (fs_off HFB11.out ht8 (by simp; exact HNE11.out.2))
  have HQ12 := hid hst2
  clear hst hst2 ht8 cc ff HI11 HFA11 HFB11 HQ11
  generalize w11.setCell ⟨q11, 0, none⟩ (.int .u8 16) = w12 at HI12 HFA12 HFB12 HQ12 ⊢
  go_wp2_with fail
  refine (decode_any 100000 w1.heap.size F10 gd gt false 4096 [f] (some ⟨q11, 0, none⟩) M c11 (16 :: bodyL nm vl) w12 HI12.out.dec (Bs.of_own HQ12.out) (by omega)).mono ?_
  intro e w13 hp
  obtain ⟨f2, hf2⟩ : ∃ f2 : Fd, f2 = ⟨⟨nm.toArray⟩, ⟨vl.toArray⟩, true⟩ := ⟨_, rfl⟩
  have HF2 := hid hf2
  have h3 := HA3.out
  rw [← hf2] at h3
  obtain ⟨k1, k2⟩ := decO_ok h3 (room := 100000) (by have := HTF.out; have e : f2.size = f.size := by rw [HF2.out, HFD.out]; rfl
                                                     simp [total]; omega)
  obtain ⟨A13, n13, c13, F13, rfl, ho, hi13, ht, hr⟩ := HI12.out.decoded hp
  rw [k1] at ho
  rw [k2] at hi13
  rw [k1]
  dsimp only at ho hi13 ⊢
  obtain ⟨gc, rfl, hn13, hfc, hi14⟩ := hi13.ans ho hr (by simp)
  obtain rfl : n13 = 1 := hn13
  have HI13 := hid hi14
  have HFC13 := hid hfc
  have HFA13 := hid (HI12.out.fs ht HFA12.out (by simp))
  have HFB13 := hid (HI12.out.fs ht HFB12.out (by simp))
  clear hp k1 k2 ho hi13 ht hr hfc hi14 HI12 HFA12 HFB12 HQ12 HA3 h3 hf2
  go_upto_region 15 with fail
  have hF : BoxAt (w13.alloc (.cells #[.string ⟨nm.toArray⟩, .string ⟨vl.toArray⟩, .bool false] 31)) w13.heap.size f := by rw [HFD.out]; exact Blk.new w13 _ _
  have hba : Below w13.heap.size w13 (w13.alloc (.cells #[.string ⟨nm.toArray⟩, .string ⟨vl.toArray⟩, .bool false] 31)) := (Below.refl _ _).alloc (Nat.le_refl _) _
  generalize w13.alloc (.cells #[.string ⟨nm.toArray⟩, .string ⟨vl.toArray⟩, .bool false] 31) = w14 at hF hba ⊢
  have HI14 := hid (HI13.out.below hba)
  have HFA14 := hid (HFA13.out.below hba)
  have HFB14 := hid (HFB13.out.below hba)
  have HFC14 := hid (HFC13.out.below hba)
  generalize w13.heap.size = bx at hF ⊢
  obtain ⟨k0, k1, k2⟩ := hF.c
  have HF14 := hid hF
  have HA4 := hid (adds_4 [f])
  clear hF hba HI13 HFA13 HFB13 HFC13
  have HEF := hid (show f2.x = true ∧ f.x = false by rw [HF2.out, HFD.out]; exact ⟨rfl, rfl⟩)
  have HSC := hid (show sameL [f2] [f] = true by rw [HF2.out, HFD.out]; unfold sameL nv; simp)
  clear HFD HF2 HPH HPL HNE7 HNE11 HWQ7 HWQ11 HS1 HS2
  go_upto_region 17 with (first
    | (go_at_call 22; (refine (same_any (some ⟨ga, 0, none⟩) 1 _ [f] _ 1 _ [f] _ (HFA14.out.below ((Below.refl _ _).alloc (Nat.le_refl _) _)) fs_one (by omega)).mono ?_; rintro e w15 ⟨rfl, hb15⟩; rw [same_refl]; have hb := ((Below.refl w14.heap.size w14).alloc (Nat.le_refl _) _).trans (hb15.mono (by simp)); have HI15 := hid (HI14.out.below hb); have HFA15 := hid (HFA14.out.below hb); have HFB15 := hid (HFB14.out.below hb); have HFC15 := hid (HFC14.out.below hb); have HF15 := hid (HF14.out.below hb); obtain ⟨k3, k4, k5⟩ := HF15.out.c; clear hb15 hb HI14 HFA14 HFB14 HFC14 HF14 k0 k1 k2))
    | (go_at_call 22; (refine (same_any (some ⟨gb, 0, none⟩) 2 _ [f, f] _ 2 _ [f, f] _ (HFB15.out.below ((Below.refl _ _).alloc (Nat.le_refl _) _)) fs_two (by omega)).mono ?_; rintro e w16 ⟨rfl, hb16⟩; rw [same_refl]; have hb := ((Below.refl w15.heap.size w15).alloc (Nat.le_refl _) _).trans (hb16.mono (by simp)); have HI16 := hid (HI15.out.below hb); have HFA16 := hid (HFA15.out.below hb); have HFC16 := hid (HFC15.out.below hb); have HF16 := hid (HF15.out.below hb); obtain ⟨k6, k7, k8⟩ := HF16.out.c; clear hb16 hb HI15 HFA15 HFB15 HFC15 HF15 k3 k4 k5))
    | (go_at_call 22; (refine (same_any (some ⟨gc, 0, none⟩) 1 _ [f2] _ 1 _ [f] _ (HFC16.out.below ((Below.refl _ _).alloc (Nat.le_refl _) _)) fs_one (by omega)).mono ?_; rintro e w17 ⟨rfl, hb17⟩; rw [HSC.out]; have hb := ((Below.refl w16.heap.size w16).alloc (Nat.le_refl _) _).trans (hb17.mono (by simp)); have HI17 := hid (HI16.out.below hb); have c2 := (HFC16.out.below hb).cells.2.2; have a2 := (HFA16.out.below hb).cells.2.2; rw [HEF.out.1] at c2; rw [HEF.out.2] at a2; clear hb17 hb HI16 HFA16 HFC16 HF16 k6 k7 k8 HSC HEF))
    | (go_at_call 17; go_must (refine (decTable_any _ F13 gd gt _ _ _ _ HI17.out.dec).mono ?_; rintro e w18 ⟨rfl, rfl⟩))
    | (go_at_call 21; go_must (refine (len_tb HI17.out.dec.tb).mono ?_; rintro e w19 ⟨rfl, rfl⟩)))
  go_wp2_with fail
  have hs : Bs (w17.alloc (.cells #[.int .u8 32] 5)) (some ⟨w17.heap.size, 0, none⟩) 1 [32] := rd_new rfl rfl
  have hb6 : Below w17.heap.size w17 (w17.alloc (.cells #[.int .u8 32] 5)) := (Below.refl _ _).alloc (Nat.le_refl _) _
  generalize w17.alloc (.cells #[.int .u8 32] 5) = w20 at hs hb6 ⊢
  have HS20 := hid hs
  have HI20 := hid (HI17.out.below hb6)
  clear hs hb6 HI17 c2 a2
  generalize w17.heap.size = bz at HS20 ⊢
  refine (decode_any 100000 w1.heap.size F13 gd gt false 4096 [f] (some ⟨bz, 0, none⟩) 1 1 [32] w20 HI20.out.dec HS20.out (by omega)).mono ?_
  intro e w21 hp
  obtain ⟨k1, k2⟩ := decO_ok HA4.out (room := 100000) (by simp [total])
  obtain ⟨A21, n21, c21, F21, rfl, ho, hi21, ht, hr⟩ := HI20.out.decoded hp
  rw [k2] at hi21
  rw [k1]
  dsimp only at hi21 ⊢
  have HI21 := hid hi21
  clear hp k1 k2 ho hi21 ht hr HI20 HS20 HA4
  go_upto_region 19 with (first
    | (go_at_call 17; go_must (refine (decTable_any _ F21 gd gt _ _ _ _ HI21.out.dec).mono ?_; rintro e w22 ⟨rfl, rfl⟩))
    | (go_at_call 21; go_must (refine (len_tb HI21.out.dec.tb).mono ?_; rintro e w23 ⟨rfl, rfl⟩))
    | (go_at_call 19; go_must (refine (most_tb HI21.out.dec.tb).mono ?_; rintro e w24 ⟨rfl, rfl⟩)))
  go_wp2_with fail
  have hs : Bs (w21.alloc (.cells #[.int .u8 190] 5)) (some ⟨w21.heap.size, 0, none⟩) 1 [190] := rd_new rfl rfl
  have hb6 : Below w21.heap.size w21 (w21.alloc (.cells #[.int .u8 190] 5)) := (Below.refl _ _).alloc (Nat.le_refl _) _
  generalize w21.alloc (.cells #[.int .u8 190] 5) = w25 at hs hb6 ⊢
  have HS25 := hid hs
  have HI25 := hid (HI21.out.below hb6)
  clear hs hb6 HI21
  generalize w21.heap.size = by_ at HS25 ⊢
  refine (decode_any 100000 w1.heap.size F21 gd gt false 0 [] (some ⟨by_, 0, none⟩) 1 1 [190] w25 HI25.out.dec HS25.out (by omega)).mono ?_
  intro e w26 hp
  obtain ⟨k1, k2⟩ := decO_bad adds_5 100000
  obtain ⟨A26, n26, c26, F26, rfl, ho, hi26, ht, hr⟩ := HI25.out.decoded hp
  rw [k2] at hi26
  rw [k1]
  have HI26 := hid hi26
  clear hp k1 k2 ho hi26 ht hr HI25 HS25
  go_wp2_with (first
    | (go_at_call 8; go_must (refine (first8_any _).mono ?_; rintro e w27 ⟨rfl, hb27⟩; have HI27 := hid (HI26.out.below hb27); clear hb27))
    | (go_at_call 12; go_must (refine (decDead_any _ F26 gd gt _ _ _ _ HI27.out.dec).mono ?_; rintro e w28 ⟨rfl, rfl⟩)))
  go_ret
  exact ⟨rfl, HI27.out.out⟩
end Go.Proofs.YtdiejemhhcaicaaDoor
