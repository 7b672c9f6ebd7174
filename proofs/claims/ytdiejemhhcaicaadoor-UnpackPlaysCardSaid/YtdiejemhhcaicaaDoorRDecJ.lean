/- The reference's decoder: one representation by definition; its calls New, field, text, each once. Conditions: at most 2^30 bytes. -/
import Derived.Test.YtdiejemhhcaicaaDoorGu
import Derived.Test.YtdiejemhhcaicaaDoorGr
namespace Go.Proofs.YtdiejemhhcaicaaDoor
open Go.RowKit
attribute [local go_sem] kd kdS
attribute [local go_sem ↓] sliced_word
attribute [local go_sem] offA_zero

/-- One representation: its field, what is left, whether it is a limit, and the table behind it. -/
def oneD (most : Int) (L : List Fd) (bs : List UInt8) : Option (Fd × List UInt8 × Bool × Int × List Fd) :=
  match bs with
  | [] => none
  | b :: _ =>
    if 128 ≤ b.toNat then (match numP bs 7 with
      | none => none
      | some (n, r) => match atD L n with
        | none => none
        | some f => some (f, r, false, most, L))
    else if 64 ≤ b.toNat then (match litD L bs 6 with
      | none => none
      | some (f, r) => some (f, r, false, most, addL most L f))
    else if 32 ≤ b.toNat then (match numP bs 5 with
      | none => none
      | some (n, r) => if 4096 < n then none else some (⟨⟨#[]⟩, ⟨#[]⟩, false⟩, r, true, n, shr n L))
    else (match litD L bs 4 with
      | none => none
      | some (f, r) => some (⟨f.n, f.v, decide (16 ≤ b.toNat)⟩, r, false, most, L))
theorem stepD_one (s : DSt) : stepD s = match oneD s.most s.L s.bs with
    | none => none
    | some (f, r, lim, m, l) => if lim = true then (if s.acc ≠ [] ∨ 2 < s.told + 1 then none else some ⟨r, m, l, s.told + 1, s.acc⟩) else some ⟨r, m, l, s.told, s.acc ++ [f]⟩ := by
  obtain ⟨bs, most, L, told, acc⟩ := s
  unfold stepD oneD
  dsimp only
  rcases bs with _ | ⟨b, rest⟩
  · rfl
  · dsimp only
    split
    · rcases numP (b :: rest) 7 with _ | ⟨n, r⟩
      · rfl
      · dsimp only
        rcases atD L n with _ | f
        · rfl
        · rfl
    · split
      · rcases litD L (b :: rest) 6 with _ | ⟨f, r⟩
        · rfl
        · rfl
      · split
        · rcases numP (b :: rest) 5 with _ | ⟨n, r⟩
          · rfl
          · dsimp only
            by_cases h : 4096 < n
            · rw [if_pos h, if_pos (.inr (.inr h))]
            · rw [if_neg h]
              dsimp only
              rw [if_pos rfl]
              by_cases h2 : acc ≠ [] ∨ 2 < told + 1
              · rw [if_pos h2, if_pos (by rcases h2 with h2 | h2; exact .inl h2; exact .inr (.inl h2))]
              · rw [if_neg h2, if_neg (fun h3 => by
                  rcases h3 with h3 | h3 | h3
                  · exact h2 (.inl h3)
                  · exact h2 (.inr h3)
                  · exact h h3)]
        · rcases litD L (b :: rest) 4 with _ | ⟨f, r⟩
          · rfl
          · rfl

/-- The reference's decoder in block gd, its table in gt; the table's blocks are F. -/
structure RDec (w : World) (B : Nat) (F : List Nat) (gd gt : Nat) (dead : Bool) (most : Int) (L : List Fd) : Prop where
  blk : Blk w gd 41 #[.pointer (some ⟨gt, 0, none⟩), .bool dead]
  tb : RT w B F gt most L
  base : B ≤ gd
  ne : gd ∉ F
  ok : TabOk most L
section
variable {w w' : World} {B : Nat} {F F' : List Nat} {gd gt : Nat} {dead : Bool} {most : Int} {L : List Fd}
theorem RDec.below (h : RDec w B F gd gt dead most L) (hb : Below w.heap.size w w') : RDec w' B F gd gt dead most L :=
  ⟨h.blk.below hb h.blk.lt, h.tb.below hb, h.base, h.ne, h.ok⟩
theorem RDec.turned {G : List Nat} (h : RDec w B F gd gt dead most L) (ht : Turned G w w') (hd : ∀ k ∈ gd :: F, k ∉ G) : RDec w' B F gd gt dead most L :=
  ⟨h.blk.turned ht (hd gd (by simp)), h.tb.turned ht (fun k hk => hd k (by simp [hk])), h.base, h.ne, h.ok⟩
theorem RDec.ge_ (h : RDec w B F gd gt dead most L) : ∀ k ∈ gd :: F, B ≤ k ∧ k < w.heap.size := by
  intro k hk
  rcases List.mem_cons.1 hk with rfl | hk
  · exact ⟨h.base, h.blk.lt⟩
  · exact h.tb.ge k hk
theorem RDec.hB (h : RDec w B F gd gt dead most L) : B ≤ w.heap.size := by
  have := h.ge_ gd (by simp)
  omega
end
def RDecNew (w : World) (e : Ending) (w' : World) : Prop :=
  ∃ F gd gt, e = .returned (.pointer (some ⟨gd, 0, none⟩)) ∧ RDec w' w.heap.size F gd gt false 4096 [] ∧ Below w.heap.size w w'
set_option maxHeartbeats 400000 in
set_option maxRecDepth 100000 in
theorem rdecNew_any (w : World) : Calls Tryd.prog 13 #[] w (RDecNew w) := by
  go_enter Tryd.func13, Tryd.ntmps13
  go_wp2_with fail
  refine (rnew_any 4096 w).mono ?_
  intro e w1 hp
  unfold RNew at hp
  rw [if_neg (by omega)] at hp
  obtain ⟨F, rfl, h1, hb1⟩ := hp
  have H1 := hid h1
  have HB1 := hid hb1
  clear h1 hb1
  go_wp2_with fail
  go_ret
  have hb2 : Below w1.heap.size w1 (w1.alloc (.cells #[.pointer (some ⟨w.heap.size, 0, none⟩), .bool false] 41)) := (Below.refl _ _).alloc (Nat.le_refl _) _
  exact ⟨F, w1.heap.size, w.heap.size, rfl, ⟨Blk.new w1 _ _, H1.out.below hb2, HB1.out.size, fun hm => by have := (H1.out.ge _ hm).2; omega, by omega, by omega, by simp [total], fun f hf => by cases hf⟩, HB1.out.trans (hb2.mono HB1.out.size)⟩

/-- What text answers. -/
def RtPost (bs : List UInt8) (at_ : Nat) (w : World) (e : Ending) (w' : World) : Prop :=
  Below w.heap.size w w' ∧ match textD (bs.drop at_) with
  | none => ∃ (s : ByteArray) (i : Int), e = .returned (.tuple #[.string s, .int .i64 i, .bool false])
  | some (s, r) => ∃ k : Nat, at_ < k ∧ k ≤ bs.length ∧ r = bs.drop k ∧ e = .returned (.tuple #[.string ⟨s.toArray⟩, .int .i64 (k : Nat), .bool true])
theorem coded_drop {bs : List UInt8} {i : Nat} {x : UInt8} (h : bs[i]? = some x) : isCoded (bs.drop i) = decide (128 ≤ x.toNat) := by
  have hi := (List.getElem?_eq_some_iff.1 h).1
  rw [List.drop_eq_getElem_cons hi, (List.getElem?_eq_some_iff.1 h).2]
  rfl

set_option maxHeartbeats 1000000 in
set_option maxRecDepth 100000 in
theorem rtext_any (A : Option Addr) (n c : Nat) (bs : List UInt8) (at_ : Nat) (w : World) (h : Bs w A n bs) (hnc : n ≤ c) (hn : n ≤ 1073741824) (ha : at_ ≤ 1073741824) :
    Calls Tryd.prog 46 #[.slice A n c, .int .i64 at_] w (RtPost bs at_ w) := by
  have H := hid h
  have hlen := h.len
  have HL := hid hlen
  rcases Nat.lt_or_ge at_ n with hlt | hge
  rotate_left
  · have HNN : Hid (textD (bs.drop at_) = none) := hid (by rw [List.drop_eq_nil_of_le (by omega)]; rfl)
    clear h hlen
    go_enter Tryd.func46, Tryd.ntmps46
    go_wp2_with fail
    go_ret3
    unfold RtPost
    rw [HNN.out]
    exact ⟨Below.refl _ _, _, _, rfl⟩
  · obtain ⟨b, o, x, rfl, hx, hc⟩ := h.at_ hlt
    have hc1 : w.cell? ⟨b, o + at_, none⟩ = some (.int .u8 (x.toNat : Int)) := hc
    have HC1 := hid hc1
    have hx1 := x.toNat_lt
    have HCD := hid (coded_drop hx)
    obtain ⟨m, k, er, hR⟩ : ∃ m k er, getR (bs.drop at_) 7 = (m, k, er) := ⟨_, _, _, rfl⟩
    have HR := hid hR
    have HB := hid (h.off (Nat.le_of_lt hlt) hnc)
    have HG := hid (rget_all _ _ (c - at_) _ 7 w HB.out (by omega))
    clear h hlen hR hx hc hc1
    go_enter Tryd.func46, Tryd.ntmps46
    go_wp2_with fail
    refine HG.out.mono ?_
    rw [HR.out]
    rintro e w1 ⟨rfl, rfl⟩
    by_cases her : er = 0
    rotate_left
    · have HNN : Hid (textD (bs.drop at_) = none) := hid (textD_none (by unfold numP; rw [HR.out, if_neg her]))
      have her2 : (er != 0) = true := by simpa using her
      go_wp2_with fail
      go_ret3
      unfold RtPost
      rw [HNN.out]
      exact ⟨Below.refl _ _, _, _, rfl⟩
    · subst her
      have hk := getR_ok (l := bs.drop at_) (bits := 7) (by rw [HR.out])
      rw [HR.out, List.length_drop, HL.out] at hk
      simp only at hk
      obtain ⟨hk1, hk2, hk3⟩ := hk
      have HNP : Hid (numP (bs.drop at_) 7 = some (m, bs.drop (at_ + k))) := hid (by unfold numP; rw [HR.out, if_pos rfl, List.drop_drop])
      have hrl : (bs.drop (at_ + k)).length = n - (at_ + k) := by rw [List.length_drop, HL.out]
      have HRL := hid hrl
      clear hrl
      by_cases hb1 : 16384 < m
      · have HNN : Hid (textD (bs.drop at_) = none) := hid (textD_long HNP.out (.inl hb1))
        go_wp2_with fail
        go_ret3
        unfold RtPost
        rw [HNN.out]
        exact ⟨Below.refl _ _, _, _, rfl⟩
      by_cases hb2 : n - (at_ + k) < m
      · have HNN : Hid (textD (bs.drop at_) = none) := hid (textD_long HNP.out (.inr (by rw [HRL.out]; exact hb2)))
        have hb3 : (n : Int) - (at_ : Int) - (k : Int) < (m : Int) := by omega
        clear hb2
        go_wp2_with fail
        go_ret3
        unfold RtPost
        rw [HNN.out]
        exact ⟨Below.refl _ _, _, _, rfl⟩
      have HBAD := hid (show ¬ (16384 < m ∨ (bs.drop (at_ + k)).length < m) by rw [HRL.out]; omega)
      have hb3 : ¬ ((n : Int) - (at_ : Int) - (k : Int) < (m : Int)) := by omega
      have hb4 : (m : Int) ≤ (n : Int) - (at_ : Int) - (k : Int) := by omega
      obtain ⟨p, hp⟩ : ∃ p : Nat, at_ + k = p := ⟨_, rfl⟩
      obtain ⟨q, hq⟩ : ∃ q : Nat, p + m = q := ⟨_, rfl⟩
      have hpi : (at_ : Int) + (k : Int) = (p : Nat) := by omega
      have hqi : (p : Int) + (m : Int) = (q : Nat) := by omega
      have hqp : q - p = m := by omega
      have hqn : q ≤ n := by omega
      have hpq : p ≤ q := by omega
      have hap : at_ < p := by omega
      rw [hp] at HNP HRL HBAD
      have HBT : Hid (Bs w (offA (some ⟨b, o, none⟩) p c 1) m ((bs.drop p).take m)) := hid ((H.out.off (by omega) hnc).to (by omega))
      have HQ : Hid ((bs.drop p).drop m = bs.drop q) := hid (by rw [List.drop_drop, hq])
      have HAQ := hid (show at_ < q ∧ q ≤ bs.length from ⟨by omega, by rw [HL.out]; exact hqn⟩)
      have c1 := HC1.out
      clear hp hq hb2
      by_cases hcx : 128 ≤ x.toNat
      · have hcd : isCoded (bs.drop at_) = true := by rw [HCD.out, decide_eq_true hcx]
        obtain ⟨t, er, hd⟩ : ∃ t er, dec 16384 (bitsB ((bs.drop p).take m)) 0 0 [] = (t, er) := ⟨_, _, rfl⟩
        have HD := hid hd
        have HTC := hid (textD_coded HNP.out HBAD.out hcd hd)
        have HDC := hid (refDecode_any (offA (some ⟨b, o, none⟩) p c 1) m (c - p) 16384 ((bs.drop p).take m) w HBT.out (by omega))
        rw [HD.out] at HDC
        clear hd hcd
        go_wp2_with fail
        refine HDC.out.mono ?_
        rintro e w3 ⟨A3, c3, rfl, hb3, hbw3⟩
        have HB3 := hid hb3
        have HW3 := hid hbw3
        clear hb3 hbw3 c1
        by_cases her : er = 0
        · subst her
          have kc := run_str (P := Tryd.prog) (c := c3) HB3.out 29 9 5 Tryd.underlying29 Tryd.underlying5 Tryd.underlying9
          go_wp2_with fail
          go_ret3
          unfold RtPost
          rw [HTC.out, if_pos trivial]
          exact ⟨HW3.out, q, HAQ.out.1, HAQ.out.2, HQ.out, rfl⟩
        · have her2 : ((er : Int) != 0) = true := by simp; omega
          have her3 : ((er : Int) == 0) = false := by simp; omega
          have kc := run_str (P := Tryd.prog) (c := c3) HB3.out 29 9 5 Tryd.underlying29 Tryd.underlying5 Tryd.underlying9
          go_wp2_with fail
          go_ret3
          unfold RtPost
          rw [HTC.out, if_neg her]
          exact ⟨HW3.out, _, _, rfl⟩
      · have hcd : isCoded (bs.drop at_) = false := by rw [HCD.out, decide_eq_false hcx]
        have HTR := hid (textD_raw HNP.out HBAD.out hcd)
        have kc := run_str (P := Tryd.prog) (c := c - p) HBT.out 29 9 5 Tryd.underlying29 Tryd.underlying5 Tryd.underlying9
        clear hcd
        go_wp2_with fail
        go_ret3
        unfold RtPost
        rw [HTR.out]
        exact ⟨Below.refl _ _, q, HAQ.out.1, HAQ.out.2, HQ.out, rfl⟩

/-- A field that is stored into a box: its three cells. -/
def put3 (w : World) (p : Nat) (f : Fd) : World := ((w.setCell ⟨p, 0, none⟩ (.string f.n)).setCell ⟨p, 1, none⟩ (.string f.v)).setCell ⟨p, 2, none⟩ (.bool f.x)
theorem put3_box {w : World} {p : Nat} {g : Fd} (h : BoxAt w p g) (f : Fd) : BoxAt (put3 w p f) p f ∧ Turned [p] w (put3 w p f) := by
  have hB := ((Blk.set_ h 0 (.string f.n)).set_ 1 (.string f.v)).set_ 2 (.bool f.x)
  refine ⟨by unfold BoxAt put3; simpa using hB, (((Turned.refl _ _).setCell (by simp) _).setCell (by simp) _).setCell (by simp) _⟩
set_option maxRecDepth 100000 in
theorem rfield_end {R : Ending → World → Prop} {tm : Array Value} {w w2 : World} {p : Nat} {f g : Fd} {yb : Bool}
    (h4 : tm.getD 4 undef = .pointer (some ⟨p, 0, none⟩)) (h5 : tm.getD 5 undef = .bool yb) (hp : BoxAt w p g) (hw : put3 w p f = w2)
    (hR : Turned [p] w w2 → R (.returned (.tuple #[f.val, .bool yb])) w2) :
    bodyPost Tryd.prog Tryd.f44 R .ret { tmps := tm, defers := [] } w2 := by
  obtain ⟨hB, ht⟩ := put3_box hp f
  rw [hw] at hB ht
  obtain ⟨a0, a1, a2⟩ := BoxAt.c hB
  rw [Array.getD_eq_getD_getElem?] at h4 h5
  exact bodyPost_ret (v := .tuple #[.agg #[.string f.n, .string f.v, .bool f.x], .bool yb]) (by simp [results, Tryd.results44, go_sem, h4, h5, a0, a1, a2]) rfl (hR ht)

set_option maxHeartbeats 1000000 in
set_option maxRecDepth 100000 in
theorem rfield_any (i : Nat) {B gd gt : Nat} {F : List Nat} {dead : Bool} {most : Int} {L : List Fd} {w : World} (h : RDec w B F gd gt dead most L) (hi : i ≤ 2147483647) :
    Calls Tryd.prog 44 #[.pointer (some ⟨gd, 0, none⟩), .int .i64 i] w (KaPost L i w) := by
  have H := hid h
  have hL := h.ok.len
  have HC1 := hid (show w.cell? ⟨gd, 0, none⟩ = some (.pointer (some ⟨gt, 0, none⟩)) by have := h.blk.cell 0; simpa using this)
  clear h
  go_enter Tryd.func44, Tryd.ntmps44
  go_upto_region 1 with fail
  obtain ⟨wa, hwa⟩ : ∃ wa, w.alloc (.cells #[.string ⟨#[]⟩, .string ⟨#[]⟩, .bool false] 31) = wa := ⟨_, rfl⟩
  have hRa : BoxAt wa w.heap.size ⟨⟨#[]⟩, ⟨#[]⟩, false⟩ := by rw [← hwa]; exact Blk.new w _ _
  have hba : Below w.heap.size w wa := by rw [← hwa]; exact (Below.refl _ _).alloc (Nat.le_refl _) _
  have HR := hid hRa
  have HB := hid hba
  rw [hwa]
  have hpl : w.heap.size < wa.heap.size := Blk.lt hRa
  clear hRa hba hwa
  obtain ⟨p, hp⟩ : ∃ p, w.heap.size = p := ⟨_, rfl⟩
  have HP := hid hp
  rw [hp] at HR hpl ⊢
  clear hp
  by_cases h61 : 1 ≤ i ∧ i ≤ 61
  · obtain ⟨m, rfl⟩ : ∃ m, i = m + 1 := ⟨i - 1, by omega⟩
    have HA : Hid (atD L (m + 1) = some ⟨⟨(tabF (m + 1)).1.toArray⟩, ⟨(tabF (m + 1)).2.toArray⟩, false⟩) := hid (by unfold atD; rw [if_pos h61.2, if_pos h61.1])
    have HG := hid (static_yes m (by omega) wa)
    generalize tabF (m + 1) = q at HA HG
    go_wp2_with fail
    refine HG.out.mono ?_
    rintro e w2 ⟨rfl, hb2⟩
    go_upto_region 2 with fail
    obtain ⟨w3, hw3⟩ : ∃ w3, w2.alloc (.cells #[.string ⟨q.1.toArray⟩, .string ⟨q.2.toArray⟩, .bool false] 31) = w3 := ⟨_, rfl⟩
    have hX : BoxAt w3 w2.heap.size ⟨⟨q.1.toArray⟩, ⟨q.2.toArray⟩, false⟩ := by rw [← hw3]; exact Blk.new w2 _ _
    have hb3 : Below w2.heap.size w2 w3 := by rw [← hw3]; exact (Below.refl _ _).alloc (Nat.le_refl _) _
    rw [hw3]
    have hb4 := hb2.trans (hb3.mono hb2.size)
    have hR3 := BoxAt.below HR.out hb4
    have HR3 := hid hR3
    obtain ⟨c0, c1, c2⟩ := BoxAt.c hX
    have k0 := Blk.frozen hR3 0
    have k1 := Blk.frozen hR3 1
    have k2 := Blk.frozen hR3 2
    obtain ⟨d0, d1, d2⟩ := BoxAt.c hR3
    have HB3 := hid (HB.out.trans (hb4.mono HB.out.size))
    clear hX hb2 hb3 hb4 hw3 hR3 HR HB
    generalize w2.heap.size = p2 at c0 c1 c2 ⊢
    go_wp2_with fail
    refine rfield_end (f := ⟨⟨q.1.toArray⟩, ⟨q.2.toArray⟩, false⟩) rfl rfl HR3.out rfl (fun ht => ⟨_, by rw [HA.out]; rfl, fun f' hf => by rw [HA.out] at hf; injection hf, HB3.out.trans (ht.below (by simp; exact Nat.le_of_eq HP.out) HB3.out.size)⟩)
  · have HG := hid (static_no (i : Int) (by omega) wa)
    have HA : Hid (atD L i = if (getF L ((i : Int) - 61)).2 then some (getF L ((i : Int) - 61)).1 else none) := hid (by
      unfold atD
      by_cases h0 : i ≤ 61
      · rw [if_pos h0, if_neg (by omega)]
        have : (getF L ((i : Int) - 61)).2 = false := by unfold getF; rw [if_neg (by omega)]
        rw [this]
        rfl
      · rw [if_neg h0])
    have hw1 := IntWalk.i64_in ((i : Int) - 61) (by omega)
    go_wp2_with fail
    refine HG.out.mono ?_
    rintro e w2 ⟨rfl, hb2⟩
    go_upto_region 2 with fail
    obtain ⟨w3, hw3⟩ : ∃ w3, w2.alloc (.cells #[.string ByteArray.empty, .string ByteArray.empty, .bool false] 31) = w3 := ⟨_, rfl⟩
    have hb3 : Below w2.heap.size w2 w3 := by rw [← hw3]; exact (Below.refl _ _).alloc (Nat.le_refl _) _
    rw [hw3]
    have hb4 := hb2.trans (hb3.mono hb2.size)
    have HR3 := hid (BoxAt.below HR.out hb4)
    have HB3 := hid (HB.out.trans (hb4.mono HB.out.size))
    have HGT := hid (rtget_any ((i : Int) - 61) (H.out.tb.below HB3.out) (by omega))
    have c1 := below_keep HB3.out _ _ HC1.out
    clear hb2 hb3 hb4 hw3 HR HB HC1
    generalize w2.heap.size = p2
    generalize (getF L ((i : Int) - 61)).1 = y at HA HGT
    generalize (getF L ((i : Int) - 61)).2 = yb at HA HGT
    go_wp2_with fail
    refine HGT.out.mono ?_
    rintro e w5 ⟨rfl, hb5⟩
    have hR5 := BoxAt.below HR3.out hb5
    have HR5 := hid hR5
    have k0 := Blk.frozen hR5 0
    have k1 := Blk.frozen hR5 1
    have k2 := Blk.frozen hR5 2
    obtain ⟨d0, d1, d2⟩ := BoxAt.c hR5
    have HB5 := hid (HB3.out.trans (hb5.mono HB3.out.size))
    clear hb5 hR5 c1 HR3 HB3 HGT
    go_wp2_with fail
    refine rfield_end (f := y) rfl rfl HR5.out rfl (fun ht => ⟨y, by rw [HA.out]; cases yb <;> rfl, fun f' hf => by rw [HA.out] at hf; cases yb with | false => cases hf | true => injection hf, HB5.out.trans (ht.below (by simp; exact Nat.le_of_eq HP.out) HB5.out.size)⟩)
end Go.Proofs.YtdiejemhhcaicaaDoor
