/- The law TunnelPieces walked. -/
import Derived.Test.YtefhadfcipifmaaTunI
namespace Go.Proofs.Ytefhadfcipifmaa
open Go.RowKit
attribute [local go_sem] kd kdS if_min if_max if_minN if_maxN
attribute [local go_sem ↓] sliced_word
attribute [local go_sem] offA_zero

/-- What the tunnel holds when a bytes went in and o came out. -/
def pV (l : List UInt8) (a o : Nat) (en sh : Bool) : TV := ⟨1, 1, 1, 0, 10, 3, en, sh, false, false, (l.take a).drop o, [], o, 0, o, 0⟩
/-- The tunnel, and what came out so far. -/
structure PI (w w1 : World) (tb : Nat) (l : List UInt8) (a o : Nat) (en sh : Bool) (GA : Option Addr) (gc : Nat) : Prop where
  ti : TI w w1 tb (pV l a o en sh) ((Value.slice GA o gc).ownBlock.toList)
  own : w1.ownsRow w.heap.size 5 1 (.slice GA o gc) o ((l.take o).map bv)
  le : o ≤ a

theorem pV_few {l : List UInt8} {a o : Nat} {en sh : Bool} (h : o ≤ 2000) : (pV l a o en sh).Few := few_at (by omega) (by omega) (by omega) (by omega) (by omega) (by omega)
theorem pV_up {l : List UInt8} {a o : Nat} {en sh : Bool} (ha : a ≤ l.length) : (pV l a o en sh).up.length = a - o := by
  show ((l.take a).drop o).length = _
  rw [List.length_drop, List.length_take, Nat.min_eq_left ha]
theorem pV_acc {l : List UInt8} {a o k : Nat} {en en' sh : Bool} (ho : o ≤ a) (ha : a + k ≤ l.length) (l1 : List UInt8) (h1 : l1.take k = (l.drop a).take k) : accV (pV l a o en sh) l1 en' k = pV l (a + k) o en' sh := by
  have e : (l.take a).drop o ++ l1.take k = (l.take (a + k)).drop o := by
    rw [h1, List.take_add, List.drop_append_of_le_length (by rw [List.length_take]; omega)]
  show TV.mk 1 1 1 0 10 3 en' sh false false ((l.take a).drop o ++ l1.take k) [] o 0 o 0 = _
  rw [e]
  rfl
theorem pV_wr {l : List UInt8} {a o k : Nat} {en sh : Bool} : wrV (pV l a o en sh) k 0 = pV l a (o + k) en (sh || wrS (pV l a o en sh) k) := by
  have e : ((l.take a).drop o).drop k = (l.take a).drop (o + k) := List.drop_drop
  unfold wrV movV
  by_cases hk : k + 0 = 0
  · rw [if_pos hk]
    have : k = 0 := by omega
    subst this
    show TV.mk 1 1 1 0 10 3 en (sh || wrS (pV l a o en sh) 0) false false (((l.take a).drop o).drop 0) [] (o + 0) 0 o 0 = _
    rw [e]
    rfl
  · rw [if_neg hk]
    show TV.mk 1 1 1 0 10 3 en (sh || wrS (pV l a o en sh) k) false false (((l.take a).drop o).drop k) [] (o + k) 0 (o + k) 0 = _
    rw [e]
    rfl

section
variable {w w1 : World} {tb : Nat} {l : List UInt8} {a o : Nat} {en sh : Bool} {GA : Option Addr} {gc : Nat}
theorem PI.kept {w2 : World} {a' : Nat} {en' sh' : Bool} (h : PI w w1 tb l a o en sh GA gc) (ht : TI w w2 tb (pV l a' o en' sh') ((Value.slice GA o gc).ownBlock.toList)) (hk : Kept ((Value.slice GA o gc).ownBlock.toList) w1 w2) (ha : o ≤ a') : PI w w2 tb l a' o en' sh' GA gc :=
  ⟨ht, hk.own h.own (fun b hb => by simp [hb]), ha⟩
theorem PI.below {w2 : World} (h : PI w w1 tb l a o en sh GA gc) (hb : Below w1.heap.size w1 w2) : PI w w2 tb l a o en sh GA gc :=
  ⟨h.ti.below hb, own_below h.own hb, h.le⟩
/-- Some go in. -/
theorem pi_acc (h : PI w w1 tb l a o false sh GA gc) (A : Option Addr) (e c : Nat) (kI : Int) (en' : Bool) (hs : Bs w A (e - a) ((l.take e).drop a)) (hc : e - a ≤ c) (ha : a ≤ e) (he : e ≤ l.length) (hn : l.length ≤ 2000) (hk : kI = ((e - a : Nat) : Int)) :
    Calls Try.prog 11 #[.pointer (some ⟨tb, 0, none⟩), .slice A (e - a) c, .bool en'] w1 fun v w' => v = .returned (.int .i64 kI) ∧ PI w w' tb l e o en' sh GA gc := by
  have hle := h.le
  subst hk
  refine (ti_acc A (e - a) c _ en' h.ti (show (3 : Int) ≠ 4 by decide) rfl (pV_few (by omega)) (bs_low hs h.ti.low h.ti.tb_ge.1) hc (by omega)).mono ?_
  have hp : putN (e - a) 65535 (pV l a o false sh).up.length = e - a := by
    rw [pV_up (by omega)]
    unfold putN
    omega
  rw [hp]
  rintro v w' ⟨rfl, ht, hk⟩
  have e1 := pV_acc (l := l) (en := false) (en' := en') (sh := sh) (k := e - a) hle (by omega) ((l.take e).drop a) (by rw [List.drop_take, List.take_take, Nat.min_self])
  rw [e1, show a + (e - a) = e by omega] at ht
  exact ⟨rfl, h.kept ht hk (by omega)⟩
theorem pV_wrS {k : Nat} (ha : a ≤ l.length) : wrS (pV l a o en sh) k = ((en && decide (a - o = k)) && !sh) := by
  unfold wrS
  rw [pV_up ha]
  rfl
/-- Some came out, and lie in a row of their own. -/
structure PW (w w1 : World) (tb : Nat) (l : List UInt8) (a o k : Nat) (en sh : Bool) (GA : Option Addr) (gc : Nat) (XA : Option Addr) : Prop where
  ti : TI w w1 tb (pV l a (o + k) en sh) ((Value.slice GA o gc).ownBlock.toList)
  own : w1.ownsRow w.heap.size 5 1 (.slice GA o gc) o ((l.take o).map bv)
  row : Bs w1 XA k (((l.take a).drop o).take k)
  le : o + k ≤ a
theorem PW.below {w2 : World} {k : Nat} {XA : Option Addr} (h : PW w w1 tb l a o k en sh GA gc XA) (hb : Below w1.heap.size w1 w2) : PW w w2 tb l a o k en sh GA gc XA :=
  ⟨h.ti.below hb, own_below h.own hb, h.row.below hb, h.le⟩
theorem PW.app {w2 : World} {k : Nat} {XA A2 : Option Addr} {c2 : Nat} (h : PW w w1 tb l a o k en sh GA gc XA) (ho3 : w2.ownsRow w.heap.size 5 1 (.slice A2 (o + k) c2) (o + k) ((l.take o).map bv ++ (((l.take a).drop o).take k).map bv)) (hg : w1.grownBy w2 (Value.slice GA o gc).ownBlock)
    (hat : (Value.slice A2 (o + k) c2).ownBlock = (Value.slice GA o gc).ownBlock ∨ (Value.slice A2 (o + k) c2).ownBlock = some w1.heap.size) : PI w w2 tb l a (o + k) en sh A2 c2 := by
  have hle := h.le
  refine ⟨?_, ?_, h.le⟩
  · have hT : Turned (Value.slice GA o gc).ownBlock.toList w1 w2 := Turned.grown (Turned.refl _ _) hg (fun q hq => .inl (by simp [hq]))
    have hW : ∀ b ∈ (Value.slice GA o gc).ownBlock.toList, w.heap.size ≤ b := fun b hb => (h.own.lt b (by simpa using hb)).1
    rcases hat with e | e
    · rw [e]
      exact h.ti.turned hT (fun b hb => hb) hW
    · have hlt := (ho3.lt _ e).2
      refine (h.ti.add (.inr ⟨_, hT, fun b hb => hb, hW⟩) (Nat.le_refl _) hlt).mono (fun b hb => ?_)
      rw [e] at hb
      have : b = w1.heap.size := by simpa using hb
      rw [this]
      exact List.mem_cons_self
  · rw [← List.map_append] at ho3
    have e : l.take o ++ ((l.take a).drop o).take k = l.take (o + k) := by
      rw [List.drop_take, List.take_take, Nat.min_eq_left (by omega), ← List.take_add]
    rw [e] at ho3
    exact ho3
/-- Some come out. -/
theorem pi_write (h : PI w w1 tb l a o en sh GA gc) (m : Int) (sh' : Bool) (k : Nat) (hkk : lookN m (a - o) = k) (he : ((en && decide (a - o = k)) && !sh) = sh') (ha : a ≤ l.length) (hn : l.length ≤ 2000) :
    Calls Try.prog 12 #[.pointer (some ⟨tb, 0, none⟩), .int .i64 m, .int .i64 0] w1 fun e w' => ∃ A' c', e = .returned (.tuple #[.slice A' k c', .bool sh']) ∧ PW w w' tb l a o k en (sh || sh') GA gc A' := by
  have hle := h.le
  refine (ti_write m 0 h.ti rfl (pV_few (by omega))).mono ?_
  rw [pV_up ha]
  have hk := lookN_le m (a - o)
  rw [hkk] at hk ⊢
  rintro e w' ⟨A', c', rfl, hown, ht, hkp⟩
  rw [pV_wrS ha, he]
  rw [pV_wr, pV_wrS ha, he] at ht
  exact ⟨A', c', rfl, ht.mono (fun b hb => List.mem_append_right _ hb), hkp.own h.own (fun b hb => by simp [hb]), Bs.of_own hown, by omega⟩
end

theorem pi_new (w : World) {w1 : World} {tb : Nat} (l : List UInt8) (h : TI w w1 tb ⟨1, 1, 1, 0, 10, 3, false, false, false, false, [], [], 0, 0, 0, 0⟩ []) : PI w w1 tb l 0 0 false false none 0 := by
  refine ⟨?_, World.ownsRow_nil _ _ _ _, Nat.le_refl _⟩
  exact h

set_option maxHeartbeats 40000000 in
set_option maxRecDepth 100000 in
theorem tpieces_walk (A : Option Addr) (n c : Nat) (l : List UInt8) (A1 : Option Addr) (n1 c1 : Nat) (l1 : List Int) (A2 : Option Addr) (n2 c2 : Nat) (l2 : List Int) (w : World) (hs : Bs w A n l) (hc : n ≤ c) (hs1 : Is w A1 n1 l1) (hs2 : Is w A2 n2 l2) :
    Calls Try.prog 3 #[.slice A n c, .slice A1 n1 c1, .slice A2 n2 c2] w fun e w' => e = .returned (.bool true) ∧ Below w.heap.size w w' := by
  have HS := hid hs
  have HS1 := hid hs1
  have HS2 := hid hs2
  clear hs hs1 hs2
  by_cases hbad : 2000 < n ∨ 200 < n1 ∨ 200 < n2
  · go_enter Try.func3, Try.ntmps3
    go_wp2_with fail
    refine (first_any w).mono ?_
    rintro e w1 ⟨rfl, hb1⟩
    have HB1 := hid hb1
    clear hb1
    go_wp2_with (go_at_call 7; (with_reducible refine (first_any _).mono ?_); rintro e w2 ⟨rfl, hb2⟩; have HB2 := hid hb2; clear hb2)
    all_goals first | (exfalso; omega) | skip
    all_goals
      go_ret
      exact ⟨rfl, HB1.out.trans (HB2.out.mono HB1.out.size)⟩
  · have hn : n ≤ 2000 := by omega
    have hn1 : n1 ≤ 200 := by omega
    have hn2 : n2 ≤ 200 := by omega
    clear hbad
    have hln : l.length = n := HS.out.len
    have hln2 : l.length ≤ 2000 := by omega
    obtain ⟨i0, hi0, hz0, hz1, hz2⟩ := info_parts u8_info
    have hi := hid hi0
    have hz := hid hz0
    have hsz := hid hz1
    have hby := hid hz2
    clear hi0 hz0 hz1 hz2
    go_enter Try.func3, Try.ntmps3
    go_wp2_with fail
    refine (first_any w).mono ?_
    rintro e w1 ⟨rfl, hb1⟩
    have HB1 := hid hb1
    clear hb1
    go_wp2_with fail
    go_must (refine (ti_new 1 1 1 0 _ _ _ 80 10 HB1.out (by decide)).mono ?_)
    rintro e w2 ⟨tb, rfl, ht⟩
    have HT2 := hid ht
    clear ht
    go_wp2_with fail
    go_must (refine (ti_dial _ 0 HT2.out rfl).mono ?_)
    rintro e w3 ⟨rfl, ht, _⟩
    have HT3 := hid ht
    clear ht HT2
    go_wp2_with fail
    go_must (refine (ti_opened 0 HT3.out rfl).mono ?_)
    rintro e w4 ⟨rfl, ht, _⟩
    have HP4 := hid (pi_new w l ht)
    clear ht HT3
    go_wp2_with fail
    go_loopw [8, 9, 10] (fun at_ got i wr => ∃ a o k : Nat, ∃ GA gc, a ≤ n ∧ k ≤ 200 ∧ at_ = .int .i64 a ∧ got = .slice GA o gc ∧ i = .int .i64 k ∧ PI w wr tb l a o false false GA gc) (fun _ _ i _ => 200 - (intOf i).toNat)
    case atStart => exact ⟨0, 0, 0, none, 0, Nat.zero_le _, by omega, rfl, rfl, rfl, HP4.out⟩
    case round =>
      obtain ⟨a, o, k, GA, gc, ha, hk, rfl, rfl, rfl, hinv⟩ := hrel
      have HI := hid hinv
      have hle := hinv.le
      have HB := hid hinv.ti.low
      clear hinv
      have hqa := IntWalk.i64_in ((n : Int) - a) (by omega)
      by_cases hend : n1 ≤ k ∧ n2 ≤ k
      · clear HP4
        obtain ⟨z0, z1⟩ := hend
        have hsl := ((HS.out).to (Nat.le_refl n)).off (k := a) (cap := c) ha (by omega)
        have HX := hid hsl
        clear hsl
        go_wp2_with fail
        go_must (refine (pi_acc HI.out (offA A a c 1) n (c - a) ((n : Int) - a) true HX.out (by omega) ha (by omega) hln2 (by omega)).mono ?_)
        rintro e w5 ⟨rfl, h5⟩
        have H5 := hid h5
        clear h5 HX
        go_wp2_with fail
        have hk5 : lookN 5000 (n - o) = n - o := by unfold lookN; omega
        go_must (refine (pi_write H5.out 5000 true (n - o) hk5 (by rw [decide_eq_true rfl]; rfl) (by omega) hln2).mono ?_)
        rintro e w6 ⟨A6, c6, rfl, h6⟩
        have H6 := hid h6
        have hs6 := h6.ti.low.size
        clear h6 HI HB H5
        go_wp2_with fail
        refine (first_any w6).mono ?_
        rintro e w7 ⟨rfl, hb7⟩
        have H7 := hid (H6.out.below hb7)
        have hs7 : w.heap.size ≤ w7.heap.size := Nat.le_trans hs6 hb7.size
        clear hb7 H6
        have hon : o + (n - o) = n := by omega
        go_wp2_with (at_builtin; go_loud (refine wpList_appG _ rfl _ _ _ rfl w.heap.size 5 i0 _ 1 1 Try.underlying22 hi.out hz.out hsz.out hby.out rfl (by omega) _ o _ rfl H7.out.own A6 (n - o) c6 _ rfl H7.out.row (bv_one _) (by omega) (by omega) hs7 ?_; intro A8 c8 w8 ho8 hg8 hc8; have h8 := H7.out.app ho8 hg8 hc8; rw [hon] at h8; have H8 := hid h8; clear h8 ho8 hg8 hc8))
        refine (same_bytes _ _ n _ n _ l l _ ?_ (HS.out.below (H8.out.ti.low.mono (Nat.le_refl _)))).mono ?_
        · have h := Bs.of_own H8.out.own
          rw [List.take_of_length_le (by omega)] at h
          exact h
        rw [beq_self_eq_true]
        rintro e w9 ⟨rfl, rfl⟩
        go_wp2_with fail
        go_must (refine (ti_waits H8.out.ti).mono ?_)
        have hz9 : ((pV l n n true (false || true)).up.length : Int) = 0 := by rw [pV_up (by omega)]; omega
        rw [hz9]
        rintro e w9 ⟨rfl, rfl⟩
        go_wp2_with fail
        go_ret
        exact ⟨rfl, H8.out.ti.low⟩
      · clear HP4
        by_cases hk1 : k < n1
        · obtain ⟨b1, o1, x, rfl, hx, hx1⟩ := HS1.out.at_ hk1
          have hx1 := below_keep (HB.out.mono (Nat.le_refl _)) _ _ hx1
          clear hx
          by_cases hk2 : k < n2
          · obtain ⟨b2, o2, y, rfl, hy, hy0⟩ := HS2.out.at_ hk2
            have hy1 := below_keep (HB.out.mono (Nat.le_refl _)) _ _ hy0
            have HY := hid hy0
            clear hy hy0
            by_cases hx0 : 0 < x
            · skip
              obtain ⟨kk, hkk⟩ : ∃ kk : Nat, min ((n : Int) - a) x = (kk : Int) := ⟨(min ((n : Int) - a) x).toNat, by omega⟩
              obtain ⟨e, he⟩ : ∃ e : Nat, (a : Int) + (kk : Int) = (e : Int) := ⟨a + kk, by omega⟩
              have hw := IntWalk.i64_in ((a : Int) + kk) (by omega)
              have hw2 := IntWalk.i64_in (e : Int) (by omega)
              have hae : a ≤ e := by omega
              have hen : e ≤ l.length := by omega
              have hsl := ((HS.out).to (show e ≤ n by omega)).off (k := a) (cap := c) hae (by omega)
              have HX := hid hsl
              clear hsl
              obtain ⟨t6, ht6⟩ : ∃ t, lookN y (e - o) = t := ⟨_, rfl⟩
              have hm6 : (t6 : Int) ≤ max y 0 := by have := lookN_int y (e - o); omega
              have HM6 := hid hm6
              clear hm6
              have he2 : e = a + kk := by omega
              have he3 : e ≤ c := by omega
              have HE2 := hid he2
              go_upto_region 15 with fail
              clear hkk hx0 hx1 he2
              go_wp2_with fail
              go_must (refine (pi_acc HI.out (offA A a c 1) e (c - a) (kk : Int) false HX.out (by omega) hae hen hln2 (by omega)).mono ?_)
              rintro v w5 ⟨rfl, h5⟩
              have hy1 := below_keep (h5.ti.low.mono (Nat.le_refl _)) _ _ HY.out
              have HI := hid h5
              clear h5
              go_wp2_with fail
              go_must (refine (pi_write HI.out y false t6 ht6 rfl (by omega) hln2).mono ?_)
              rintro v w6 ⟨A6, c6, rfl, h6⟩
              have hy1 := below_keep (h6.ti.low.mono (Nat.le_refl _)) _ _ HY.out
              have H6 := hid (show PW w w6 tb l e o t6 false false GA gc A6 from h6)
              have hle6 := h6.le
              have hs6 := h6.ti.low.size
              clear h6 HI
              have hm6 := HM6.out
              go_wp2_with (at_builtin; go_loud (refine wpList_app _ rfl _ _ _ rfl w.heap.size 5 i0 _ 1 1 Try.underlying22 hi.out hz.out hsz.out hby.out rfl (by omega) _ o _ rfl H6.out.own A6 t6 c6 _ rfl H6.out.row (bv_one _) (by omega) (by omega) hs6 ?_; intro A7 c7 w7 ho7 hg7 hc7; have HI := hid (H6.out.app ho7 hg7 hc7); clear ho7 hg7 hc7))
              all_goals
                go_roundw
                case rel => exact ⟨e, o + t6, k + 1, _, _, by omega, by omega, by go_num, rfl, by go_num, HI.out⟩
                case measure => simp [intOf]; omega
            · skip
              obtain ⟨t6, ht6⟩ : ∃ t, lookN y (a - o) = t := ⟨_, rfl⟩
              have hm6 : (t6 : Int) ≤ max y 0 := by have := lookN_int y (a - o); omega
              have HM6 := hid hm6
              clear hm6
              go_wp2_with fail
              go_must (refine (pi_write HI.out y false t6 ht6 rfl (by omega) hln2).mono ?_)
              rintro v w6 ⟨A6, c6, rfl, h6⟩
              have hy1 := below_keep (h6.ti.low.mono (Nat.le_refl _)) _ _ HY.out
              have H6 := hid (show PW w w6 tb l a o t6 false false GA gc A6 from h6)
              have hle6 := h6.le
              have hs6 := h6.ti.low.size
              clear h6 HI
              have hm6 := HM6.out
              go_wp2_with (at_builtin; go_loud (refine wpList_app _ rfl _ _ _ rfl w.heap.size 5 i0 _ 1 1 Try.underlying22 hi.out hz.out hsz.out hby.out rfl (by omega) _ o _ rfl H6.out.own A6 t6 c6 _ rfl H6.out.row (bv_one _) (by omega) (by omega) hs6 ?_; intro A7 c7 w7 ho7 hg7 hc7; have HI := hid (H6.out.app ho7 hg7 hc7); clear ho7 hg7 hc7))
              all_goals
                go_roundw
                case rel => exact ⟨a, o + t6, k + 1, _, _, by omega, by omega, by go_num, rfl, by go_num, HI.out⟩
                case measure => simp [intOf]; omega
          · by_cases hx0 : 0 < x
            · skip
              obtain ⟨kk, hkk⟩ : ∃ kk : Nat, min ((n : Int) - a) x = (kk : Int) := ⟨(min ((n : Int) - a) x).toNat, by omega⟩
              obtain ⟨e, he⟩ : ∃ e : Nat, (a : Int) + (kk : Int) = (e : Int) := ⟨a + kk, by omega⟩
              have hw := IntWalk.i64_in ((a : Int) + kk) (by omega)
              have hw2 := IntWalk.i64_in (e : Int) (by omega)
              have hae : a ≤ e := by omega
              have hen : e ≤ l.length := by omega
              have hsl := ((HS.out).to (show e ≤ n by omega)).off (k := a) (cap := c) hae (by omega)
              have HX := hid hsl
              clear hsl
              have he2 : e = a + kk := by omega
              have he3 : e ≤ c := by omega
              have HE2 := hid he2
              go_upto_region 15 with fail
              clear hkk hx0 hx1 he2
              go_wp2_with fail
              go_must (refine (pi_acc HI.out (offA A a c 1) e (c - a) (kk : Int) false HX.out (by omega) hae hen hln2 (by omega)).mono ?_)
              rintro v w5 ⟨rfl, h5⟩
              skip
              have HI := hid h5
              clear h5
              go_wp2_with fail
              all_goals
                go_roundw
                case rel => exact ⟨e, o, k + 1, _, _, by omega, by omega, by go_num, rfl, by go_num, HI.out⟩
                case measure => simp [intOf]; omega
            · skip
              go_wp2_with fail
              all_goals
                go_roundw
                case rel => exact ⟨a, o, k + 1, _, _, by omega, by omega, by go_num, rfl, by go_num, HI.out⟩
                case measure => simp [intOf]; omega
        · have hk2 : k < n2 := by omega
          obtain ⟨b2, o2, y, rfl, hy, hy0⟩ := HS2.out.at_ hk2
          have hy1 := below_keep (HB.out.mono (Nat.le_refl _)) _ _ hy0
          have HY := hid hy0
          clear hy hy0
          obtain ⟨t6, ht6⟩ : ∃ t, lookN y (a - o) = t := ⟨_, rfl⟩
          have hm6 : (t6 : Int) ≤ max y 0 := by have := lookN_int y (a - o); omega
          have HM6 := hid hm6
          clear hm6
          go_wp2_with fail
          go_must (refine (pi_write HI.out y false t6 ht6 rfl (by omega) hln2).mono ?_)
          rintro v w6 ⟨A6, c6, rfl, h6⟩
          have hy1 := below_keep (h6.ti.low.mono (Nat.le_refl _)) _ _ HY.out
          have H6 := hid (show PW w w6 tb l a o t6 false false GA gc A6 from h6)
          have hle6 := h6.le
          have hs6 := h6.ti.low.size
          clear h6 HI
          have hm6 := HM6.out
          go_wp2_with (at_builtin; go_loud (refine wpList_app _ rfl _ _ _ rfl w.heap.size 5 i0 _ 1 1 Try.underlying22 hi.out hz.out hsz.out hby.out rfl (by omega) _ o _ rfl H6.out.own A6 t6 c6 _ rfl H6.out.row (bv_one _) (by omega) (by omega) hs6 ?_; intro A7 c7 w7 ho7 hg7 hc7; have HI := hid (H6.out.app ho7 hg7 hc7); clear ho7 hg7 hc7))
          all_goals
            go_roundw
            case rel => exact ⟨a, o + t6, k + 1, _, _, by omega, by omega, by go_num, rfl, by go_num, HI.out⟩
            case measure => simp [intOf]; omega
end Go.Proofs.Ytefhadfcipifmaa
