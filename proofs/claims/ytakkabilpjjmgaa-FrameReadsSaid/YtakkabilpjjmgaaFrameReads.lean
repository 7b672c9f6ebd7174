/- The law FrameReads walked: whatever pieces come in, both parsers answer alike. -/
import Derived.Test.YtakkabilpjjmgaaFrameBoth
namespace Go.Proofs.Ytakkabilpjjmgaa
open Go.RowKit
attribute [local go_sem] kd kdS if_min if_max if_minN if_maxN

/-- A piece of bytes, with where it lies. -/
structure Row where
  A : Option Addr
  n : Nat
  c : Nat
  l : List UInt8
def Row.val (x : Row) : Value := .slice x.A x.n x.c

/-- Slices of bytes. -/
structure Rws (w : World) (A : Option Addr) (n : Nat) (rs : List Row) : Prop where
  len : rs.length = n
  at_ : 0 < n → ∃ b o, A = some ⟨b, o, none⟩ ∧ ∀ i x, rs[i]? = some x → w.cell? ⟨b, o + i, none⟩ = some (.slice x.A x.n x.c)
  body : ∀ x ∈ rs, Bs w x.A x.n x.l ∧ x.n ≤ x.c
theorem Rws.below {w w' : World} {A : Option Addr} {n : Nat} {rs : List Row} (h : Rws w A n rs) (hb : Below w.heap.size w w') : Rws w' A n rs :=
  ⟨h.len, fun hn => by
    obtain ⟨b, o, e, hc⟩ := h.at_ hn
    exact ⟨b, o, e, fun i x hx => below_keep hb _ _ (hc i x hx)⟩, fun x hx => ⟨(h.body x hx).1.below hb, (h.body x hx).2⟩⟩

def rowSum (rs : List Row) (k : Nat) : Nat := ((rs.take k).map fun x => min x.n 40001).sum
theorem rowSum_succ {rs : List Row} {k : Nat} {x : Row} (h : rs[k]? = some x) : rowSum rs (k + 1) = rowSum rs k + min x.n 40001 := by
  obtain ⟨hk, hx⟩ := List.getElem?_eq_some_iff.1 h
  unfold rowSum
  rw [List.take_succ_eq_append_getElem hk, hx]
  simp
theorem rowSum_le (rs : List Row) (k : Nat) : rowSum rs k ≤ k * 40001 := by
  induction k with
  | zero => simp [rowSum]
  | succ k ih =>
    rw [Nat.add_mul, Nat.one_mul]
    generalize k * 40001 = q at ih
    rcases h : rs[k]? with _ | x
    · have e : rowSum rs (k + 1) = rowSum rs k := by
        have hl : rs.length ≤ k := by simpa using h
        unfold rowSum
        rw [List.take_of_length_le (by omega), List.take_of_length_le hl]
      rw [e]
      exact Nat.le_trans ih (Nat.le_add_right _ _)
    · rw [rowSum_succ h]
      exact Nat.add_le_add ih (Nat.min_le_right _ _)
theorem rowSum_mono (rs : List Row) {j k : Nat} (h : j ≤ k) : rowSum rs j ≤ rowSum rs k := by
  obtain ⟨d, rfl⟩ : ∃ d, k = j + d := ⟨k - j, by omega⟩
  unfold rowSum
  rw [List.take_add]
  simp

theorem sameB_refl (k f s : Int) (l : List UInt8) : sameB k f s l k f s l = true := by simp [sameB]

set_option maxHeartbeats 4000000 in
set_option maxRecDepth 100000 in
theorem reads_walk (room : Int) (A : Option Addr) (n c : Nat) (rs : List Row) (w : World) (hs : Rws w A n rs) (hn : n ≤ 140737488355328) :
    Calls Try.prog 6 #[.int .i64 room, .slice A n c] w fun e w' => e = .returned (.bool true) ∧ Below w.heap.size w w' := by
  have HS := hid hs
  have HLN := hid hs.len
  clear hs
  obtain ⟨i0, hi0, hz0, hz1, hz2⟩ := info_parts u8_info
  have hi := hid hi0
  have hz := hid hz0
  have hsz := hid hz1
  have hby := hid hz2
  clear hi0 hz0 hz1 hz2
  go_enter Try.func6, Try.ntmps6
  go_wp2_with fail
  refine (first_any w).mono ?_
  rintro e w1 ⟨rfl, hb1⟩
  have HB1 := hid hb1
  clear hb1
  have HS1 := hid (HS.out.below HB1.out)
  go_wp2_with fail
  go_loop [5, 6] (fun s i => ∃ k : Nat, k ≤ n ∧ k ≤ 100 ∧ i = .int .i64 k ∧ s = .int .i64 (rowSum rs k)) (fun _ i => 100 - (intOf i).toNat)
  case atStart => exact ⟨0, Nat.zero_le _, by omega, rfl, rfl⟩
  case round =>
    obtain ⟨k, hk, hk1, rfl, rfl⟩ := hrel
    have hsl := rowSum_le rs k
    by_cases hkn : k < n ∧ k < 100
    · obtain ⟨hk2, hk3⟩ := hkn
      obtain ⟨b, o, rfl, hc⟩ := HS1.out.at_ (by omega)
      obtain ⟨x, hx⟩ : ∃ x, rs[k]? = some x := ⟨rs[k]'(by rw [HLN.out]; omega), List.getElem?_eq_getElem _⟩
      have hcx := hc k x hx
      have hrs := rowSum_succ hx
      obtain ⟨q, hq⟩ : ∃ q : Nat, min (x.n : Int) 40001 = q := ⟨min x.n 40001, by omega⟩
      have hrq : rowSum rs (k + 1) = rowSum rs k + q := by rw [hrs]; omega
      have HRQ := hid hrq
      clear hc hx hrs hrq
      go_wp2_with fail
      go_round
      case rel => exact ⟨k + 1, by omega, by omega, by go_num, by rw [HRQ.out]; go_num⟩
      case measure => simp [intOf]; omega
    · have hend : n ≤ k ∨ 100 ≤ k := by omega
      clear hkn
      by_cases hkn : k < n
      · have hk100 : k = 100 := by omega
        subst hk100
        go_wp2_with (go_at_call 15; go_must (refine (parNew_any room _).mono ?_; rintro e w2 ⟨rfl, hp2, hb2⟩; have HB2 := hid (HB1.out.trans (hb2.mono HB1.out.size)); clear hp2 hb2))
        refine (first_any _).mono ?_
        rintro e w3 ⟨rfl, hb3⟩
        have HB3 := hid hb3
        clear hb3
        go_wp2_with fail
        go_ret
        have h2 := HB2.out.alloc HB2.out.size (.cells #[.int .i64 room, .slice none 0 0] 43)
        exact ⟨rfl, h2.trans (HB3.out.mono h2.size)⟩
      · obtain rfl : k = n := by omega
        by_cases hbig : 40000 < rowSum rs k
        · have hbg : (40000 : Int) < (rowSum rs k : Nat) := by omega
          go_wp2_with (go_at_call 15; go_must (refine (parNew_any room _).mono ?_; rintro e w2 ⟨rfl, hp2, hb2⟩; have HB2 := hid (HB1.out.trans (hb2.mono HB1.out.size)); clear hp2 hb2))
          all_goals
            refine (first_any _).mono ?_
            rintro e w3 ⟨rfl, hb3⟩
            have HB3 := hid hb3
            clear hb3
            go_wp2_with fail
            go_ret
            have h2 := HB2.out.alloc HB2.out.size (.cells #[.int .i64 room, .slice none 0 0] 43)
            exact ⟨rfl, h2.trans (HB3.out.mono h2.size)⟩
        · have hbg : ((rowSum rs k : Nat) : Int) ≤ 40000 := by omega
          go_wp2_with (go_at_call 15; go_must (refine (parNew_any room _).mono ?_; rintro e w2 ⟨rfl, hp2, hb2⟩; have HP2 := hid hp2; have HB2 := hid hb2; clear hp2 hb2))
          have hI : F2 w (w2.alloc (.cells #[.int .i64 room, .slice none 0 0] 43)) w1.heap.size w2.heap.size room [] [] := by
            have ha := (Below.refl w2.heap.size w2).alloc (Nat.le_refl _) (.cells #[.int .i64 room, .slice none 0 0] 43)
            have h12 := HP2.out.blk.lt
            have hw := HB1.out.size
            have hw2 := HB2.out.size
            exact ⟨(HB1.out.trans (HB2.out.mono hw)).trans (ha.mono (by omega)), Nat.ne_of_lt h12, hw, none, 0, 0, none, 0, 0, HP2.out.below ha, ⟨Blk.new w2 _ _, by omega, World.ownsRow_nil _ _ _ _⟩, (fun _ h => by cases h), (fun _ h => by cases h), fun _ _ h => by cases h⟩
          have HI3 := hid hI
          have hga : w.heap.size ≤ w1.heap.size := HB1.out.size
          generalize w1.heap.size = ga at HI3 hga ⊢
          generalize w2.heap.size = gb at HI3 ⊢
          clear hI
          generalize w2.alloc (.cells #[.int .i64 room, .slice none 0 0] 43) = w4 at HI3 ⊢
          clear HP2 HB2 HS1 HB1
          go_wp2_with fail
          go_loopw [9] (fun i wr => ∃ (k2 : Nat) (l : List UInt8), k2 ≤ k ∧ i = .int .i64 k2 ∧ F2 w wr ga gb room l l ∧ l.length ≤ rowSum rs k2) (fun i _ => k - (intOf i).toNat)
          case atStart => exact ⟨0, [], Nat.zero_le _, rfl, HI3.out, Nat.zero_le _⟩
          case round =>
            obtain ⟨k2, l, hk2, rfl, hinv, hll⟩ := hrel
            have HI := hid hinv
            clear hinv HI3
            have hmn := rowSum_mono rs hk2
            by_cases hkn2 : k2 < k
            · have hb := HI.out.b
              obtain ⟨b, o, rfl, hc⟩ := HS.out.at_ (by omega)
              obtain ⟨x, hx⟩ : ∃ x, rs[k2]? = some x := ⟨rs[k2]'(by rw [HLN.out]; omega), List.getElem?_eq_getElem _⟩
              have HC := hid (hc k2 x hx)
              have hcx := below_keep hb _ _ HC.out
              have hrs := rowSum_succ hx
              have hmn2 := rowSum_mono rs (show k2 + 1 ≤ k by omega)
              obtain ⟨hbx, hbc⟩ := HS.out.body x (List.mem_of_getElem? hx)
              have HBX := hid hbx
              have hxn : x.n ≤ 40000 := by omega
              have hlx : l.length + x.n ≤ 40000 := by omega
              have hlr : l.length + x.n ≤ rowSum rs (k2 + 1) := by omega
              clear hc hx hbx hrs hb
              go_wp2_with fail
              refine (HI.out.feed (HBX.out.below HI.out.b) (by omega)).mono ?_
              rintro e w5 ⟨rfl, hi5⟩
              have HI5 := hid hi5
              have hcx5 := below_keep hi5.b _ _ HC.out
              have HX5 := hid (HBX.out.below hi5.b)
              obtain ⟨RA, rc, hblk, hob, hnb⟩ := hi5.cellB
              have HOB := hid hob
              have HBK := hid hblk
              have hcb : w5.cell? ⟨gb, 1, none⟩ = some (.slice RA l.length rc) := hblk.cell 1
              have HCB := hid hcb
              have hw5 := hi5.b.size
              have hlt5 := hi5.lt
              have hki : (k2 : Int) < k := by omega
              have hk0 : (0 : Int) ≤ k2 := by omega
              clear hi5 hob hblk
              go_wp2_with fail
              have HOBd := hid (own_below HOB.out (Below.refl w5.heap.size w5).drew)
              have HX5d := hid (show Rd w5.drew 1 x.A x.n (x.l.map bv) from HX5.out.below (Below.refl _ _).drew)
              (refine wp_mix ?_ ?_ ?_; (focus kernel_rfl); (focus kernel_rfl); intro KK hKK; go_wp2_with (first
                    | ((with_reducible refine at_mapp ?_); go_loud (refine mix_app w.heap.size 5 i0 _ 1 1 Try.underlying25 hi.out hz.out hsz.out hby.out rfl Nat.one_pos _ l.length _ HOBd.out x.A x.n x.c (x.l.map bv) HX5d.out ?_ ?_ (bv_one _) ?_ ?_ hw5 ?_ ?_; (focus rfl); (focus rfl); (focus omega); (focus omega); (focus rfl); intro A6 c6 w6 ho6 hg6 hc6; have HO6 := hid ho6; have HG6 := hid hg6; have HC6 := hid hc6; have HK6 := hid (HBK.out.drew.grown hg6 (fun e => hnb e.symm)); have k1 : w6.cell? ⟨gb, 1, none⟩ = some (.slice RA l.length rc) := HK6.out.cell 1; have kf1 := HK6.out.frozen 1; clear ho6 hg6 hc6; go_simp))
                    | (with_reducible refine mix_nil ?_)
                    | ((with_reducible refine mix_on ?_ ?_); (focus rfl); intro K hK; go_simp)
                    | ((with_reducible refine mix_off ?_ ?_); (focus rfl); intro K hK; go_simp)
                    | ((with_reducible refine mix_step ?_); intro K hK; go_simp)))
              have HI6 := hid (F2.lay (HI5.out.below (Below.refl w5.heap.size w5).drew) (HCB.out) HX5.out.len (by rw [List.map_append]; exact HO6.out) HG6.out HC6.out)
              have hl7 : (l ++ x.l).length ≤ rowSum rs (k2 + 1) := by
                rw [List.length_append, HX5.out.len]
                exact hlr
              have hl8 : (l ++ x.l).length ≤ 40000 := by
                rw [List.length_append, HX5.out.len]
                exact hlx
              clear HK6 HO6 HG6 HC6 HOB HOBd HX5 HX5d HBK HCB HI5 hcb hcx hcx5 HI k1 kf1
              generalize w6.setCell ⟨gb, 1, none⟩ (.slice A6 (l.length + x.n) c6) = w7 at HI6 ⊢
              generalize l ++ x.l = lx at HI6 hl7 hl8
              go_loopw [10] (fun kk wv => ∃ (j : Nat) (l2 : List UInt8), j ≤ 10000 ∧ kk = .int .i64 j ∧ F2 w wv ga gb room l2 l2 ∧ l2.length ≤ lx.length) (fun kk _ => 10000 - (intOf kk).toNat)
              case atStart => exact ⟨0, lx, by omega, rfl, HI6.out, Nat.le_refl _⟩
              case round =>
                obtain ⟨j, l2, hj, rfl, hinv, hl2⟩ := hrel
                have HI7 := hid hinv
                clear hinv HI6
                by_cases hjk : j < 10000
                · go_wp2_with fail
                  refine (HI7.out.nextA (by omega)).mono ?_
                  rintro e w8 ⟨A1, m1, c1, hg8, hi8⟩
                  obtain ⟨rfl, hb8, ho8⟩ := hg8.form
                  obtain ⟨q, hq⟩ : ∃ q, outF room l2 = q := ⟨_, rfl⟩
                  rw [hq] at hb8 ⊢
                  have HQ := hid hq
                  have HI8 := hid hi8
                  have HX8 := hid hb8
                  have hlt8 := hi8.lt
                  have HO8 := hid ho8
                  have hgw := HI7.out.lt
                  clear hg8 hi8 hb8 ho8 hq
                  go_wp2_with fail
                  obtain ⟨w9, hw9⟩ : ∃ w9, w8.alloc (.cells #[.int .i64 q.1, .int .i64 q.2.1, .int .i64 q.2.2.1, .slice A1 m1 c1] 30) = w9 := ⟨_, rfl⟩
                  have hK9 : Blk w9 w8.heap.size 30 #[.int .i64 q.1, .int .i64 q.2.1, .int .i64 q.2.2.1, .slice A1 m1 c1] := by rw [← hw9]; exact Blk.new w8 _ _
                  have hb9 : Below w8.heap.size w8 w9 := by rw [← hw9]; exact (Below.refl _ _).alloc (Nat.le_refl _) _
                  rw [hw9]
                  have HI9 := hid (HI8.out.below hb9)
                  have HX9 := hid (HX8.out.below hb9)
                  have HK9 := hid hK9
                  clear hw9 hb9 hK9
                  refine (HI9.out.nextB (by omega)).mono ?_
                  rintro e w10 ⟨⟨A2, m2, c2, hg10⟩, hi10, ht10⟩
                  obtain ⟨rfl, hb10, _⟩ := hg10.form
                  rw [HQ.out] at hb10 ⊢
                  have HI10 := hid hi10
                  have HY10 := hid hb10
                  have HX10 := hid (HX9.out.turned ht10 (fun ad e => by have := (HO8.out ad e).2; simp; exact this))
                  have HK10 := hid (HK9.out.turned ht10 (by simp; omega))
                  clear hg10 hi10 ht10 hb10
                  go_wp2_with fail
                  obtain ⟨w11, hw11⟩ : ∃ w11, w10.alloc (.cells #[.int .i64 q.1, .int .i64 q.2.1, .int .i64 q.2.2.1, .slice A2 m2 c2] 30) = w11 := ⟨_, rfl⟩
                  have hK11 : Blk w11 w10.heap.size 30 #[.int .i64 q.1, .int .i64 q.2.1, .int .i64 q.2.2.1, .slice A2 m2 c2] := by rw [← hw11]; exact Blk.new w10 _ _
                  have hb11 : Below w10.heap.size w10 w11 := by rw [← hw11]; exact (Below.refl _ _).alloc (Nat.le_refl _) _
                  rw [hw11]
                  have HI11 := hid (HI10.out.below hb11)
                  have HX11 := hid (HX10.out.below hb11)
                  have HY11 := hid (HY10.out.below hb11)
                  have HKX := hid (HK10.out.below hb11 HK10.out.lt)
                  have HKY := hid hK11
                  clear hw11 hb11 hK11 HI10 HX10 HY10 HK10 HI9 HX9 HK9 HX8 HI8
                  generalize w10.heap.size = hy at HKY ⊢
                  generalize w8.heap.size = hx at HKX ⊢
                  have load : ∀ (h : Nat) (A : Option Addr) (m c : Nat), Blk w11 h 30 #[.int .i64 q.1, .int .i64 q.2.1, .int .i64 q.2.2.1, .slice A m c] → ∀ w', Below w11.heap.size w11 w' → (Instr.loadAt 30 (.pointer (some ⟨h, 0, none⟩))).run Try.prog w' = .ok (fv q.1 q.2.1 q.2.2.1 A m c) w' := fun h A m c hk w' hw => by
                    have hk2 := hk.below hw hk.lt
                    have z0 := hk2.cell 0
                    have z1 := hk2.cell 1
                    have z2 := hk2.cell 2
                    have z3 := hk2.cell 3
                    simp at z0 z1 z2 z3
                    go_simp
                  have LX := hid (load hx A1 m1 c1 HKX.out)
                  have LY := hid (load hy A2 m2 c2 HKY.out)
                  clear load
                  obtain ⟨RA, rc, hblk, _, _⟩ := HI11.out.cellB
                  have LB : Hid (∀ w', Below w11.heap.size w11 w' → (Instr.loadAt 25 (.pointer (some ⟨gb, 1, none⟩))).run Try.prog w' = .ok (.slice RA (restL room l2).length rc) w') := hid fun w' hw => by
                    have z1 := (hblk.below hw hblk.lt).cell 1
                    simp at z1
                    clear hblk
                    go_simp
                  have HSB := hid (show Below w11.heap.size w11 w11.drew from (Below.refl _ _).drew)
                  clear hblk
                  by_cases he : nextE room l2 = 0
                  · rw [he]
                    (refine wp_mixC (Below w11.heap.size w11) ?_ ?_ (HSB.out) ?_; (focus kernel_rfl); (focus kernel_rfl); intro KK hKK; go_wp2_with (first
                                                              | (first
                      | ((with_reducible refine mixS_load LX.out ?_ ?_ ?_); (focus rfl); (focus rfl))
                      | ((with_reducible refine mixS_load LY.out ?_ ?_ ?_); (focus rfl); (focus rfl))
                      | ((with_reducible refine mixS_load LB.out ?_ ?_ ?_); (focus rfl); (focus rfl))
                      | (go_at_call 14; go_must (refine (same_ref q.1 q.2.1 q.2.2.1 q.1 q.2.1 q.2.2.1 A1 A2 m1 c1 m2 c2 q.2.2.2 q.2.2.2 _ (HX11.out.below HSB.out) (HY11.out.below HSB.out)).mono ?_; rw [sameB_refl]; rintro e w12 ⟨rfl, hb12⟩; have HSB := hid (HSB.out.trans (hb12.mono HSB.out.size)); clear hb12))
                      | (go_at_call 19; go_must (refine ((HI11.out.below HSB.out).left).mono ?_; rintro e w13 ⟨rfl, rfl⟩))
                      | ((with_reducible refine And.intro ?_ ?_); (focus (exact HSB.out))))
                                                              | (with_reducible refine mix_nil ?_)
                                                              | ((with_reducible refine mixS_on ?_ ?_); (focus rfl); intro K K' hK hK'; go_simp)
                                                              | ((with_reducible refine mixS_off ?_ ?_); (focus rfl); intro K hK; go_simp)
                                                              | ((with_reducible refine mixS_step ?_); intro K K' hK hK'; go_simp)))
                    have hrl := restL_len room l2
                    go_roundw
                    case rel => exact ⟨j + 1, restL room l2, by omega, by go_num, HI11.out.below HSB.out, by omega⟩
                    case measure => simp [intOf]; omega
                  · generalize hE : nextE room l2 = er at he ⊢
                    have HE := hid hE
                    clear hE
                    have heb : (er == 0) = false := beq_eq_false_iff_ne.2 he
                    (refine wp_mixC (Below w11.heap.size w11) ?_ ?_ (HSB.out) ?_; (focus kernel_rfl); (focus kernel_rfl); intro KK hKK; go_wp2_with (first
                                                              | (first
                      | ((with_reducible refine mixS_load LX.out ?_ ?_ ?_); (focus rfl); (focus rfl))
                      | ((with_reducible refine mixS_load LY.out ?_ ?_ ?_); (focus rfl); (focus rfl))
                      | ((with_reducible refine mixS_load LB.out ?_ ?_ ?_); (focus rfl); (focus rfl))
                      | (go_at_call 14; go_must (refine (same_ref q.1 q.2.1 q.2.2.1 q.1 q.2.1 q.2.2.1 A1 A2 m1 c1 m2 c2 q.2.2.2 q.2.2.2 _ (HX11.out.below HSB.out) (HY11.out.below HSB.out)).mono ?_; rw [sameB_refl]; rintro e w12 ⟨rfl, hb12⟩; have HSB := hid (HSB.out.trans (hb12.mono HSB.out.size)); clear hb12))
                      | (go_at_call 19; go_must (refine ((HI11.out.below HSB.out).left).mono ?_; rintro e w13 ⟨rfl, rfl⟩))
                      | ((with_reducible refine And.intro ?_ ?_); (focus (exact HSB.out))))
                                                              | (with_reducible refine mix_nil ?_)
                                                              | ((with_reducible refine mixS_on ?_ ?_); (focus rfl); intro K K' hK hK'; go_simp)
                                                              | ((with_reducible refine mixS_off ?_ ?_); (focus rfl); intro K hK; go_simp)
                                                              | ((with_reducible refine mixS_step ?_); intro K K' hK hK'; go_simp)))
                    have hrl := restL_len room l2
                    go_roundw
                    case rel => exact ⟨k2 + 1, restL room l2, by omega, by go_num, HI11.out.below HSB.out, by omega⟩
                    case measure => simp [intOf]; omega
                · go_wp2_with fail
                  go_roundw
                  case rel => exact ⟨k2 + 1, l2, by omega, by go_num, HI7.out, by omega⟩
                  case measure => simp [intOf]; omega
            · go_wp2_with fail
              refine (first_any _).mono ?_
              rintro e w5 ⟨rfl, hb5⟩
              have HB5 := hid (HI.out.b.trans (hb5.mono HI.out.b.size))
              clear hb5
              go_wp2_with fail
              go_ret
              exact ⟨rfl, HB5.out⟩
end Go.Proofs.Ytakkabilpjjmgaa
