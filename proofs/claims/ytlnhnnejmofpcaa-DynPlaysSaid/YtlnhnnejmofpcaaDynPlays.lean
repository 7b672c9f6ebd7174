/- DynPlays' walk. Conditions: at most 2^47 calls. -/
import Derived.Test.YtlnhnnejmofpcaaDynFew
import Derived.Test.YtlnhnnejmofpcaaDynRefAdd
namespace Go.Proofs.Ytlnhnnejmofpcaa
open Go.RowKit
attribute [local go_sem] kd kdS

/-- Between two calls: both tables hold l. -/
structure PlI (w wr : World) (ga gb : Nat) (F G : List Nat) (M : Int) (l : List Fd) : Prop where
  ta : Tb wr ga F ga M l
  tb : RT wr gb G gb M l
  dis : ∀ k ∈ F, k ∉ G
  m0 : 0 ≤ M
  m1 : M ≤ 4096
  fit : (total l : Int) ≤ M
  la : w.heap.size ≤ ga
  lb : w.heap.size ≤ gb
  out : Below w.heap.size w wr
theorem RT.mem {w : World} {B g : Nat} {G : List Nat} {most : Int} {l : List Fd} (h : RT w B G g most l) : g ∈ G := by
  obtain ⟨A, n, c, _, rfl⟩ := h
  simp
theorem Tb.mem {w : World} {B g : Nat} {F : List Nat} {most : Int} {l : List Fd} (h : Tb w B F g most l) : g ∈ F := by
  obtain ⟨A, n, c, _, rfl⟩ := h
  simp
section
variable {w wr w1 w2 w3 : World} {ga gb : Nat} {F G F' G' : List Nat} {M M' : Int} {l l' : List Fd}
theorem PlI.below (h : PlI w wr ga gb F G M l) (hb : Below wr.heap.size wr w1) : PlI w w1 ga gb F G M l :=
  ⟨h.ta.below hb, h.tb.below hb, h.dis, h.m0, h.m1, h.fit, h.la, h.lb, h.out.trans (hb.mono h.out.size)⟩
theorem PlI.len (h : PlI w wr ga gb F G M l) : l.length ≤ 4096 := by
  have h1 := h.fit
  have h2 := h.m1
  have : ∀ l : List Fd, l.length ≤ total l := by
    intro l
    induction l with
    | nil => simp
    | cons f l ih => rw [total_cons, List.length_cons]; unfold Fd.size; omega
  have := this l
  omega
theorem PlI.ra (h : PlI w wr ga gb F G M l) (ht : Turned F wr w1) : RT w1 gb G gb M l := h.tb.turned ht (fun k hk hm => h.dis k hm hk)
theorem PlI.lts (h : PlI w wr ga gb F G M l) : ga < wr.heap.size ∧ gb < wr.heap.size := ⟨(h.ta.ge _ h.ta.mem).2, (h.tb.ge _ h.tb.mem).2⟩
theorem PlI.oa (h : PlI w wr ga gb F G M l) (ht : Turned F wr w1) : Below w.heap.size w w1 :=
  h.out.trans (ht.below (fun k hk => Nat.le_trans h.la (h.ta.ge k hk).1) h.out.size)
theorem PlI.both (h : PlI w wr ga gb F G M l) (h1 : Tb w1 ga F' ga M' l') (ht1 : Turned F wr w1) (hk1 : ∀ k ∈ F', k ∈ F ∨ wr.heap.size ≤ k) (hb : Below w1.heap.size w1 w2)
    (h3 : RT w3 gb G' gb M' l') (ht3 : Turned [gb] w2 w3) (hk3 : ∀ k ∈ G', k ∈ G ∨ w2.heap.size ≤ k) (h0 : 0 ≤ M') (hm : M' ≤ 4096) (hf : (total l' : Int) ≤ M') : PlI w w3 ga gb F' G' M' l' := by
  have hne : ∀ k ∈ F', k ∉ [gb] := fun k hk hm => by
    have e := List.mem_singleton.1 hm
    subst e
    rcases hk1 _ hk with h5 | h5
    · exact h.dis _ h5 h.tb.mem
    · have := h.lts.2
      omega
  refine ⟨(h1.below hb).turned ht3 hne, h3, fun k hk hk2 => ?_, h0, hm, hf, h.la, h.lb, ((h.oa ht1).trans (hb.mono (h.oa ht1).size)).trans (ht3.below (by simpa using h.lb) ((h.oa ht1).trans (hb.mono (h.oa ht1).size)).size)⟩
  have hk4 := (h1.ge k hk).2
  have hs := hb.size
  rcases hk3 k hk2 with h5 | h5
  · have h6 := (h.tb.ge k h5).2
    rcases hk1 k hk with h7 | h7
    · exact h.dis k h7 h5
    · omega
  · omega
end

set_option maxHeartbeats 4000000 in
set_option maxRecDepth 100000 in
theorem dynPlays_walk (most : Int) (A : Option Addr) (n c : Nat) (os : List Op7) (w : World) (h : Os7 w A n os) (hn : n ≤ 140737488355328) : Calls Try.prog 6 #[.int .i64 most, .slice A n c] w fun e w' => e = .returned (.bool true) ∧ Below w.heap.size w w' := by
  have H := hid h
  have hlen := h.len
  clear h
  go_enter Try.func6, Try.ntmps6
  go_wp2_with fail
  refine (first_any w).mono ?_
  rintro e w1 ⟨rfl, hb1⟩
  have HB1 := hid hb1
  clear hb1
  go_wp2_with fail
  refine (few7_any A n c os w1 (H.out.below (HB1.out)) hn).mono ?_
  rintro e w3 ⟨rfl, hb3⟩
  have HB3 := hid (HB1.out.trans (hb3.mono HB1.out.size))
  clear hb3 HB1
  rcases hfew : few7 os with _ | _
  · go_wp2_with fail
    refine (first_any w3).mono ?_
    rintro e w4 ⟨rfl, hb4⟩
    have HB4 := hid (HB3.out.trans (hb4.mono HB3.out.size))
    clear hb4
    go_wp2_with fail
    go_ret
    exact ⟨rfl, HB4.out⟩
  have HF := hid hfew
  have hl := fewF_len hfew
  have hn2 : n ≤ 200 := by simpa [hlen] using hl
  have HSZ := hid (show ∀ x ∈ os, x.f.size ≤ 40032 from fun x hx => by
    have := fewF_each hfew (List.mem_map_of_mem hx)
    unfold Fd.size
    omega)
  clear hfew hl
  go_wp2_with fail
  refine (new_tb most w3).mono ?_
  intro e w4 hp
  unfold NewTb at hp
  by_cases hbad : most < 0 ∨ 4096 < most
  · rw [if_pos hbad] at hp
    obtain ⟨rfl, hb4⟩ := hp
    have HB4 := hid (HB3.out.trans (hb4.mono HB3.out.size))
    have HBAD := hid hbad
    clear hb4 hbad
    go_wp2_with fail
    refine (rnew_any most w4).mono ?_
    intro e w5 hp
    unfold RNew at hp
    rw [if_pos HBAD.out] at hp
    obtain ⟨rfl, rfl⟩ := hp
    go_wp2_with fail
    go_loopw [] (fun wr => Below w.heap.size w wr) (fun _ => 0)
    case atStart => exact HB4.out
    case round =>
      have HB := hid hrel
      clear hrel
      go_wp2_with fail
      refine (first_any wr).mono ?_
      rintro e w5 ⟨rfl, hb5⟩
      have HB5 := hid (HB.out.trans (hb5.mono HB.out.size))
      clear hb5
      go_wp2_with fail
      go_ret
      exact ⟨rfl, HB5.out⟩
  rw [if_neg hbad] at hp
  obtain ⟨F, rfl, h1, hb1⟩ := hp
  have HB4 := hid (HB3.out.trans (hb1.mono HB3.out.size))
  have HA4 := hid h1
  have HBAD := hid hbad
  have hga := h1.mem
  clear h1 hb1 hbad
  have hgw : w.heap.size ≤ w3.heap.size := HB3.out.size
  generalize w3.heap.size = ga at HA4 hgw hga ⊢
  clear HB3
  go_wp2_with fail
  refine (rnew_any most w4).mono ?_
  intro e w5 hp
  unfold RNew at hp
  rw [if_neg HBAD.out] at hp
  obtain ⟨G, rfl, h5, hb5⟩ := hp
  have HI : Hid (PlI w w5 ga w4.heap.size F G most []) := ⟨HA4.out.below hb5, h5, fun k hk hk2 => by
    have := (HA4.out.ge k hk).2
    have := (h5.ge k hk2).1
    omega, by have := HBAD.out; omega, by have := HBAD.out; omega, by have := HBAD.out; simp [total]; omega, hgw, HB4.out.size, HB4.out.trans (hb5.mono HB4.out.size)⟩
  clear h5 hb5 HA4 hga
  generalize w4.heap.size = gb at HI ⊢
  clear HB4 hgw
  go_wp2_with fail
  go_loopw [9] (fun i wr => ∃ (k : Nat) (F G : List Nat) (M : Int) (l : List Fd), k ≤ n ∧ i = .int .i64 k ∧ PlI w wr ga gb F G M l) (fun i _ => n - (intOf i).toNat)
  case atStart => exact ⟨0, F, G, most, [], Nat.zero_le _, rfl, HI.out⟩
  case round =>
    obtain ⟨k, F, G, M, l, hk, rfl, hI⟩ := hrel
    have HI := hid hI
    have hm0 := hI.m0
    have hm1 := hI.m1
    have hft := hI.fit
    have hll := hI.len
    have hB := hI.out
    have hgl := hI.lts
    by_cases hgo : k < n
    · obtain ⟨b, o, x, rfl, hx, p0, p1, p2, p3, p4⟩ := H.out.nth hgo
      have HX := hid hx
      have hxs := HSZ.out x (List.mem_of_getElem? hx)
      have c0 := below_keep hB _ _ p0
      have c1 := below_keep hB _ _ p1
      have c2 := below_keep hB _ _ p2
      have c3 := below_keep hB _ _ p3
      have c4 := below_keep hB _ _ p4
      clear p0 p1 p2 p3 p4 hx hI hB
      go_upto_region 13 with fail
      obtain ⟨wa, hwa⟩ : ∃ wa, wr.alloc (.cells #[.int .i64 x.k, .int .i64 x.n, .string x.f.n, .string x.f.v, .bool x.f.x] 40) = wa := ⟨_, rfl⟩
      have hFa : Blk wa wr.heap.size 40 #[.int .i64 x.k, .int .i64 x.n, .string x.f.n, .string x.f.v, .bool x.f.x] := by rw [← hwa]; exact Blk.new wr _ _
      have hba : Below wr.heap.size wr wa := by rw [← hwa]; exact (Below.refl _ _).alloc (Nat.le_refl _) _
      rw [hwa]
      have HF := hid hFa
      have HI2 := hid (HI.out.below hba)
      have hqF : ∀ k ∈ F, k ≠ wr.heap.size := fun k hk e => by have := (HI.out.ta.ge k hk).2; omega
      have hqG : ∀ k ∈ G, k ≠ wr.heap.size := fun k hk e => by have := (HI.out.tb.ge k hk).2; omega
      have hqb : gb ≠ wr.heap.size := by omega
      have HQ := hid (And.intro hqF (And.intro hqG hqb))
      clear hFa hba hwa HI hgl hqF hqG hqb c0 c1 c2 c3 c4
      generalize wr.heap.size = q at HF HQ ⊢
      clear wr
      have b0 := HF.out.cell 0
      have b1 := HF.out.cell 1
      have b2 := HF.out.cell 2
      have b3 := HF.out.cell 3
      have b4 := HF.out.cell 4
      simp at b0 b1 b2 b3 b4
      have hBa : ga ≤ wa.heap.size ∧ gb ≤ wa.heap.size := by have := HI2.out.lts; omega
      rcases (show x.k = 0 ∨ (x.k = 1 ∧ (x.n < 0 ∨ 4096 < x.n)) ∨ (x.k = 1 ∧ ¬ (x.n < 0 ∨ 4096 < x.n)) ∨ x.k = 2 ∨ (x.k ≠ 0 ∧ x.k ≠ 1 ∧ x.k ≠ 2) by omega) with hk0 | ⟨hk0, hbad⟩ | ⟨hk0, hbad⟩ | hk0 | ⟨hk0, hk1, hk2⟩
      focus
        go_wp2_with fail
        refine (add_tb x.f HI2.out.ta (by omega) (by omega) (by omega) hBa.1 (by omega) (by omega)).mono ?_
        rintro e w5 ⟨F5, rfl, h5, ht5, hk5⟩
        have H5 := hid h5
        have HT5 := hid ht5
        have HK5 := hid hk5
        have HR5 := hid (HI2.out.ra ht5)
        have hF5 := HF.out.turned ht5 (fun hm => HQ.out.1 q hm rfl)
        have b2 := hF5.cell 2
        have b3 := hF5.cell 3
        have b4 := hF5.cell 4
        simp at b2 b3 b4
        have hs5 := ht5.size
        clear h5 ht5 hk5 hF5
        go_wp2_with fail
        refine (radd_any x.f HR5.out (by omega) (by omega) (by omega) (by omega) (by omega)).mono ?_
        rintro e w6 ⟨G6, rfl, h6, ht6, hk6⟩
        have H6 := hid (HI2.out.both H5.out HT5.out HK5.out (Below.refl _ _) h6 ht6 hk6 hm0 hm1 (addL_total hm0 l x.f))
        clear h6 ht6 hk6
        go_wp2_with fail
        clear H5 HT5 HK5 HR5 hs5 b2 b3 b4 b0 b1 HI2 HF HQ hBa hft hll
        generalize addL M l x.f = lq at H6
        generalize hMq : M = Mq at H6
        clear hMq
        generalize F5 = Fq at H6
        generalize G6 = Gq at H6
        generalize w6 = wq at H6 ⊢
      rotate_left
      focus
        have HBAD := hid hbad
        clear hbad
        go_wp2_with fail
        have HLO : Hid (∀ w', w'.cell? ⟨q, 1, none⟩ = some (.int .i64 x.n) → (Instr.loadAt 3 (.pointer (some ⟨q, 1, none⟩))).run Try.prog w' = .ok (.int .i64 x.n) w') := hid fun w' h => by
          clear b0 b1 b2 b3 b4
          go_simp
        have HD := hid (HI2.out.below (Below.refl wa.heap.size wa).drew)
        have HFD := hid (show Blk wa.drew q 40 #[.int .i64 x.k, .int .i64 x.n, .string x.f.n, .string x.f.v, .bool x.f.x] from HF.out)
        have hwd : wa.drew.heap.size = wa.heap.size := rfl
        have HBa := hid hBa
        have HB1 := hid b1
        clear b0 b1 b2 b3 b4 hBa
        (refine wp_mixC (fun w' => w'.cell? ⟨q, 1, none⟩ = some (.int .i64 x.n)) ?_ ?_ (HB1.out) ?_; (focus kernel_rfl); (focus kernel_rfl); intro KK hKK; go_wp2_with (first
                                                                                 | (first
          | ((with_reducible refine mixS_load HLO.out ?_ ?_ ?_); (focus rfl); (focus rfl))
          | (go_at_call 11; go_must (refine (limit_tb x.n HD.out.ta (by omega) (by omega) (by rw [hwd]; exact HBa.out.1)).mono ?_; intro e w5 hp; unfold LimTb at hp; rw [if_pos HBAD.out] at hp; obtain ⟨F5, rfl, h5, ht5, hk5⟩ := hp; have H5 := hid h5; have HT5 := hid ht5; have HK5 := hid hk5; have HR5 := hid (HD.out.ra ht5); have HF5 := hid (HFD.out.turned ht5 (fun hm => HQ.out.1 q hm rfl)); clear h5 ht5 hk5))
          | (go_at_call 19; go_must (refine (rlimit_any x.n HR5.out (by omega) (by omega) (by have := HT5.out.size; rw [hwd] at this; exact Nat.le_trans HBa.out.2 this)).mono ?_; intro e w6 hp; unfold RLim at hp; rw [if_pos HBAD.out] at hp; obtain ⟨rfl, rfl⟩ := hp; have H6 := hid (HD.out.both H5.out HT5.out HK5.out (Below.refl _ _) HR5.out (Turned.refl _ _) (fun k hk => .inl hk) hm0 hm1 hft)))
          | ((with_reducible refine And.intro ?_ ?_); (focus (exact HF5.out.cell 1))))
                                                                                 | (with_reducible refine mix_nil ?_)
                                                                                 | ((with_reducible refine mixS_on ?_ ?_); (focus rfl); intro K K' hK hK'; go_simp)
                                                                                 | ((with_reducible refine mixS_off ?_ ?_); (focus rfl); intro K hK; go_simp)
                                                                                 | ((with_reducible refine mixS_step ?_); intro K K' hK hK'; go_simp)))
        clear HLO HD HFD hwd HBa HB1 H5 HT5 HK5 HR5 HF5 HI2 HF HQ hft hll HBAD
        generalize hlq : l = lq at H6
        generalize hMq : M = Mq at H6
        clear hMq hlq
        generalize F5 = Fq at H6
        generalize G = Gq at H6
        generalize w5 = wq at H6 ⊢
      rotate_left
      focus
        have HBAD := hid hbad
        clear hbad
        go_wp2_with fail
        have HLO : Hid (∀ w', w'.cell? ⟨q, 1, none⟩ = some (.int .i64 x.n) → (Instr.loadAt 3 (.pointer (some ⟨q, 1, none⟩))).run Try.prog w' = .ok (.int .i64 x.n) w') := hid fun w' h => by
          clear b0 b1 b2 b3 b4
          go_simp
        have HD := hid (HI2.out.below (Below.refl wa.heap.size wa).drew)
        have HFD := hid (show Blk wa.drew q 40 #[.int .i64 x.k, .int .i64 x.n, .string x.f.n, .string x.f.v, .bool x.f.x] from HF.out)
        have hwd : wa.drew.heap.size = wa.heap.size := rfl
        have HBa := hid hBa
        have HB1 := hid b1
        clear b0 b1 b2 b3 b4 hBa
        (refine wp_mixC (fun w' => w'.cell? ⟨q, 1, none⟩ = some (.int .i64 x.n)) ?_ ?_ (HB1.out) ?_; (focus kernel_rfl); (focus kernel_rfl); intro KK hKK; go_wp2_with (first
                                                                                 | (first
          | ((with_reducible refine mixS_load HLO.out ?_ ?_ ?_); (focus rfl); (focus rfl))
          | (go_at_call 11; go_must (refine (limit_tb x.n HD.out.ta (by omega) (by omega) (by rw [hwd]; exact HBa.out.1)).mono ?_; intro e w5 hp; unfold LimTb at hp; rw [if_neg HBAD.out] at hp; obtain ⟨F5, rfl, h5, ht5, hk5⟩ := hp; have H5 := hid h5; have HT5 := hid ht5; have HK5 := hid hk5; have HR5 := hid (HD.out.ra ht5); have HF5 := hid (HFD.out.turned ht5 (fun hm => HQ.out.1 q hm rfl)); clear h5 ht5 hk5))
          | (go_at_call 19; go_must (refine (rlimit_any x.n HR5.out (by omega) (by omega) (by have := HT5.out.size; rw [hwd] at this; exact Nat.le_trans HBa.out.2 this)).mono ?_; intro e w6 hp; unfold RLim at hp; rw [if_neg HBAD.out] at hp; obtain ⟨G6, rfl, h6, ht6, hk6⟩ := hp; have H6 := hid (HD.out.both H5.out HT5.out HK5.out (Below.refl _ _) h6 ht6 hk6 (by have := HBAD.out; omega) (by have := HBAD.out; omega) (shr_total (by have := HBAD.out; omega) l)); have HF6 := hid (HF5.out.turned ht6 (by have := HQ.out.2.2; simp; omega)); clear h6 ht6 hk6))
          | ((with_reducible refine And.intro ?_ ?_); (focus (first | exact HF5.out.cell 1 | exact HF6.out.cell 1))))
                                                                                 | (with_reducible refine mix_nil ?_)
                                                                                 | ((with_reducible refine mixS_on ?_ ?_); (focus rfl); intro K K' hK hK'; go_simp)
                                                                                 | ((with_reducible refine mixS_off ?_ ?_); (focus rfl); intro K hK; go_simp)
                                                                                 | ((with_reducible refine mixS_step ?_); intro K K' hK hK'; go_simp)))
        clear HLO HD HFD hwd HBa HB1 H5 HT5 HK5 HR5 HF5 HI2 HF HQ hft hll HBAD HF6
        generalize hlq : shr x.n l = lq at H6
        generalize hMq : x.n = Mq at H6
        clear hMq hlq
        generalize F5 = Fq at H6
        generalize G6 = Gq at H6
        generalize w6 = wq at H6 ⊢
      rotate_left
      focus
        go_wp2_with fail
        refine (get_tb x.n HI2.out.ta (by omega)).mono ?_
        rintro e w5 ⟨rfl, hb5⟩
        have HI5 := hid (HI2.out.below hb5)
        have HF5 := hid (HF.out.below hb5 HF.out.lt)
        clear hb5 b0 b1 b2 b3 b4 HI2 HF
        go_upto_region 26 with fail
        generalize hy : (getF l x.n).1 = y
        generalize hyb : (getF l x.n).2 = yb
        have HY := hid hy
        have HYB := hid hyb
        clear hy hyb
        obtain ⟨w6, hw6⟩ : ∃ w6, w5.alloc (.cells #[.string y.n, .string y.v, .bool y.x] 30) = w6 := ⟨_, rfl⟩
        have hF6 : Blk w6 w5.heap.size 30 #[.string y.n, .string y.v, .bool y.x] := by rw [← hw6]; exact Blk.new w5 _ _
        have hb6 : Below w5.heap.size w5 w6 := by rw [← hw6]; exact (Below.refl _ _).alloc (Nat.le_refl _) _
        rw [hw6]
        have HI6 := hid (HI5.out.below hb6)
        have HY6 := hid hF6
        have hFF := HF5.out.below hb6 HF5.out.lt
        have b1 := hFF.cell 1
        simp at b1
        clear hF6 hb6 hw6 hFF HI5 HF5
        generalize w5.heap.size = p1 at HY6 ⊢
        go_wp2_with fail
        refine (rget_any x.n HI6.out.tb (by omega)).mono ?_
        rintro e w7 ⟨rfl, hb7⟩
        rw [HY.out, HYB.out]
        have HI7 := hid (HI6.out.below hb7)
        have HY7 := hid (HY6.out.below hb7 HY6.out.lt)
        clear hb7 b1 HI6 HY6
        go_upto_region 27 with fail
        obtain ⟨w8, hw8⟩ : ∃ w8, w7.alloc (.cells #[.string y.n, .string y.v, .bool y.x] 30) = w8 := ⟨_, rfl⟩
        have hF8 : Blk w8 w7.heap.size 30 #[.string y.n, .string y.v, .bool y.x] := by rw [← hw8]; exact Blk.new w7 _ _
        have hb8 : Below w7.heap.size w7 w8 := by rw [← hw8]; exact (Below.refl _ _).alloc (Nat.le_refl _) _
        rw [hw8]
        have H6 := hid (HI7.out.below hb8)
        have hY8 := HY7.out.below hb8 HY7.out.lt
        have d0 := hF8.cell 0
        have d1 := hF8.cell 1
        have d2 := hF8.cell 2
        have e0 := hY8.cell 0
        have e1 := hY8.cell 1
        have e2 := hY8.cell 2
        simp at d0 d1 d2 e0 e1 e2
        clear hF8 hb8 hw8 hY8 HI7 HY7 HY HYB HQ hft hll
        generalize w7.heap.size = p2 at d0 d1 d2 ⊢
        go_wp2_with fail
        clear d0 d1 d2 e0 e1 e2
        generalize l = lq at H6
        generalize M = Mq at H6
        generalize F = Fq at H6
        generalize G = Gq at H6
        generalize w8 = wq at H6 ⊢
      rotate_left
      focus
        go_wp2_with fail
        refine (find_tb x.f.n x.f.v HI2.out.ta (by omega)).mono ?_
        rintro e w5 ⟨rfl, hb5⟩
        have HI5 := hid (HI2.out.below hb5)
        have hF5 := HF.out.below hb5 HF.out.lt
        have b2 := hF5.cell 2
        have b3 := hF5.cell 3
        simp at b2 b3
        clear hb5 hF5 HI2 HF
        go_wp2_with fail
        refine (rfind_any x.f.n x.f.v HI5.out.tb (by omega)).mono ?_
        rintro e w6 ⟨rfl, hb6⟩
        have H6 := hid (HI5.out.below hb6)
        clear hb6 b0 b1 b2 b3 b4 HI5 HQ hft hll
        go_wp2_with fail
        generalize l = lq at H6 ⊢
        generalize M = Mq at H6 ⊢
        generalize F = Fq at H6 ⊢
        generalize G = Gq at H6 ⊢
        generalize w6 = wq at H6 ⊢
      rotate_left
      all_goals
        obtain ⟨QA, qn, qc, hq, hG⟩ := H6.out.tb
        have hql := hq.len
        have hfq := H6.out.fit
        have hm0q := H6.out.m0
        have hm1q := H6.out.m1
        have hlq := H6.out.len
        have L0 : Hid (∀ w', Below wq.heap.size wq w' → (Instr.loadAt 3 (.pointer (some ⟨gb, 0, none⟩))).run Try.prog w' = .ok (.int .i64 Mq) w') := hid fun w' hw => by
          have z0 := (hq.blk.below hw hq.blk.lt).cell 0
          simp at z0
          clear hq
          go_simp
        have L1 : Hid (∀ w', Below wq.heap.size wq w' → (Instr.loadAt 38 (.pointer (some ⟨gb, 1, none⟩))).run Try.prog w' = .ok (.slice QA qn qc) w') := hid fun w' hw => by
          have z1 := (hq.blk.below hw hq.blk.lt).cell 1
          simp at z1
          clear hq
          go_simp
        have HQQ := hid hq
        have HSB := hid (show Below wq.heap.size wq wq.drew from (Below.refl _ _).drew)
        clear hq hG
        subst hql
        (refine wp_mixC (Below wq.heap.size wq) ?_ ?_ (HSB.out) ?_; (focus kernel_rfl); (focus kernel_rfl); intro KK hKK; go_wp2_with (first
                                                | (first
          | ((with_reducible refine mixS_load L0.out ?_ ?_ ?_); (focus rfl); (focus rfl))
          | ((with_reducible refine mixS_load L1.out ?_ ?_ ?_); (focus rfl); (focus rfl))
          | (go_at_call 10; go_must (refine (len_tb (H6.out.ta.below HSB.out)).mono ?_; rintro e w12 ⟨rfl, rfl⟩))
          | (go_at_call 13; go_must (refine (size_tb (H6.out.ta.below HSB.out)).mono ?_; rintro e w12 ⟨rfl, rfl⟩))
          | (go_at_call 15; go_must (refine (most_tb (H6.out.ta.below HSB.out)).mono ?_; rintro e w12 ⟨rfl, rfl⟩))
          | (go_at_call 22; go_must (refine (rtotal_any QA _ qc _ _ (HQQ.out.fs.below HSB.out) (by rw [total_rev]; omega) (by omega)).mono ?_; rw [total_rev]; rintro e w12 ⟨rfl, hb12⟩; have HSB := hid (HSB.out.trans (hb12.mono HSB.out.size)); clear hb12))
          | ((with_reducible refine And.intro ?_ ?_); (focus (exact HSB.out))))
                                                | (with_reducible refine mix_nil ?_)
                                                | ((with_reducible refine mixS_on ?_ ?_); (focus rfl); intro K K' hK hK'; go_simp)
                                                | ((with_reducible refine mixS_off ?_ ?_); (focus rfl); intro K hK; go_simp)
                                                | ((with_reducible refine mixS_step ?_); intro K K' hK hK'; go_simp)))
        have HI5 := hid (H6.out.below HSB.out)
        clear HSB L0 L1 HQQ H6 hfq hm0q hm1q hlq
        go_wp2_with fail
        go_loopw [19] (fun i wr => ∃ j : Nat, j ≤ lq.length + 2 ∧ i = .int .i64 j ∧ PlI w wr ga gb Fq Gq Mq lq) (fun i _ => lq.length + 2 - (intOf i).toNat)
        case atStart => exact ⟨0, Nat.zero_le _, rfl, HI5.out⟩
        case round =>
          obtain ⟨j, hj, rfl, hI⟩ := hrel
          have HI := hid hI
          have hlq := hI.len
          obtain ⟨QA, qn, qc, hq, _⟩ := hI.tb
          have hql := hq.len
          have c1 := hq.blk.cell 1
          simp at c1
          subst hql
          clear hI hq
          by_cases hgo : j ≤ lq.length + 1
          · have hji : (j : Int) ≤ (lq.length : Nat) + 1 := by omega
            go_wp2_with fail
            refine (get_tb j HI.out.ta (by omega)).mono ?_
            rintro e w5 ⟨rfl, hb5⟩
            have HI6 := hid (HI.out.below hb5)
            clear hb5 c1 HI
            generalize hy : (getF lq (j : Int)).1 = y
            generalize hyb : (getF lq (j : Int)).2 = yb
            have HY := hid hy
            have HYB := hid hyb
            clear hy hyb
            go_upto_region 35 with fail
            obtain ⟨w6, hw6⟩ : ∃ w6, w5.alloc (.cells #[.string y.n, .string y.v, .bool y.x] 30) = w6 := ⟨_, rfl⟩
            have hF6 : Blk w6 w5.heap.size 30 #[.string y.n, .string y.v, .bool y.x] := by rw [← hw6]; exact Blk.new w5 _ _
            have hb6 : Below w5.heap.size w5 w6 := by rw [← hw6]; exact (Below.refl _ _).alloc (Nat.le_refl _) _
            rw [hw6]
            have HI7 := hid (HI6.out.below hb6)
            have HY6 := hid hF6
            clear hF6 hb6 hw6 HI6
            generalize w5.heap.size = p1 at HY6 ⊢
            go_wp2_with fail
            refine (rget_any j HI7.out.tb (by omega)).mono ?_
            rintro e w7 ⟨rfl, hb7⟩
            rw [HY.out, HYB.out]
            have HI8 := hid (HI7.out.below hb7)
            have HY7 := hid (HY6.out.below hb7 HY6.out.lt)
            clear hb7 HI7 HY6
            go_upto_region 36 with fail
            obtain ⟨w8, hw8⟩ : ∃ w8, w7.alloc (.cells #[.string y.n, .string y.v, .bool y.x] 30) = w8 := ⟨_, rfl⟩
            have hF8 : Blk w8 w7.heap.size 30 #[.string y.n, .string y.v, .bool y.x] := by rw [← hw8]; exact Blk.new w7 _ _
            have hb8 : Below w7.heap.size w7 w8 := by rw [← hw8]; exact (Below.refl _ _).alloc (Nat.le_refl _) _
            rw [hw8]
            have HI9 := hid (HI8.out.below hb8)
            have hY8 := HY7.out.below hb8 HY7.out.lt
            have d0 := hF8.cell 0
            have d1 := hF8.cell 1
            have d2 := hF8.cell 2
            have e0 := hY8.cell 0
            have e1 := hY8.cell 1
            have e2 := hY8.cell 2
            simp at d0 d1 d2 e0 e1 e2
            clear hF8 hb8 hw8 hY8 HI8 HY7 HY HYB
            generalize w7.heap.size = p2 at d0 d1 d2 ⊢
            go_wp2_with fail
            go_roundw
            case rel => exact ⟨j + 1, by omega, by go_num, HI9.out⟩
            case measure => simp [intOf]; omega
          · have hji : (lq.length : Int) + 1 < j := by omega
            go_wp2_with fail
            go_roundw
            case rel => exact ⟨k + 1, Fq, Gq, Mq, lq, by omega, by go_num, HI.out⟩
            case measure => simp [intOf]; omega
    · have hkn : k = n := by omega
      subst hkn
      clear hgo
      go_wp2_with fail
      refine (first_any wr).mono ?_
      rintro e w5 ⟨rfl, hb5⟩
      have HB5 := hid (HI.out.out.trans (hb5.mono HI.out.out.size))
      clear hb5
      go_wp2_with fail
      go_ret
      exact ⟨rfl, HB5.out⟩
end Go.Proofs.Ytlnhnnejmofpcaa
