/- The reference's Encode, once. Conditions: at most 2^20 fields. -/
import Derived.Test.YtjeocmglcgnclaaDoorREncGJ
import Derived.Test.YtjeocmglcgnclaaDoorGk
namespace Go.Proofs.YtjeocmglcgnclaaDoor
open Go.RowKit
attribute [local go_sem] kd kdS

/-- The least limit, as the program keeps it. -/
def leastE (least : Int) (set : Bool) : Int := if set = true then least else 4096
/-- Amid Encode: what is written so far, beside the encoder. -/
structure EO (w wr : World) (B : Nat) (F F2 : List Nat) (ge gt : Nat) (most told least : Int) (set : Bool) (L : List Fd) (A : Option Addr) (m c : Nat) (o : List UInt8) : Prop where
  row : wr.ownsRow w.heap.size 5 1 (.slice A m c) m (o.map bv)
  enc : REnc wr B F2 ge gt most told least set L
  tn : Turned (ge :: F) w wr
  kf : ∀ k ∈ F2, k ∈ F ∨ w.heap.size ≤ k
  dis : ∀ k ∈ ge :: F2, (Value.slice A m c).ownBlock ≠ some k
section
variable {w wr w' : World} {B : Nat} {F F2 : List Nat} {ge gt : Nat} {most told least : Int} {set : Bool} {L L' : List Fd} {A A' : Option Addr} {m c m' c' : Nat} {o p : List UInt8}
theorem EO.start (h : REnc w B F ge gt most told least set L) : EO w w B F F ge gt most told least set L none 0 0 [] :=
  ⟨World.ownsRow_nil _ _ _ _, h, Turned.refl _ _, fun k hk => .inl hk, fun k _ e => by cases e⟩
theorem EO.below (h : EO w wr B F F2 ge gt most told least set L A m c o) (hb : Below wr.heap.size wr w') : EO w w' B F F2 ge gt most told least set L A m c o :=
  ⟨own_below h.row hb, h.enc.below hb, h.tn.trans (Turned.of_below (F := []) hb) (fun b hb => by cases hb), h.kf, h.dis⟩
theorem EO.app (h : EO w wr B F F2 ge gt most told least set L A m c o) (ho : w'.ownsRow w.heap.size 5 1 (.slice A' m' c') m' (o.map bv ++ p.map bv)) (hg : wr.grownBy w' (Value.slice A m c).ownBlock) (hat : (Value.slice A' m' c').ownBlock = (Value.slice A m c).ownBlock ∨ (Value.slice A' m' c').ownBlock = some wr.heap.size) :
    EO w w' B F F2 ge gt most told least set L A' m' c' (o ++ p) := by
  have ht : Turned (Value.slice A m c).ownBlock.toList wr w' := (Turned.refl _ _).grown hg (fun k hk => .inl (by simp [hk]))
  refine ⟨by rw [List.map_append]; exact ho, h.enc.turned ht (fun k hk hm => h.dis k hk (by simpa using hm)), h.tn.trans ht (fun b hb => .inr (own_row_lt h.row b (by simpa using hb)).1), h.kf, fun k hk e => ?_⟩
  rcases hat with e2 | e2
  · exact h.dis k hk (e2.symm.trans e)
  · rw [e2] at e
    injection e with e
    have := (h.enc.ge_ k hk).2
    omega
theorem EO.len (h : EO w wr B F F2 ge gt most told least set L A m c o) : o.length = m := own_len h.row
theorem EO.told_ (h : EO w wr B F F2 ge gt most told least set L A m c o) : EO w ((wr.setCell ⟨ge, 1, none⟩ (.int .i64 most)).setCell ⟨ge, 3, none⟩ (.bool false)) B F F2 ge gt most most least false L A m c o := by
  have hz := (h.enc.blk.set_ 1 (.int .i64 most)).set_ 3 (.bool false)
  have ht : Turned [ge] wr ((wr.setCell ⟨ge, 1, none⟩ (.int .i64 most)).setCell ⟨ge, 3, none⟩ (.bool false)) := ((Turned.refl _ _).setCell (by simp) _).setCell (by simp) _
  exact ⟨own_turned h.row ht (fun k hk hm => h.dis ge (by simp) (by have := List.mem_singleton.1 hm; rw [← this]; exact hk)), ⟨by simpa using hz, h.enc.tb.turned ht (fun k hk hm => h.enc.ne (by have := List.mem_singleton.1 hm; subst this; exact hk)), h.enc.base, h.enc.ne, h.enc.ok⟩, h.tn.trans ht (fun b hb => .inl (by have := List.mem_singleton.1 hb; simp [this])), h.kf, h.dis⟩
/-- Behind field. -/
theorem EO.field (h : EO w wr B F F2 ge gt most told least set L A m c o) {e : Ending} (hp : RFPost p B F2 ge gt most told least set L' wr e w') :
    ∃ A' m' c' F', e = .returned (.slice A' m' c') ∧ EO w w' B F F' ge gt most told least set L' A m c o ∧ Bs w' A' m' p := by
  obtain ⟨A', m', c', F', he, hr, ho, ht, hk⟩ := hp
  have hs := h.tn.size
  refine ⟨A', m', c', F', he, ⟨own_turned h.row ht (fun k hk hm => h.dis k hm hk), hr, h.tn.trans ht (fun b hb => ?_), fun k hm => ?_, fun k hm e => ?_⟩, Bs.of_own ho⟩
  · rcases List.mem_cons.1 hb with rfl | hb
    · exact .inl (by simp)
    · rcases h.kf b hb with h1 | h1
      · exact .inl (by simp [h1])
      · exact .inr h1
  · rcases hk k hm with h1 | h1
    · exact h.kf k h1
    · exact .inr (by omega)
  · rcases List.mem_cons.1 hm with rfl | hm
    · exact h.dis _ (by simp) e
    · rcases hk k hm with h1 | h1
      · exact h.dis k (by simp [h1]) e
      · have := (own_row_lt h.row k e).2
        omega
end
theorem EO.cells {w wr : World} {B : Nat} {F F2 : List Nat} {ge gt : Nat} {most told least : Int} {set : Bool} {L : List Fd} {A : Option Addr} {m c : Nat} {o : List UInt8} (h : EO w wr B F F2 ge gt most told least set L A m c o) :
    wr.cell? ⟨ge, 0, none⟩ = some (.pointer (some ⟨gt, 0, none⟩)) ∧ wr.cell? ⟨ge, 1, none⟩ = some (.int .i64 told) ∧ wr.cell? ⟨ge, 2, none⟩ = some (.int .i64 least) ∧ wr.cell? ⟨ge, 3, none⟩ = some (.bool set) ∧ wr.cell? ⟨gt, 0, none⟩ = some (.int .i64 most) ∧ wr.frozen? ⟨ge, 1, none⟩ = false ∧ wr.frozen? ⟨ge, 3, none⟩ = false := by
  obtain ⟨QA, qn, qc, hq, _⟩ := h.enc.tb
  exact ⟨h.enc.blk.cell 0, h.enc.blk.cell 1, h.enc.blk.cell 2, h.enc.blk.cell 3, hq.blk.cell 0, h.enc.blk.frozen 1, h.enc.blk.frozen 3⟩
theorem limits_unset {most least : Int} (h : most ≤ 4096) : limitsP most most (leastE least false) = [] := by
  have e : leastE least false = 4096 := rfl
  rw [e]
  unfold limitsP
  rw [if_neg (by omega), if_neg (by omega)]
  rfl
theorem limits_both {most told least : Int} (h : least < most) : limitsP most told (leastE least true) = (putR 32 5 least).1 ++ (putR 32 5 most).1 := by
  have e : leastE least true = least := rfl
  rw [e]
  unfold limitsP
  rw [if_pos h, if_pos (.inl h)]
theorem limits_one {most told least : Int} (h : ¬ least < most) (h2 : most ≠ told) : limitsP most told (leastE least true) = (putR 32 5 most).1 := by
  have e : leastE least true = least := rfl
  rw [e]
  unfold limitsP
  rw [if_neg h, if_pos (.inr h2)]
  rfl
theorem limits_none {most least : Int} (h : ¬ least < most) : limitsP most most (leastE least true) = [] := by
  have e : leastE least true = least := rfl
  rw [e]
  unfold limitsP
  rw [if_neg h, if_neg (by omega)]
  rfl
/-- What Encode answers. -/
def REncodePost (l : List Fd) (B : Nat) (F : List Nat) (ge gt : Nat) (most told least : Int) (set : Bool) (L : List Fd) (w : World) (e : Ending) (w' : World) : Prop :=
  if l.any longF = true then e = .returned (.tuple #[.slice none 0 0, .int .i64 3]) ∧ Below w.heap.size w w'
  else ∃ A' m' c' F', e = .returned (.tuple #[.slice A' m' c', .int .i64 0]) ∧ EO w w' B F F' ge gt most most least false (blockP most told (leastE least set) L l).2 A' m' c' (blockP most told (leastE least set) L l).1

set_option maxHeartbeats 4000000 in
set_option maxRecDepth 100000 in
theorem rencode_any (B : Nat) (F : List Nat) (ge gt : Nat) (most told least : Int) (set : Bool) (L : List Fd) (A : Option Addr) (n c : Nat) (l : List Fd) (w : World) (h : REnc w B F ge gt most told least set L) (hset : set = false → most = told) (hl : Fs w A n l) (hoff : 0 < n → Off A (ge :: F)) (hn : n ≤ 1048576) :
    Calls Tryd.prog 18 #[.pointer (some ⟨ge, 0, none⟩), .slice A n c] w (REncodePost l B F ge gt most told least set L w) := by
  obtain ⟨i0, hi0, hz0, hz1, hz2⟩ := info_parts u8_info
  have hi := hid hi0
  have hz := hid hz0
  have hsz := hid hz1
  have hby := hid hz2
  clear hi0 hz0 hz1 hz2
  have H := hid h
  have HL := hid hl
  have HO := hid hoff
  have HSET := hid hset
  have HLEN := hid hl.len
  clear h hl hoff hset
  go_enter Tryd.func18, Tryd.ntmps18
  go_wp2_with fail
  go_loopw [6] (fun i wr => ∃ k : Nat, k ≤ n ∧ i = .int .i64 k ∧ (l.take k).any longF = false ∧ w = wr) (fun i _ => n - (intOf i).toNat)
  case atStart => exact ⟨0, Nat.zero_le _, rfl, rfl, rfl⟩
  case round =>
    obtain ⟨k, hk, rfl, hs, rfl⟩ := hrel
    have HSH := hid hs
    clear hs
    by_cases hkn : k < n
    · obtain ⟨b, o, f, rfl, hf, f0, f1, f2⟩ := Fs.at_ HL.out hkn
      have HF := hid hf
      clear hf
      by_cases hn1 : 16384 < f.n.size
      · have HLO : Hid (l.any longF = true) := hid (List.any_eq_true.2 ⟨f, List.mem_of_getElem? HF.out, by unfold longF; rw [decide_eq_true hn1]; rfl⟩)
        go_wp2_with fail
        go_ret2
        unfold REncodePost
        rw [if_pos HLO.out]
        exact ⟨rfl, Below.refl _ _⟩
      · by_cases hn2 : 16384 < f.v.size
        · have HLO : Hid (l.any longF = true) := hid (List.any_eq_true.2 ⟨f, List.mem_of_getElem? HF.out, by unfold longF; rw [decide_eq_true hn2, Bool.or_true]⟩)
          go_wp2_with fail
          go_ret2
          unfold REncodePost
          rw [if_pos HLO.out]
          exact ⟨rfl, Below.refl _ _⟩
        · have HSS : Hid ((l.take (k + 1)).any longF = false) := hid (by
            rw [take_snoc HF.out, List.any_append, HSH.out]
            unfold longF
            simp [hn1, hn2])
          go_wp2_with fail
          go_roundw
          case rel => exact ⟨k + 1, by omega, by go_num, HSS.out, by trivial⟩
          case measure => simp [intOf]; omega
    · obtain rfl : k = n := by omega
      have HSA : Hid (l.any longF = false) := hid (by have := HSH.out; rwa [List.take_of_length_le (by have := HLEN.out; omega)] at this)
      clear hkn HSH
      have HS := hid (EO.start H.out)
      obtain ⟨e0, e1, e2, e3, g0, f1, f3⟩ := HS.out.cells
      have hm1 := H.out.ok.2.1
      have hw0 : w.heap.size ≤ w.heap.size := Nat.le_refl _
      rcases (show (set = false ∧ most = told) ∨ (set = true ∧ least < most) ∨ (set = true ∧ ¬ least < most ∧ most ≠ told) ∨ (set = true ∧ ¬ least < most ∧ most = told) by
        rcases set with _ | _
        · exact .inl ⟨rfl, HSET.out rfl⟩
        · by_cases h1 : least < most
          · exact .inr (.inl ⟨rfl, h1⟩)
          · by_cases h2 : most = told
            · exact .inr (.inr (.inr ⟨rfl, h1, h2⟩))
            · exact .inr (.inr (.inl ⟨rfl, h1, h2⟩))) with ⟨rfl, rfl⟩ | ⟨rfl, hlt⟩ | ⟨rfl, hlt, hne⟩ | ⟨rfl, hlt, rfl⟩
      focus
        have HLP := hid (limits_unset (least := least) hm1)
        clear hm1
        go_wp2_with fail
        (refine wp_mix ?_ ?_ ?_; (focus kernel_rfl); (focus kernel_rfl); intro KK hKK; go_wp2_with (first
              | (fail)
              | (with_reducible refine mix_nil ?_)
              | ((with_reducible refine mix_on ?_ ?_); (focus rfl); intro K hK; go_simp; (first | ((with_reducible refine hK _ _ ?_); clear hK K) | skip))
              | ((with_reducible refine mix_off ?_ ?_); (focus rfl); intro K hK; go_simp; (first | ((with_reducible refine hK _ _ ?_); clear hK K) | skip))
              | ((with_reducible refine mix_step ?_); intro K hK; go_simp; (first | ((with_reducible refine hK _ _ ?_); clear hK K) | skip))))
        (refine wp_mix ?_ ?_ ?_; (focus kernel_rfl); (focus kernel_rfl); intro KK hKK; go_wp2_with (first
              | (fail)
              | (with_reducible refine mix_nil ?_)
              | ((with_reducible refine mix_on ?_ ?_); (focus rfl); intro K hK; go_simp; (first | ((with_reducible refine hK _ _ ?_); clear hK K) | skip))
              | ((with_reducible refine mix_off ?_ ?_); (focus rfl); intro K hK; go_simp; (first | ((with_reducible refine hK _ _ ?_); clear hK K) | skip))
              | ((with_reducible refine mix_step ?_); intro K hK; go_simp; (first | ((with_reducible refine hK _ _ ?_); clear hK K) | skip))))
        have HLN := limitsP_len most most (leastE least false)
        have HE0 := hid (show EO w (((w.setCell ⟨ge, 1, none⟩ (.int .i64 most)).setCell ⟨ge, 3, none⟩ (.bool false)).drew.drew) B F F ge gt most most least false L none 0 0 (limitsP most most (leastE least false)) from by
          rw [HLP.out]
          exact HS.out.told_.below (((Below.refl _ _).drew).drew))
        clear e0 e1 e2 e3 g0 f1 f3
        obtain ⟨ol, hol⟩ : ∃ ol, limitsP most most (leastE least false) = ol := ⟨_, rfl⟩
        have HOL := hid hol
        rw [hol] at HE0 HLN
        clear hol HLP
        obtain ⟨w9, hw9⟩ : ∃ w9, (((w.setCell ⟨ge, 1, none⟩ (.int .i64 most)).setCell ⟨ge, 3, none⟩ (.bool false)).drew.drew) = w9 := ⟨_, rfl⟩
        rw [hw9] at HE0 ⊢
        clear hw9
      rotate_left
      focus
        have HLP := hid (limits_both (told := told) hlt)
        have hni : ¬ (most ≤ least) := by omega
        go_wp2_with fail
        (refine wp_mix ?_ ?_ ?_; (focus kernel_rfl); (focus kernel_rfl); intro KK hKK; go_wp2_with (first
              | (fail)
              | (with_reducible refine mix_nil ?_)
              | ((with_reducible refine mix_on ?_ ?_); (focus rfl); intro K hK; go_simp; (first | ((with_reducible refine hK _ _ ?_); clear hK K) | skip))
              | ((with_reducible refine mix_off ?_ ?_); (focus rfl); intro K hK; go_simp; (first | ((with_reducible refine hK _ _ ?_); clear hK K) | skip))
              | ((with_reducible refine mix_step ?_); intro K hK; go_simp; (first | ((with_reducible refine hK _ _ ?_); clear hK K) | skip))))
        refine (rput_all 32 5 least w.drew (by omega) (by omega)).mono ?_
        rintro e w3 ⟨A3, k3, c3, rfl, ho, hb⟩
        have H3 := hid ((HS.out.below (Below.refl w.heap.size w).drew).below hb)
        have HR3 := hid (Rd.of_own ho)
        have hk3 : k3 ≤ 7 := by have := own_len ho; have := putR_len 32 5 least; omega
        have hw3 := H3.out.tn.size
        clear ho hb
        clear e0 e1 e2 e3 g0 f1 f3
        obtain ⟨a0, a1, a2, a3, a4, a5, a6⟩ := H3.out.cells
        go_wp2_with (at_builtin; go_must (refine wpList_app _ rfl _ _ _ rfl w.heap.size 5 i0 _ 1 1 Tryd.underlying29 hi.out hz.out hsz.out hby.out rfl (by omega) _ 0 _ rfl H3.out.row A3 k3 c3 ((putR 32 5 least).1.map bv) rfl HR3.out (bv_one _) (by omega) (by omega) hw3 ?_; intro A4 c4 w4 hown hg hat; have H4 := hid (H3.out.app hown hg hat); rw [Nat.zero_add] at H4; have hw4 := H4.out.tn.size; clear hown hg hat; clear a0 a1 a2 a3 a4 a5 a6; obtain ⟨b0, b1, b2, b3, b4, b5, b6⟩ := H4.out.cells))
        (refine wp_mix ?_ ?_ ?_; (focus kernel_rfl); (focus kernel_rfl); intro KK hKK; go_wp2_with (first
              | (fail)
              | (with_reducible refine mix_nil ?_)
              | ((with_reducible refine mix_on ?_ ?_); (focus rfl); intro K hK; go_simp; (first | ((with_reducible refine hK _ _ ?_); clear hK K) | skip))
              | ((with_reducible refine mix_off ?_ ?_); (focus rfl); intro K hK; go_simp; (first | ((with_reducible refine hK _ _ ?_); clear hK K) | skip))
              | ((with_reducible refine mix_step ?_); intro K hK; go_simp; (first | ((with_reducible refine hK _ _ ?_); clear hK K) | skip))))
        refine (rput_all 32 5 most w4.drew (by omega) (by omega)).mono ?_
        rintro e w5 ⟨A5, k5, c5, rfl, ho, hb⟩
        have H5 := hid ((H4.out.below (Below.refl w4.heap.size w4).drew).below hb)
        have HR5 := hid (Rd.of_own ho)
        have hk5 : k5 ≤ 7 := by have := own_len ho; have := putR_len 32 5 most; omega
        have hw5 := H5.out.tn.size
        clear ho hb
        clear b0 b1 b2 b3 b4 b5 b6
        obtain ⟨a0, a1, a2, a3, a4, a5, a6⟩ := H5.out.cells
        go_wp2_with (at_builtin; go_must (refine wpList_app _ rfl _ _ _ rfl w.heap.size 5 i0 _ 1 1 Tryd.underlying29 hi.out hz.out hsz.out hby.out rfl (by omega) _ k3 _ rfl H5.out.row A5 k5 c5 ((putR 32 5 most).1.map bv) rfl HR5.out (bv_one _) (by omega) (by omega) hw5 ?_; intro A6 c6 w6 hown hg hat; have H6 := hid (H5.out.app hown hg hat); have hw6 := H6.out.tn.size; clear hown hg hat; clear a0 a1 a2 a3 a4 a5 a6; obtain ⟨b0, b1, b2, b3, b4, b5, b6⟩ := H6.out.cells))
        have HLN := limitsP_len most told (leastE least true)
        have HE0 := hid (show EO w ((w6.setCell ⟨ge, 1, none⟩ (.int .i64 most)).setCell ⟨ge, 3, none⟩ (.bool false)) B F F ge gt most most least false L A6 (k3 + k5) c6 (limitsP most told (leastE least true)) from by
          rw [HLP.out]
          have h9 := H6.out.told_; rwa [List.nil_append] at h9)
        clear b0 b1 b2 b3 b4 b5 b6
        obtain ⟨ol, hol⟩ : ∃ ol, limitsP most told (leastE least true) = ol := ⟨_, rfl⟩
        have HOL := hid hol
        rw [hol] at HE0 HLN
        clear hol HLP
        obtain ⟨w9, hw9⟩ : ∃ w9, ((w6.setCell ⟨ge, 1, none⟩ (.int .i64 most)).setCell ⟨ge, 3, none⟩ (.bool false)) = w9 := ⟨_, rfl⟩
        rw [hw9] at HE0 ⊢
        clear hw9
      rotate_left
      focus
        have HLP := hid (limits_one hlt hne)
        have hd1 : decide (least < most) = false := decide_eq_false hlt
        have hd2 : (most != told) = true := by simpa using hne
        go_wp2_with fail
        (refine wp_mix ?_ ?_ ?_; (focus kernel_rfl); (focus kernel_rfl); intro KK hKK; go_wp2_with (first
              | (fail)
              | (with_reducible refine mix_nil ?_)
              | ((with_reducible refine mix_on ?_ ?_); (focus rfl); intro K hK; go_simp; (first | ((with_reducible refine hK _ _ ?_); clear hK K) | skip))
              | ((with_reducible refine mix_off ?_ ?_); (focus rfl); intro K hK; go_simp; (first | ((with_reducible refine hK _ _ ?_); clear hK K) | skip))
              | ((with_reducible refine mix_step ?_); intro K hK; go_simp; (first | ((with_reducible refine hK _ _ ?_); clear hK K) | skip))))
        (refine wp_mix ?_ ?_ ?_; (focus kernel_rfl); (focus kernel_rfl); intro KK hKK; go_wp2_with (first
              | (fail)
              | (with_reducible refine mix_nil ?_)
              | ((with_reducible refine mix_on ?_ ?_); (focus rfl); intro K hK; go_simp; (first | ((with_reducible refine hK _ _ ?_); clear hK K) | skip))
              | ((with_reducible refine mix_off ?_ ?_); (focus rfl); intro K hK; go_simp; (first | ((with_reducible refine hK _ _ ?_); clear hK K) | skip))
              | ((with_reducible refine mix_step ?_); intro K hK; go_simp; (first | ((with_reducible refine hK _ _ ?_); clear hK K) | skip))))
        refine (rput_all 32 5 most w.drew.drew (by omega) (by omega)).mono ?_
        rintro e w3 ⟨A3, k3, c3, rfl, ho, hb⟩
        have H3 := hid ((HS.out.below ((Below.refl w.heap.size w).drew).drew).below hb)
        have HR3 := hid (Rd.of_own ho)
        have hk3 : k3 ≤ 7 := by have := own_len ho; have := putR_len 32 5 most; omega
        have hw3 := H3.out.tn.size
        clear ho hb
        clear e0 e1 e2 e3 g0 f1 f3
        obtain ⟨a0, a1, a2, a3, a4, a5, a6⟩ := H3.out.cells
        go_wp2_with (at_builtin; go_must (refine wpList_app _ rfl _ _ _ rfl w.heap.size 5 i0 _ 1 1 Tryd.underlying29 hi.out hz.out hsz.out hby.out rfl (by omega) _ 0 _ rfl H3.out.row A3 k3 c3 ((putR 32 5 most).1.map bv) rfl HR3.out (bv_one _) (by omega) (by omega) hw3 ?_; intro A4 c4 w4 hown hg hat; have H4 := hid (H3.out.app hown hg hat); rw [Nat.zero_add] at H4; have hw4 := H4.out.tn.size; clear hown hg hat; clear a0 a1 a2 a3 a4 a5 a6; obtain ⟨b0, b1, b2, b3, b4, b5, b6⟩ := H4.out.cells))
        have HLN := limitsP_len most told (leastE least true)
        have HE0 := hid (show EO w ((w4.setCell ⟨ge, 1, none⟩ (.int .i64 most)).setCell ⟨ge, 3, none⟩ (.bool false)) B F F ge gt most most least false L A4 k3 c4 (limitsP most told (leastE least true)) from by
          rw [HLP.out]
          have h9 := H4.out.told_; rwa [List.nil_append] at h9)
        clear b0 b1 b2 b3 b4 b5 b6
        obtain ⟨ol, hol⟩ : ∃ ol, limitsP most told (leastE least true) = ol := ⟨_, rfl⟩
        have HOL := hid hol
        rw [hol] at HE0 HLN
        clear hol HLP
        obtain ⟨w9, hw9⟩ : ∃ w9, ((w4.setCell ⟨ge, 1, none⟩ (.int .i64 most)).setCell ⟨ge, 3, none⟩ (.bool false)) = w9 := ⟨_, rfl⟩
        rw [hw9] at HE0 ⊢
        clear hw9
      rotate_left
      focus
        have HLP := hid (limits_none hlt)
        have hd1 : decide (least < most) = false := decide_eq_false hlt
        go_wp2_with fail
        (refine wp_mix ?_ ?_ ?_; (focus kernel_rfl); (focus kernel_rfl); intro KK hKK; go_wp2_with (first
              | (fail)
              | (with_reducible refine mix_nil ?_)
              | ((with_reducible refine mix_on ?_ ?_); (focus rfl); intro K hK; go_simp; (first | ((with_reducible refine hK _ _ ?_); clear hK K) | skip))
              | ((with_reducible refine mix_off ?_ ?_); (focus rfl); intro K hK; go_simp; (first | ((with_reducible refine hK _ _ ?_); clear hK K) | skip))
              | ((with_reducible refine mix_step ?_); intro K hK; go_simp; (first | ((with_reducible refine hK _ _ ?_); clear hK K) | skip))))
        (refine wp_mix ?_ ?_ ?_; (focus kernel_rfl); (focus kernel_rfl); intro KK hKK; go_wp2_with (first
              | (fail)
              | (with_reducible refine mix_nil ?_)
              | ((with_reducible refine mix_on ?_ ?_); (focus rfl); intro K hK; go_simp; (first | ((with_reducible refine hK _ _ ?_); clear hK K) | skip))
              | ((with_reducible refine mix_off ?_ ?_); (focus rfl); intro K hK; go_simp; (first | ((with_reducible refine hK _ _ ?_); clear hK K) | skip))
              | ((with_reducible refine mix_step ?_); intro K hK; go_simp; (first | ((with_reducible refine hK _ _ ?_); clear hK K) | skip))))
        have HLN := limitsP_len most most (leastE least true)
        have HE0 := hid (show EO w (((w.setCell ⟨ge, 1, none⟩ (.int .i64 most)).setCell ⟨ge, 3, none⟩ (.bool false)).drew.drew) B F F ge gt most most least false L none 0 0 (limitsP most most (leastE least true)) from by
          rw [HLP.out]
          exact HS.out.told_.below (((Below.refl _ _).drew).drew))
        clear e0 e1 e2 e3 g0 f1 f3
        obtain ⟨ol, hol⟩ : ∃ ol, limitsP most most (leastE least true) = ol := ⟨_, rfl⟩
        have HOL := hid hol
        rw [hol] at HE0 HLN
        clear hol HLP
        obtain ⟨w9, hw9⟩ : ∃ w9, (((w.setCell ⟨ge, 1, none⟩ (.int .i64 most)).setCell ⟨ge, 3, none⟩ (.bool false)).drew.drew) = w9 := ⟨_, rfl⟩
        rw [hw9] at HE0 ⊢
        clear hw9
      rotate_left
      all_goals
        go_wp2_with fail
        go_loopw [7, 12] (fun out i wv => ∃ (j : Nat) (A2 : Option Addr) (m2 c2 : Nat) (F2 : List Nat), j ≤ k ∧ i = .int .i64 j ∧ out = .slice A2 m2 c2 ∧ EO w wv B F F2 ge gt most most least false (fieldsP most L (l.take j)).2 A2 m2 c2 (ol ++ (fieldsP most L (l.take j)).1)) (fun _ i _ => k - (intOf i).toNat)
        case atStart => exact ⟨0, _, _, _, F, Nat.zero_le _, rfl, rfl, by simpa [fieldsP] using HE0.out⟩
        case round =>
          obtain ⟨j, A2, m2, c2, F2, hj, rfl, rfl, hp2⟩ := hrel
          have HP2 := hid hp2
          clear HE0
          by_cases hjk : j < k
          · obtain ⟨b, o, f, rfl, hf, f0, f1, f2⟩ := Fs.at_ (HL.out.turned hp2.tn (HO.out (by omega))) hjk
            have HF := hid hf
            have hsf := short_at HSA.out hf
            have hm2 : m2 ≤ 549755813888 := by
              have h1 := hp2.len
              have h3 := fieldsP_len most L (l.take j)
              have h4 := total_take l j
              have h5 := total_short HSA.out
              have h6 := HLEN.out
              rw [List.length_append] at h1
              omega
            have hfs : f.n.size ≤ 536870912 ∧ f.v.size ≤ 536870912 := by
              unfold longF at hsf
              simp at hsf
              omega
            obtain ⟨hfs1, hfs2⟩ := hfs
            have hws := hp2.tn.size
            have hfl := fieldP_len most (fieldsP most L (l.take j)).2 f
            have hsz9 : f.size ≤ 2147483648 := by unfold Fd.size; omega
            have HFLD := hid (rfield9_any f B F2 ge gt most most least false (fieldsP most L (l.take j)).2 _ hp2.enc hfs1 hfs2)
            have HSN := hid (fieldsP_snoc most L (l.take j) f)
            rw [← take_snoc hf] at HSN
            clear hf hsf hp2
            go_wp2_with (first
              | (go_at_call 36; go_must (refine HFLD.out.mono ?_; intro e w5 hp; obtain ⟨A5, m5, c5, F5, rfl, hp5, hb5⟩ := HP2.out.field hp; have HP5 := hid hp5; have HB5 := hid hb5; have hl5 := hb5.len; have hw5 := hp5.tn.size; clear hp hp5 hb5))
              | (at_builtin; go_must (refine wpList_app _ rfl _ _ _ rfl w.heap.size 5 i0 _ 1 1 Tryd.underlying29 hi.out hz.out hsz.out hby.out rfl (by omega) _ m2 _ rfl HP5.out.row A5 m5 c5 ((fieldP most (fieldsP most L (l.take j)).2 f).1.map bv) rfl HB5.out (bv_one _) (by omega) (by omega) hw5 ?_; intro A6 c6 w6 hown hg hat; have HP6 := hid (HP5.out.app hown hg hat); clear hown hg hat)))
            go_roundw
            case rel => exact ⟨j + 1, A6, m2 + m5, c6, F5, by omega, by go_num, rfl, by rw [HSN.out, ← List.append_assoc]; exact HP6.out⟩
            case measure => simp [intOf]; omega
          · obtain rfl : j = k := by omega
            have HTK : Hid (l.take j = l) := hid (List.take_of_length_le (by have := HLEN.out; omega))
            rw [HTK.out] at HP2
            clear hp2
            go_wp2_with fail
            go_ret2
            unfold REncodePost
            rw [if_neg (by rw [HSA.out]; simp)]
            unfold blockP
            rw [HOL.out]
            exact ⟨A2, m2, c2, F2, rfl, HP2.out⟩
end Go.Proofs.YtjeocmglcgnclaaDoor
