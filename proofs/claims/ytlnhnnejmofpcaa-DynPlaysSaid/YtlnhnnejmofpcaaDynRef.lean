/- The reference's table, each call once: the newest stand first. Conditions: at most 2^40 bytes in all. -/
import Derived.Test.YtlnhnnejmofpcaaDynPlain
import Derived.Deep.RegionLaw
namespace Go.Proofs.Ytlnhnnejmofpcaa
open Go.RowKit
attribute [local go_sem] kd kdS
attribute [local go_sem ↓] sliced_word
attribute [local go_sem] offA_zero

/-- The reference's table in block g; it holds l, the eldest first. -/
structure RTab (w : World) (B g : Nat) (most : Int) (A : Option Addr) (n c : Nat) (l : List Fd) : Prop where
  blk : Blk w g 48 #[.int .i64 most, .slice A n c]
  fs : Fs w A n l.reverse
  cap : n ≤ c
  base : B ≤ g
  row : ∀ k, (Value.slice A n c).ownBlock = some k → B ≤ k ∧ k < w.heap.size ∧ k ≠ g
theorem RTab.len {w : World} {B g : Nat} {most : Int} {A : Option Addr} {n c : Nat} {l : List Fd} (h : RTab w B g most A n c l) : l.length = n := by
  have := h.fs.len
  simpa using this
theorem RTab.below {w w' : World} {B g : Nat} {most : Int} {A : Option Addr} {n c : Nat} {l : List Fd} (h : RTab w B g most A n c l) (hb : Below w.heap.size w w') : RTab w' B g most A n c l :=
  ⟨h.blk.below hb h.blk.lt, h.fs.below hb, h.cap, h.base, fun k hk => ⟨(h.row k hk).1, Nat.lt_of_lt_of_le (h.row k hk).2.1 hb.size, (h.row k hk).2.2⟩⟩
theorem RTab.turned {w w' : World} {B g : Nat} {most : Int} {A : Option Addr} {n c : Nat} {l : List Fd} {F : List Nat} (h : RTab w B g most A n c l) (ht : Turned F w w') (hg : g ∉ F) (hF : ∀ k, (Value.slice A n c).ownBlock = some k → k ∉ F) : RTab w' B g most A n c l :=
  ⟨h.blk.turned ht hg, Rd.turned h.fs ht (fun ad e => hF _ (by rw [e]; rfl)), h.cap, h.base, fun k hk => ⟨(h.row k hk).1, Nat.lt_of_lt_of_le (h.row k hk).2.1 ht.size, (h.row k hk).2.2⟩⟩
def RT (w : World) (B : Nat) (G : List Nat) (g : Nat) (most : Int) (l : List Fd) : Prop :=
  ∃ A n c, RTab w B g most A n c l ∧ G = g :: (Value.slice A n c).ownBlock.toList
theorem RT.below {w w' : World} {B g : Nat} {G : List Nat} {most : Int} {l : List Fd} (h : RT w B G g most l) (hb : Below w.heap.size w w') : RT w' B G g most l := by
  obtain ⟨A, n, c, h, rfl⟩ := h
  exact ⟨A, n, c, h.below hb, rfl⟩
theorem RT.turned {w w' : World} {B g : Nat} {G F : List Nat} {most : Int} {l : List Fd} (h : RT w B G g most l) (ht : Turned F w w') (hd : ∀ k ∈ G, k ∉ F) : RT w' B G g most l := by
  obtain ⟨A, n, c, h, rfl⟩ := h
  exact ⟨A, n, c, h.turned ht (hd g (by simp)) (fun k hk => hd k (by simp [hk])), rfl⟩
theorem RT.ge {w : World} {B g : Nat} {G : List Nat} {most : Int} {l : List Fd} (h : RT w B G g most l) : ∀ k ∈ G, B ≤ k ∧ k < w.heap.size := by
  obtain ⟨A, n, c, h, rfl⟩ := h
  intro k hk
  rcases List.mem_cons.1 hk with rfl | hk
  · exact ⟨h.base, h.blk.lt⟩
  · have := h.row k (by simpa using hk)
    exact ⟨this.1, this.2.1⟩
/-- What a call leaves. -/
def RTPost (v : Value) (B : Nat) (G : List Nat) (g : Nat) (most : Int) (l : List Fd) (w : World) (e : Ending) (w' : World) : Prop :=
  ∃ G', e = .returned v ∧ RT w' B G' g most l ∧ Turned [g] w w' ∧ ∀ k ∈ G', k ∈ G ∨ w.heap.size ≤ k

theorem total_rev (l : List Fd) : total l.reverse = total l := by
  unfold total
  rw [List.map_reverse, List.sum_reverse]

set_option maxHeartbeats 400000 in
set_option maxRecDepth 100000 in
theorem rtotal_any (A : Option Addr) (n c : Nat) (l : List Fd) (w : World) (h : Fs w A n l) (ht : total l ≤ 1099511627776) (hn : n ≤ 1099511627776) :
    Calls Try.prog 22 #[.slice A n c] w fun e w' => e = .returned (.int .i64 (total l : Nat)) ∧ Below w.heap.size w w' := by
  have H := hid h
  have hlen := h.len
  clear h
  go_enter Try.func22, Try.ntmps22
  go_wp2_with fail
  go_loopw [3, 4] (fun s i wr => ∃ k : Nat, k ≤ n ∧ i = .int .i64 k ∧ s = .int .i64 (total (l.take k) : Nat) ∧ Below w.heap.size w wr) (fun _ i _ => n - (intOf i).toNat)
  case atStart => exact ⟨0, Nat.zero_le _, rfl, rfl, Below.refl _ _⟩
  case round =>
    obtain ⟨k, hk, rfl, rfl, hb⟩ := hrel
    have HB := hid hb
    by_cases hgo : k < n
    · obtain ⟨b, o, f, rfl, hf, c0, c1, c2⟩ := Fs.at_ (H.out.below hb) hgo
      have hst : total (l.take (k + 1)) = total (l.take k) + f.size := by
        rw [List.take_add_one, hf, total_append]
        simp [total]
      have hle : total (l.take (k + 1)) ≤ total l := by
        have := total_append (l.take (k + 1)) (l.drop (k + 1))
        rw [List.take_append_drop] at this
        omega
      have HST := hid hst
      have hfs : ((total (l.take k) : Nat) : Int) + (f.size : Nat) ≤ 1099511627776 := by omega
      have hfz : f.size ≤ 1099511627776 := by omega
      clear hst hle hf hb
      go_wp2_with fail
      refine (rsize_any f wr (by omega)).mono ?_
      rintro e w2 ⟨rfl, hb2⟩
      have HB2 := hid (HB.out.trans (hb2.mono HB.out.size))
      clear hb2 c0 c1 c2
      go_wp2_with fail
      go_roundw
      case rel => exact ⟨k + 1, by omega, by go_num, by rw [HST.out]; go_num, HB2.out⟩
      case measure => simp [intOf]; omega
    · obtain rfl : k = n := by omega
      have he : l.take k = l := List.take_of_length_le (by omega)
      rw [he]
      clear hb he hgo
      go_wp2_with fail
      go_ret
      exact ⟨rfl, HB.out⟩

theorem shr_not {r : Int} {l : List Fd} (h : ¬ r < (total l : Nat)) : shr r l = l := by
  cases l with
  | nil => rfl
  | cons f l => unfold shr; rw [if_neg h]
theorem shr_step {r : Int} {f : Fd} {l : List Fd} (h : r < (total (f :: l) : Nat)) : shr r (f :: l) = shr r l := by
  rw [shr, if_pos h]

/-- Behind the append and the store: the new row is fresh. -/
theorem fresh_end {B g n5 c5 n0 c0 : Nat} {most : Int} {A0 A5 : Option Addr} {l : List Fd} {xs : List Value} {w12 W w5 : World} {row : Option Nat}
    (hkg : Blk w5 g 48 #[.int .i64 most, .slice A0 n0 c0]) (hBg : B ≤ g) (hg : g < w12.heap.size) (hB : B ≤ w12.heap.size) (hbW : Below w12.heap.size w12 W)
    (hown : w5.ownsRow w12.heap.size 30 3 (.slice A5 n5 c5) n5 xs) (hxs : xs = flat l.reverse) (hgr : W.grownBy w5 row) (hrow : ∀ k, row = some k → w12.heap.size ≤ k) :
    RTab (w5.setCell ⟨g, 1, none⟩ (.slice A5 n5 c5)) B g most A5 n5 c5 l ∧ Turned [g] w12 (w5.setCell ⟨g, 1, none⟩ (.slice A5 n5 c5)) ∧ ∀ k, (Value.slice A5 n5 c5).ownBlock = some k → w12.heap.size ≤ k := by
  subst hxs
  have ht5 : Turned [] w12 w5 := Turned.grown (Turned.of_below hbW) hgr (fun k hk => .inr (hrow k hk))
  have ht6 : Turned [g] w5 (w5.setCell ⟨g, 1, none⟩ (.slice A5 n5 c5)) := (Turned.refl _ _).setCell (by simp) _
  have hrw : ∀ k, (Value.slice A5 n5 c5).ownBlock = some k → w12.heap.size ≤ k := fun k hk => (hown.lt k hk).1
  have hlt : ∀ k, (Value.slice A5 n5 c5).ownBlock = some k → k < w5.heap.size := fun k hk => (hown.lt k hk).2
  have hne : ∀ k, (Value.slice A5 n5 c5).ownBlock = some k → k ≠ g := fun k hk e => by
    have := hrw k hk
    omega
  refine ⟨⟨by simpa using hkg.set_ 1 (.slice A5 n5 c5), Rd.of_own (own_turned hown ht6 (fun k hk hm => hne k hk (List.mem_singleton.1 hm))), own_le hown, hBg, fun k hk => ⟨Nat.le_trans hB (hrw k hk), Nat.lt_of_lt_of_le (hlt k hk) ht6.size, hne k hk⟩⟩, (ht5.mono (by simp)).trans ht6 (fun b hb => .inl hb), hrw⟩
theorem flat_init (f : Fd) (t : List Fd) : List.take (t.length * 3) (flat (f :: t).reverse) = flat t.reverse := by
  rw [flat_take]
  congr 1
  simp

set_option maxHeartbeats 1000000 in
set_option maxRecDepth 100000 in
theorem rcut_any (B g : Nat) (most : Int) (A : Option Addr) (n c : Nat) (l : List Fd) (w : World) (h : RTab w B g most A n c l) (ht : total l ≤ 1099511627776) (hn : n ≤ 1099511627776) (hB : B ≤ w.heap.size) (hm : 0 ≤ most) :
    Calls Try.prog 27 #[.pointer (some ⟨g, 0, none⟩)] w (RTPost (.tuple #[]) B (g :: (Value.slice A n c).ownBlock.toList) g most (shr most l) w) := by
  have H := hid h
  have HT := hid ht
  have hlen := h.len
  obtain ⟨i0, hi0, hz0, hz1, hz2⟩ := fd_parts
  have hi := hid hi0
  have hz := hid hz0
  have hsz := hid hz1
  have hby := hid hz2
  clear hi0 hz0 hz1 hz2 h ht
  go_enter Try.func27, Try.ntmps27
  go_wp2_with fail
  go_loopw [] (fun wr => ∃ (A' : Option Addr) (m c' : Nat) (l' : List Fd), m ≤ n ∧ RTab wr B g most A' m c' l' ∧ shr most l' = shr most l ∧ total l' ≤ total l ∧ Turned [g] w wr ∧ (∀ k, (Value.slice A' m c').ownBlock = some k → (Value.slice A n c).ownBlock = some k ∨ w.heap.size ≤ k)) (fun wr => match wr.cell? ⟨g, 1, none⟩ with | some (.slice _ m _) => m | _ => 0)
  case atStart => exact ⟨A, n, c, l, Nat.le_refl _, H.out, rfl, Nat.le_refl _, Turned.refl _ _, fun k hk => .inl hk⟩
  case round =>
    obtain ⟨A', m, c', l', hmn, hR, hs, htl, htw, hk⟩ := hrel
    have HR := hid hR
    have HTW := hid htw
    have HK := hid hk
    have HS := hid hs
    have hlm := hR.len
    have htl2 : total l' ≤ 1099511627776 := Nat.le_trans htl HT.out
    have c0 := hR.blk.cell 0
    have c1 := hR.blk.cell 1
    simp at c0 c1
    have L0 : Hid (∀ w', Below wr.heap.size wr w' → (Instr.loadAt 3 (.pointer (some ⟨g, 0, none⟩))).run Try.prog w' = .ok (.int .i64 most) w') := hid fun w' hw => by
      have q := below_keep hw _ _ c0
      go_simp
    have L1 : Hid (∀ w', Below wr.heap.size wr w' → (Instr.loadAt 38 (.pointer (some ⟨g, 1, none⟩))).run Try.prog w' = .ok (.slice A' m c') w') := hid fun w' hw => by
      have q := below_keep hw _ _ c1
      go_simp
    have HM := hid c1
    clear c0 c1 hR htw hk hs
    have HSB := hid (show Below wr.heap.size wr wr.drew from (Below.refl _ _).drew)
    go_wp2_with fail
    by_cases hgt : most < (total l' : Nat)
    · (refine wp_mixC (Below wr.heap.size wr) ?_ ?_ (HSB.out) ?_; (focus kernel_rfl); (focus kernel_rfl); intro KK hKK; go_wp2_with (first
                                              | (first
        | ((with_reducible refine mixS_load L0.out ?_ ?_ ?_); (focus rfl); (focus rfl))
        | ((with_reducible refine mixS_load L1.out ?_ ?_ ?_); (focus rfl); (focus rfl))
        | (go_at_call 22; go_must (refine (rtotal_any A' m c' _ _ (HR.out.fs.below HSB.out) (by rw [total_rev]; omega) (by omega)).mono ?_; rw [total_rev]; rintro e w12 ⟨rfl, hb12⟩; have HSB := hid (HSB.out.trans (hb12.mono HSB.out.size)); clear hb12))
        | ((with_reducible refine And.intro ?_ ?_); (focus (exact HSB.out))))
                                              | (with_reducible refine mix_nil ?_)
                                              | ((with_reducible refine mixS_on ?_ ?_); (focus rfl); intro K K' hK hK'; go_simp)
                                              | ((with_reducible refine mixS_off ?_ ?_); (focus rfl); intro K hK; go_simp)
                                              | ((with_reducible refine mixS_step ?_); intro K K' hK hK'; go_simp)))
      obtain ⟨f, t, rfl⟩ : ∃ f t, l' = f :: t := by
        cases l' with
        | nil => simp [total] at hgt; omega
        | cons f t => exact ⟨f, t, rfl⟩
      have hmt : m = t.length + 1 := by simpa using hlm.symm
      subst hmt
      have HR2 := hid (HR.out.below HSB.out)
      have HTW2 := hid (HTW.out.trans (Turned.of_below (F := [g]) HSB.out) (fun q hq => .inl hq))
      have hwz := HSB.out.size
      clear HSB L0 L1 HR HTW
      have c1 := HR2.out.blk.cell 1
      simp at c1
      have ga1 := below_keep ((Below.refl w12.heap.size w12).alloc (Nat.le_refl _) (.cells #[] 30)) _ _ c1
      have HOL := hid (World.ownsRow_lit (base := w12.heap.size) (e := 30) (size := 3) w12 #[] 0 (Nat.le_refl _) (by decide) rfl)
      have HRS := hid (Rd.take (k := t.length) (HR2.out.fs) (by omega))
      have hci : (t.length : Int) ≤ c' := by have := HR2.out.cap; omega
      have hw1 := IntWalk.i64_in (t.length : Int) (by omega)
      have hgl := HR2.out.blk.lt
      have hb0 : Below w12.heap.size w12 w12 := Below.refl _ _
      have hs0 : w12.heap.size ≤ w12.heap.size := Nat.le_refl _
      go_region_law (first
        | (refine at_app ?_; go_loud (refine stepL_app w12.heap.size 30 i0 _ 3 40 Try.underlying38 hi.out hz.out hsz.out hby.out rfl (by decide) _ 0 _ (own_below HOL.out ?_) A' t.length c' _ (Rd.below HRS.out ?_) ?_ ?_ ?_ ?_ ?_ ?_ ?_; (focus (first | exact (Below.refl _ _).drew | exact Below.refl _ _ | (go_grown; done))); (focus (go_grown; done)); (focus rfl); (focus rfl); (focus (exact fun u hu => flat_one _ u (List.mem_of_mem_take hu))); (focus omega); (focus omega); (focus go_size); intro A5 c5 w5 hown5 hg5 hat5; refine (have hkg : Blk w5 g 48 #[.int .i64 most, .slice A' (t.length + 1) c'] := ?_; ?_); (focus (refine Blk.grown (HR2.out.blk.below ?_ HR2.out.blk.lt) hg5 (by intro e; have e2 : some g = some w12.heap.size := e; injection e2 with e2; omega); (go_grown; done))); have z1 := hkg.cell 1; have zf1 := hkg.frozen 1; simp at z1)))
      all_goals
        obtain ⟨hr6, ht6, hk6⟩ := fresh_end hkg HR2.out.base hgl (by have := HTW2.out.size; omega) (by (go_grown; done)) hown5 (by rw [List.nil_append]; exact flat_init f t) hg5 (fun k hk => by have e2 : some w12.heap.size = some k := hk; injection e2 with e2; omega)
        have HR6 := hid hr6
        have HT6 := hid (HTW2.out.trans ht6 (fun q hq => .inl hq))
        have HK6 := hid hk6
        have hcl := hr6.blk.cell 1
        simp at hcl
        have HCL := hid hcl
        clear hown5 hg5 hat5 hkg z1 zf1 hr6 ht6 hk6 hcl
        go_wp2_with fail
        go_roundw
        case rel => exact ⟨A5, t.length, c5, t, by omega, by have := HR6.out; simp only [Nat.zero_add] at this; exact this, by rw [← HS.out, shr_step hgt], by rw [total_cons] at htl; omega, by have := HT6.out; simp only [Nat.zero_add] at this; exact this, fun k hk => .inr (Nat.le_trans HTW2.out.size (HK6.out k (by rw [Nat.zero_add]; exact hk)))⟩
        case measure =>
          have e1 := HCL.out
          try simp only [Nat.zero_add] at e1
          rw [HM.out]
          first | rw [e1] | (simp only [Nat.zero_add]; rw [e1])
          simp
    · have hng : ((total l' : Nat) : Int) ≤ most := by omega
      (refine wp_mixC (Below wr.heap.size wr) ?_ ?_ (HSB.out) ?_; (focus kernel_rfl); (focus kernel_rfl); intro KK hKK; go_wp2_with (first
                                              | (first
        | ((with_reducible refine mixS_load L0.out ?_ ?_ ?_); (focus rfl); (focus rfl))
        | ((with_reducible refine mixS_load L1.out ?_ ?_ ?_); (focus rfl); (focus rfl))
        | (go_at_call 22; go_must (refine (rtotal_any A' m c' _ _ (HR.out.fs.below HSB.out) (by rw [total_rev]; omega) (by omega)).mono ?_; rw [total_rev]; rintro e w12 ⟨rfl, hb12⟩; have HSB := hid (HSB.out.trans (hb12.mono HSB.out.size)); clear hb12))
        | ((with_reducible refine And.intro ?_ ?_); (focus (exact HSB.out))))
                                              | (with_reducible refine mix_nil ?_)
                                              | ((with_reducible refine mixS_on ?_ ?_); (focus rfl); intro K K' hK hK'; go_simp)
                                              | ((with_reducible refine mixS_off ?_ ?_); (focus rfl); intro K hK; go_simp)
                                              | ((with_reducible refine mixS_step ?_); intro K K' hK hK'; go_simp)))
      go_end0
      have HR2 := HR.out.below HSB.out
      refine ⟨_, rfl, ⟨A', m, c', by rw [← HS.out, shr_not (by omega)]; exact HR2, rfl⟩, HTW.out.trans (Turned.of_below (F := [g]) HSB.out) (fun q hq => .inl hq), fun k hk => ?_⟩
      rcases List.mem_cons.1 hk with rfl | hk
      · exact .inl (by simp)
      · rcases HK.out k (by simpa using hk) with h3 | h3
        · exact .inl (by simp [h3])
        · exact .inr h3
theorem cut_rt {B g : Nat} {G : List Nat} {most : Int} {l : List Fd} {w : World} (h : RT w B G g most l) (ht : total l ≤ 1099511627776) (hn : l.length ≤ 1099511627776) (hB : B ≤ w.heap.size) (hm : 0 ≤ most) :
    Calls Try.prog 27 #[.pointer (some ⟨g, 0, none⟩)] w (RTPost (.tuple #[]) B G g most (shr most l) w) := by
  obtain ⟨A, n, c, h, rfl⟩ := h
  exact rcut_any B g most A n c l w h ht (by have := h.len; omega) hB hm

def RNew (m : Int) (w : World) (e : Ending) (w' : World) : Prop :=
  if m < 0 ∨ 4096 < m then e = .returned (.tuple #[.pointer none, .int .i64 1]) ∧ w = w'
  else ∃ G, e = .returned (.tuple #[.pointer (some ⟨w.heap.size, 0, none⟩), .int .i64 0]) ∧ RT w' w.heap.size G w.heap.size m [] ∧ Below w.heap.size w w'
set_option maxHeartbeats 400000 in
set_option maxRecDepth 100000 in
theorem rnew_any (m : Int) (w : World) : Calls Try.prog 17 #[.int .i64 m] w (RNew m w) := by
  have HP : Hid (∀ e w', (if m < 0 ∨ 4096 < m then e = .returned (.tuple #[.pointer none, .int .i64 1]) ∧ w = w'
  else ∃ G, e = .returned (.tuple #[.pointer (some ⟨w.heap.size, 0, none⟩), .int .i64 0]) ∧ RT w' w.heap.size G w.heap.size m [] ∧ Below w.heap.size w w') → RNew m w e w') := hid fun e w' h => h
  go_enter Try.func17, Try.ntmps17
  have hc : m < 0 ∨ (0 ≤ m ∧ 4096 < m) ∨ (0 ≤ m ∧ m ≤ 4096) := by omega
  rcases hc with h1 | ⟨h1, h2⟩ | ⟨h1, h2⟩
  · have HX := hid (show m < 0 ∨ 4096 < m from .inl h1)
    go_wp2_with fail
    go_ret2
    refine HP.out _ _ ?_
    rw [if_pos HX.out]
    exact ⟨rfl, rfl⟩
  · have HX := hid (show m < 0 ∨ 4096 < m from .inr h2)
    go_wp2_with fail
    go_ret2
    refine HP.out _ _ ?_
    rw [if_pos HX.out]
    exact ⟨rfl, rfl⟩
  · have HX := hid (show ¬ (m < 0 ∨ 4096 < m) by omega)
    go_wp2_with fail
    go_ret2
    refine HP.out _ _ ?_
    rw [if_neg HX.out]
    exact ⟨_, rfl, ⟨none, 0, 0, ⟨Blk.new w _ _, Rd.nil _ _ _, Nat.le_refl _, Nat.le_refl _, fun k hk => by cases hk⟩, rfl⟩, (Below.refl _ _).alloc (Nat.le_refl _) _⟩

/-- What Limit leaves. -/
def RLim (m : Int) (B : Nat) (G : List Nat) (g : Nat) (most : Int) (l : List Fd) (w : World) (e : Ending) (w' : World) : Prop :=
  if m < 0 ∨ 4096 < m then e = .returned (.int .i64 1) ∧ w = w' else RTPost (.int .i64 0) B G g m (shr m l) w e w'
set_option maxHeartbeats 400000 in
set_option maxRecDepth 100000 in
theorem rlimit_any {B g : Nat} {G : List Nat} {most : Int} {l : List Fd} {w : World} (m : Int) (h : RT w B G g most l) (ht : total l ≤ 1099511627776) (hn : l.length ≤ 1099511627776) (hB : B ≤ w.heap.size) :
    Calls Try.prog 19 #[.pointer (some ⟨g, 0, none⟩), .int .i64 m] w (RLim m B G g most l w) := by
  have HP : Hid (∀ e w', (if m < 0 ∨ 4096 < m then e = .returned (.int .i64 1) ∧ w = w' else RTPost (.int .i64 0) B G g m (shr m l) w e w') → RLim m B G g most l w e w') := hid fun e w' h => h
  obtain ⟨A, n, c, h, rfl⟩ := h
  have H := hid h
  have k0 := h.blk.cell 0
  have kf := h.blk.frozen 0
  simp at k0
  clear h
  go_enter Try.func19, Try.ntmps19
  have hc : m < 0 ∨ (0 ≤ m ∧ 4096 < m) ∨ (0 ≤ m ∧ m ≤ 4096) := by omega
  rcases hc with h1 | ⟨h1, h2⟩ | ⟨h1, h2⟩
  · have HX := hid (show m < 0 ∨ 4096 < m from .inl h1)
    go_wp2_with fail
    go_ret
    refine HP.out _ _ ?_
    rw [if_pos HX.out]
    exact ⟨rfl, rfl⟩
  · have HX := hid (show m < 0 ∨ 4096 < m from .inr h2)
    go_wp2_with fail
    go_ret
    refine HP.out _ _ ?_
    rw [if_pos HX.out]
    exact ⟨rfl, rfl⟩
  · have HX := hid (show ¬ (m < 0 ∨ 4096 < m) by omega)
    go_wp2_with fail
    have ht1 : Turned [g] w (w.setCell ⟨g, 0, none⟩ (.int .i64 m)) := (Turned.refl _ _).setCell (by simp) _
    have hr1 : RTab (w.setCell ⟨g, 0, none⟩ (.int .i64 m)) B g m A n c l :=
      ⟨by simpa using H.out.blk.set_ 0 (.int .i64 m), Rd.turned H.out.fs ht1 (fun ad e hm => (H.out.row ad.block (by rw [e]; rfl)).2.2 (List.mem_singleton.1 hm)), H.out.cap, H.out.base, fun k hk => ⟨(H.out.row k hk).1, Nat.lt_of_lt_of_le (H.out.row k hk).2.1 ht1.size, (H.out.row k hk).2.2⟩⟩
    have HR1 := hid hr1
    have HT1 := hid ht1
    clear k0 kf hr1 ht1
    generalize w.setCell ⟨g, 0, none⟩ (.int .i64 m) = w1 at HR1 HT1 ⊢
    refine (cut_rt ⟨A, n, c, HR1.out, rfl⟩ ht hn (by have := HT1.out.size; omega) (by omega)).mono ?_
    rintro e w2 ⟨G', rfl, hr2, ht2, hk2⟩
    have HR2 := hid hr2
    have HT2 := hid (HT1.out.trans ht2 (fun q hq => .inl hq))
    have HK2 := hid hk2
    clear hr2 ht2 hk2
    go_wp2_with fail
    go_ret
    refine HP.out _ _ ?_
    rw [if_neg HX.out]
    exact ⟨G', rfl, HR2.out, HT2.out, fun k hk => (HK2.out k hk).imp id (fun h => Nat.le_trans HT1.out.size h)⟩

set_option maxHeartbeats 1000000 in
set_option maxRecDepth 100000 in
theorem rfind_any (nm vl : ByteArray) {B g : Nat} {G : List Nat} {most : Int} {l : List Fd} {w : World} (h : RT w B G g most l) (hn : l.length ≤ 1099511627776) :
    Calls Try.prog 21 #[.pointer (some ⟨g, 0, none⟩), .string nm, .string vl] w fun e w' => e = .returned (.tuple #[.int .i64 ((findK l nm vl l.length).1 : Nat), .int .i64 ((findK l nm vl l.length).2 : Nat)]) ∧ Below w.heap.size w w' := by
  obtain ⟨A, n, c, h, rfl⟩ := h
  have H := hid h
  have hlen := h.len
  have H1 := hid (show w.cell? ⟨g, 1, none⟩ = some (.slice A n c) from h.blk.cell 1)
  have h1 := H1.out
  clear h
  go_enter Try.func21, Try.ntmps21
  go_wp2_with fail
  go_loopw [8, 9, 10] (fun x y i wr => ∃ k : Nat, k ≤ n ∧ i = .int .i64 k ∧ x = .int .i64 ((findK l nm vl (n - k)).1 : Nat) ∧ y = .int .i64 ((findK l nm vl (n - k)).2 : Nat) ∧ Below w.heap.size w wr) (fun _ _ i _ => (intOf i).toNat)
  case atStart => exact ⟨n, Nat.le_refl _, rfl, by rw [Nat.sub_self]; rfl, by rw [Nat.sub_self]; rfl, Below.refl _ _⟩
  case round =>
    obtain ⟨k, hk, rfl, rfl, rfl, hb⟩ := hrel
    have HB := hid hb
    clear h1
    by_cases hk0 : 0 < k
    · obtain ⟨b, o, f, rfl, hf, f0, f1, f2⟩ := Fs.at_ (w := wr) (H.out.fs.below hb) (i := k - 1) (by omega)
      have c1 := below_keep hb _ _ H1.out
      have hf2 : l[n - k]? = some f := by
        rw [List.getElem?_reverse (by omega)] at hf
        rw [← hf]
        congr 1
        omega
      have HF := hid (findK_some (nm := nm) (vl := vl) hf2)
      rw [hlen, show n - (n - k) = k by omega, show n - k + 1 = n - (k - 1) by omega] at HF
      have hsub : (k : Int) - 1 = ((k - 1 : Nat) : Int) := by omega
      obtain ⟨d, hd⟩ : ∃ d, k - 1 = d := ⟨_, rfl⟩
      rw [hd] at hf f0 f1 f2 hsub HF
      have hdn : (d : Int) < n := by omega
      have hd0 : (0 : Int) ≤ d := by omega
      have hw1 := IntWalk.i64_in (d : Int) (by omega)
      clear hf hf2 hb
      go_wp2_with fail
      · have a1 : (f.n.toList == nm.toList) = true := by assumption
        have a2 : (f.v.toList == vl.toList) = true := by assumption
        rw [a1, a2] at HF
        go_roundw
        case rel => exact ⟨d, by omega, rfl, by rw [HF.out]; rfl, by rw [HF.out]; rfl, HB.out⟩
        case measure => simp [intOf]; omega
      · have a1 : (f.n.toList == nm.toList) = true := by assumption
        have a2 : (f.v.toList == vl.toList) = false := by assumption
        rw [a1, a2] at HF
        go_roundw
        case rel => exact ⟨d, by omega, rfl, by rw [HF.out]; rfl, by rw [HF.out]; rfl, HB.out⟩
        case measure => simp [intOf]; omega
      · have a1 : (f.n.toList == nm.toList) = false := by assumption
        rw [a1] at HF
        go_roundw
        case rel => exact ⟨d, by omega, rfl, by rw [HF.out]; rfl, by rw [HF.out]; rfl, HB.out⟩
        case measure => simp [intOf]; omega
    · obtain rfl : k = 0 := by omega
      clear hb
      go_wp2_with fail
      go_ret2
      exact ⟨by rw [hlen]; rfl, HB.out⟩

set_option maxHeartbeats 1000000 in
set_option maxRecDepth 100000 in
theorem rget_any (i : Int) {B g : Nat} {G : List Nat} {most : Int} {l : List Fd} {w : World} (h : RT w B G g most l) (hn : l.length ≤ 1099511627776) :
    Calls Try.prog 20 #[.pointer (some ⟨g, 0, none⟩), .int .i64 i] w fun e w' => e = .returned (.tuple #[(getF l i).1.val, .bool (getF l i).2]) ∧ Below w.heap.size w w' := by
  obtain ⟨A, n, c, h, rfl⟩ := h
  have H := hid h
  have hlen := h.len
  have h1w : w.cell? ⟨g, 1, none⟩ = some (.slice A n c) := h.blk.cell 1
  have hcap := h.cap
  clear h
  go_enter Try.func20, Try.ntmps20
  go_upto_region 1 with fail
  obtain ⟨wa, hwa⟩ : ∃ wa, w.alloc (.cells #[.string ⟨#[]⟩, .string ⟨#[]⟩, .bool false] 30) = wa := ⟨_, rfl⟩
  have hRa : Blk wa w.heap.size 30 #[.string ⟨#[]⟩, .string ⟨#[]⟩, .bool false] := by rw [← hwa]; exact Blk.new w _ _
  have hba : Below w.heap.size w wa := by rw [← hwa]; exact (Below.refl _ _).alloc (Nat.le_refl _) _
  have HR := hid hRa
  have HB := hid hba
  have h0 := below_keep hba _ _ h1w
  rw [hwa]
  clear hRa hba hwa h1w
  have k0 := HR.out.cell 0
  have k1 := HR.out.cell 1
  have k2 := HR.out.cell 2
  have kf0 := HR.out.frozen 0
  have kf1 := HR.out.frozen 1
  have kf2 := HR.out.frozen 2
  simp at k0 k1 k2
  have hc : i < 1 ∨ (1 ≤ i ∧ (n : Int) < i) ∨ (1 ≤ i ∧ i ≤ (n : Int)) := by omega
  rcases hc with h1 | ⟨h1, h2⟩ | ⟨h1, h2⟩
  rotate_right
  · obtain ⟨j, rfl⟩ : ∃ j : Nat, i = j := ⟨i.toNat, by omega⟩
    obtain ⟨b, o, f, rfl, hf, f0, f1, f2⟩ := Fs.at_ (w := wa) (H.out.fs.below HB.out) (i := j - 1) (by omega)
    have HE : Hid (getF l j = (f, true)) := hid (by
      rw [List.getElem?_reverse (by omega)] at hf
      unfold getF
      rw [if_pos (by omega), Int.toNat_natCast, show l.length - j = l.length - 1 - (j - 1) by omega, hf]
      rfl)
    have hsub : (j : Int) - 1 = ((j - 1 : Nat) : Int) := by omega
    obtain ⟨d, hd⟩ : ∃ d, j - 1 = d := ⟨_, rfl⟩
    rw [hd] at hf f0 f1 f2 hsub
    have hdn : (d : Int) < n := by omega
    have hd0 : (0 : Int) ≤ d := by omega
    have hw1 := IntWalk.i64_in (d : Int) (by omega)
    clear hf hd
    go_wp2_with fail
    have hB := ((HR.out.set_ 0 (.string f.n)).set_ 1 (.string f.v)).set_ 2 (.bool f.x)
    have hbz := (((HB.out.setCell (p := ⟨w.heap.size, 0, none⟩) (Nat.le_refl _) (.string f.n)).setCell (p := ⟨w.heap.size, 1, none⟩) (Nat.le_refl _) (.string f.v)).setCell (p := ⟨w.heap.size, 2, none⟩) (Nat.le_refl _) (.bool f.x))
    clear k0 k1 k2 kf0 kf1 kf2
    generalize ((wa.setCell ⟨w.heap.size, 0, none⟩ (.string f.n)).setCell ⟨w.heap.size, 1, none⟩ (.string f.v)).setCell ⟨w.heap.size, 2, none⟩ (.bool f.x) = wz at hB hbz ⊢
    have k0 := hB.cell 0
    have k1 := hB.cell 1
    have k2 := hB.cell 2
    simp at k0 k1 k2
    exact bodyPost_ret (v := .tuple #[.agg #[.string f.n, .string f.v, .bool f.x], .bool true]) (by simp [results, Try.results20, go_sem, k0, k1, k2]) rfl ⟨by rw [HE.out], hbz⟩
  all_goals
    have HE : Hid (getF l i = (⟨⟨#[]⟩, ⟨#[]⟩, false⟩, false)) := hid (by unfold getF; rw [if_neg (by omega)])
    go_wp2_with fail
    have hB := ((HR.out.set_ 0 (.string ⟨#[]⟩)).set_ 1 (.string ⟨#[]⟩)).set_ 2 (.bool false)
    have hbz := (((HB.out.setCell (p := ⟨w.heap.size, 0, none⟩) (Nat.le_refl _) (.string ⟨#[]⟩)).setCell (p := ⟨w.heap.size, 1, none⟩) (Nat.le_refl _) (.string ⟨#[]⟩)).setCell (p := ⟨w.heap.size, 2, none⟩) (Nat.le_refl _) (.bool false))
    clear k0 k1 k2 kf0 kf1 kf2
    generalize ((wa.setCell ⟨w.heap.size, 0, none⟩ (.string ⟨#[]⟩)).setCell ⟨w.heap.size, 1, none⟩ (.string ⟨#[]⟩)).setCell ⟨w.heap.size, 2, none⟩ (.bool false) = wz at hB hbz ⊢
    have k0 := hB.cell 0
    have k1 := hB.cell 1
    have k2 := hB.cell 2
    simp at k0 k1 k2
    exact bodyPost_ret (v := .tuple #[.agg #[.string ⟨#[]⟩, .string ⟨#[]⟩, .bool false], .bool false]) (by simp [results, Try.results20, go_sem, k0, k1, k2]) rfl ⟨by rw [HE.out], hbz⟩
end Go.Proofs.Ytlnhnnejmofpcaa
