/- The reference's encoder: New and Peer, each once. No condition. -/
import Derived.Test.YtjeocmglcgnclaaDoorGk
import Derived.Test.YtjeocmglcgnclaaDoorGr
namespace Go.Proofs.YtjeocmglcgnclaaDoor
open Go.RowKit
attribute [local go_sem] kd kdS if_min if_max if_minN if_maxN

/-- The reference's encoder in block ge, its table in gt; the table's blocks are F. -/
structure REnc (w : World) (B : Nat) (F : List Nat) (ge gt : Nat) (most told least : Int) (set : Bool) (L : List Fd) : Prop where
  blk : Blk w ge 50 #[.pointer (some ⟨gt, 0, none⟩), .int .i64 told, .int .i64 least, .bool set]
  tb : RT w B F gt most L
  base : B ≤ ge
  ne : ge ∉ F
  ok : TabOk most L
section
variable {w w' : World} {B : Nat} {F F' : List Nat} {ge gt : Nat} {most told least : Int} {set : Bool} {L : List Fd}
theorem RT.mem {g : Nat} (h : RT w B F g most L) : g ∈ F := by
  obtain ⟨A, n, c, _, rfl⟩ := h
  simp
theorem REnc.below (h : REnc w B F ge gt most told least set L) (hb : Below w.heap.size w w') : REnc w' B F ge gt most told least set L :=
  ⟨h.blk.below hb h.blk.lt, h.tb.below hb, h.base, h.ne, h.ok⟩
theorem REnc.turned {G : List Nat} (h : REnc w B F ge gt most told least set L) (ht : Turned G w w') (hd : ∀ k ∈ ge :: F, k ∉ G) : REnc w' B F ge gt most told least set L :=
  ⟨h.blk.turned ht (hd ge (by simp)), h.tb.turned ht (fun k hk => hd k (by simp [hk])), h.base, h.ne, h.ok⟩
theorem REnc.ge_ (h : REnc w B F ge gt most told least set L) : ∀ k ∈ ge :: F, B ≤ k ∧ k < w.heap.size := by
  intro k hk
  rcases List.mem_cons.1 hk with rfl | hk
  · exact ⟨h.base, h.blk.lt⟩
  · exact h.tb.ge k hk
theorem REnc.nt (h : REnc w B F ge gt most told least set L) : ge ≠ gt := fun e => h.ne (e ▸ h.tb.mem)
end
def REncNew (w : World) (e : Ending) (w' : World) : Prop :=
  ∃ F ge gt, e = .returned (.pointer (some ⟨ge, 0, none⟩)) ∧ REnc w' w.heap.size F ge gt 4096 4096 0 false [] ∧ Below w.heap.size w w'
set_option maxHeartbeats 400000 in
set_option maxRecDepth 100000 in
theorem rencNew_any (w : World) : Calls Tryd.prog 15 #[] w (REncNew w) := by
  go_enter Tryd.func15, Tryd.ntmps15
  go_wp2_with fail
  refine (rnew_any 4096 w).mono ?_
  intro e w1 hp
  unfold RNew at hp
  rw [if_neg (by omega)] at hp
  obtain ⟨F, rfl, h1, hb1⟩ := hp
  have H1 := hid h1
  have HB1 := hid hb1
  clear h1 hb1
  go_wp2_with fail
  go_ret
  have hb2 : Below w1.heap.size w1 (w1.alloc (.cells #[.pointer (some ⟨w.heap.size, 0, none⟩), .int .i64 4096, .int .i64 0, .bool false] 50)) := (Below.refl _ _).alloc (Nat.le_refl _) _
  exact ⟨F, w1.heap.size, w.heap.size, rfl, ⟨Blk.new w1 _ _, H1.out.below hb2, HB1.out.size, fun hm => by have := (H1.out.ge _ hm).2; omega, by omega, by omega, by simp [total], fun f hf => by cases hf⟩, HB1.out.trans (hb2.mono HB1.out.size)⟩

/-- A call that leaves it with other limits and fields. -/
def REncPost (v : Value) (B : Nat) (F : List Nat) (ge gt : Nat) (most told least : Int) (set : Bool) (L : List Fd) (w : World) (e : Ending) (w' : World) : Prop :=
  ∃ F', e = .returned v ∧ REnc w' B F' ge gt most told least set L ∧ Turned (ge :: F) w w' ∧ ∀ k ∈ F', k ∈ F ∨ w.heap.size ≤ k
def leastR (least p : Int) (set : Bool) : Int := if set = false ∨ p < least then p else least
set_option maxHeartbeats 1000000 in
set_option maxRecDepth 100000 in
theorem rpeer_any (n : Int) (B : Nat) (F : List Nat) (ge gt : Nat) (most told least : Int) (set : Bool) (L : List Fd) (w : World) (h : REnc w B F ge gt most told least set L) (hB : B ≤ w.heap.size) :
    Calls Tryd.prog 17 #[.pointer (some ⟨ge, 0, none⟩), .int .i64 n] w (REncPost (.tuple #[]) B F ge gt (peerN n) told (leastR least (peerN n) set) true (shr (peerN n) L) w) := by
  have H := hid h
  have hlen := h.ok.len
  have htot := h.ok.2.2.1
  have hm1 := h.ok.2.1
  have hp := peerN_le n
  have HP : Hid (min (max n 0) 4096 = peerN n) := hid rfl
  have k2 := h.blk.cell 2
  have k3 := h.blk.cell 3
  have kf2 := h.blk.frozen 2
  have kf3 := h.blk.frozen 3
  simp at k2 k3
  clear h
  -- what is left behind the two stores
  have hend : ∀ z : Int, Hid (∃ w1, w1 = ((w.setCell ⟨ge, 2, none⟩ (.int .i64 z)).setCell ⟨ge, 3, none⟩ (.bool true)) ∧ Blk w1 ge 50 #[.pointer (some ⟨gt, 0, none⟩), .int .i64 told, .int .i64 z, .bool true] ∧ Turned [ge] w w1) := fun z => hid ⟨_, rfl, by
    have h1 := (H.out.blk.set_ 2 (.int .i64 z)).set_ 3 (.bool true)
    simpa using h1, ((Turned.refl _ _).setCell (by simp) _).setCell (by simp) _⟩
  have hend2 : Hid (∃ w1, w1 = (w.setCell ⟨ge, 3, none⟩ (.bool true)) ∧ Blk w1 ge 50 #[.pointer (some ⟨gt, 0, none⟩), .int .i64 told, .int .i64 least, .bool true] ∧ Turned [ge] w w1) := hid ⟨_, rfl, by
    have h1 := H.out.blk.set_ 3 (.bool true)
    simpa using h1, (Turned.refl _ _).setCell (by simp) _⟩
  go_enter Tryd.func17, Tryd.ntmps17
  go_upto_region 1 with fail
  rw [HP.out]
  clear HP
  have hfin : ∀ (w1 : World) (z : Int), Blk w1 ge 50 #[.pointer (some ⟨gt, 0, none⟩), .int .i64 told, .int .i64 z, .bool true] → Turned [ge] w w1 → ∀ (e : Ending) (w' : World), RLim (peerN n) B F gt most L w1 e w' →
      (e = .returned (.int .i64 0) ∧ REncPost (.tuple #[]) B F ge gt (peerN n) told z true (shr (peerN n) L) w (.returned (.tuple #[])) w') := fun w1 z hb ht e w' hq => by
    unfold RLim at hq
    rw [if_neg (by omega)] at hq
    obtain ⟨F1, he, h1, ht1, hk1⟩ := hq
    have hne : ge ∉ F1 := fun hm => by
      rcases hk1 ge hm with h | h
      · exact H.out.ne h
      · have := hb.lt
        omega
    refine ⟨he, F1, rfl, ⟨hb.turned ht1 (fun hm => H.out.nt (List.mem_singleton.1 hm)), h1, H.out.base, hne, H.out.ok.lim hp.1 hp.2⟩, ?_, fun k hk => (hk1 k hk).imp id (fun h => Nat.le_trans ht.size h)⟩
    exact (ht.mono (fun b hb => by have := List.mem_singleton.1 hb; simp [this])).trans ht1 (fun b hb => .inl (by have := List.mem_singleton.1 hb; subst this; simp [H.out.tb.mem]))
  have HFIN := hid hfin
  have HTB : ∀ w1 : World, Turned [ge] w w1 → Hid (RT w1 B F gt most L) := fun w1 ht => hid (H.out.tb.turned ht (fun k hk hm => H.out.ne (by have := List.mem_singleton.1 hm; subst this; exact hk)))
  have hsz : ∀ w1 : World, Turned [ge] w w1 → Hid (B ≤ w1.heap.size) := fun w1 ht => hid (Nat.le_trans hB ht.size)
  clear hfin hp
  by_cases hs : set = false ∨ (peerN n) < least
  · have HL : Hid (leastR least (peerN n) set = (peerN n)) := hid (if_pos hs)
    have hcond : set = false ∨ (set = true ∧ (peerN n) < least) := by
      rcases set with _ | _
      · exact .inl rfl
      · exact .inr ⟨rfl, by simpa using hs⟩
    clear hs hend2
    rcases hcond with rfl | ⟨rfl, hlt⟩
    all_goals
      go_upto_region 4 with fail
      obtain ⟨w1, e1, hb, ht⟩ := (hend (peerN n)).out
      rw [← e1]
      have k0 := hb.cell 0
      simp at k0
      have HB := hid hb
      have HT := hid ht
      have HTB1 := HTB w1 ht
      have HSZ := hsz w1 ht
      clear e1 hb ht k2 k3 kf2 kf3 hend hsz HTB
      go_wp2_with fail
      refine (rlimit_any (peerN n) HTB1.out (by omega) (by omega) HSZ.out).mono ?_
      intro e w2 hq
      obtain ⟨rfl, hz⟩ := HFIN.out w1 (peerN n) HB.out HT.out e w2 hq
      have HZ := hid hz
      clear hq hz k0
      go_wp2_with fail
      go_end0
      rw [HL.out]
      exact HZ.out
  · have HL : Hid (leastR least (peerN n) set = least) := hid (if_neg hs)
    have hcond : set = true ∧ ¬ (peerN n) < least := by
      rcases set with _ | _
      · simp at hs
      · exact ⟨rfl, by simpa using hs⟩
    clear hs hend
    obtain ⟨rfl, hlt⟩ := hcond
    go_upto_region 4 with fail
    obtain ⟨w1, e1, hb, ht⟩ := hend2.out
    rw [← e1]
    have k0 := hb.cell 0
    simp at k0
    have HB := hid hb
    have HT := hid ht
    have HTB1 := HTB w1 ht
    have HSZ := hsz w1 ht
    clear e1 hb ht k2 k3 kf2 kf3 hend2 hsz HTB
    go_wp2_with fail
    refine (rlimit_any (peerN n) HTB1.out (by omega) (by omega) HSZ.out).mono ?_
    intro e w2 hq
    obtain ⟨rfl, hz⟩ := HFIN.out w1 least HB.out HT.out e w2 hq
    have HZ := hid hz
    clear hq hz k0
    go_wp2_with fail
    go_end0
    rw [HL.out]
    exact HZ.out
end Go.Proofs.YtjeocmglcgnclaaDoor
