/- The reference's one: one representation (printed by gen_one.py). Conditions: at most 2^30 bytes. -/
import Derived.Test.YtdiejemhhcaicaaDoorRDecJ
namespace Go.Proofs.YtdiejemhhcaicaaDoor
open Go.RowKit
attribute [local go_sem] kd kdS
attribute [local go_sem ↓] sliced_word
attribute [local go_sem] offA_zero

/-- The decoder amid a call: the blocks K are the call's own. -/
structure RO (w wr : World) (B : Nat) (F0 F : List Nat) (gd gt : Nat) (dead : Bool) (most : Int) (L : List Fd) (K : List Nat) : Prop where
  dec : RDec wr B F gd gt dead most L
  kept : ∀ k ∈ K, k ∉ gd :: F ∧ k < wr.heap.size ∧ w.heap.size ≤ k
  tn : Turned (gd :: F0) w wr
  kf : ∀ k ∈ F, k ∈ F0 ∨ w.heap.size ≤ k
section
variable {w wr w' : World} {B : Nat} {F0 F F' : List Nat} {gd gt : Nat} {dead dead' : Bool} {most most' : Int} {L L' : List Fd} {K : List Nat}
theorem RO.start (h : RDec w B F gd gt dead most L) : RO w w B F F gd gt dead most L [] := ⟨h, (fun k hk => by cases hk), Turned.refl _ _, fun k hk => .inl hk⟩
theorem RO.below (h : RO w wr B F0 F gd gt dead most L K) (hb : Below wr.heap.size wr w') : RO w w' B F0 F gd gt dead most L K :=
  ⟨h.dec.below hb, fun k hk => ⟨(h.kept k hk).1, Nat.lt_of_lt_of_le (h.kept k hk).2.1 hb.size, (h.kept k hk).2.2⟩, h.tn.trans (Turned.of_below (F := []) hb) (fun b hb => by cases hb), h.kf⟩
theorem RO.fresh (h : RO w wr B F0 F gd gt dead most L K) (hb : Below wr.heap.size wr w') {k : Nat} (hk : wr.heap.size ≤ k) (hl : k < w'.heap.size) : RO w w' B F0 F gd gt dead most L (k :: K) := by
  have h1 := h.below hb
  refine ⟨h1.dec, fun q hq => ?_, h1.tn, h1.kf⟩
  rcases List.mem_cons.1 hq with rfl | hq
  · exact ⟨fun hm => by have := (h.dec.ge_ _ hm).2; omega, hl, by have := h.tn.size; omega⟩
  · exact h1.kept q hq
theorem RO.own (h : RO w wr B F0 F gd gt dead most L K) {p : Nat} (hp : p ∈ K) (ht : Turned [p] wr w') : RO w w' B F0 F gd gt dead most L K := by
  have h1 := h.kept p hp
  refine ⟨h.dec.turned ht (fun k hk hm => h1.1 (by have := List.mem_singleton.1 hm; subst this; exact hk)), fun k hk => ⟨(h.kept k hk).1, Nat.lt_of_lt_of_le (h.kept k hk).2.1 ht.size, (h.kept k hk).2.2⟩, h.tn.trans ht (fun b hb => ?_), h.kf⟩
  have := List.mem_singleton.1 hb
  subst this
  exact .inr h1.2.2
theorem RO.tab (h : RO w wr B F0 F gd gt dead most L K) (hr : RT w' B F' gt most' L') (ht : Turned [gt] wr w') (hk : ∀ k ∈ F', k ∈ F ∨ wr.heap.size ≤ k) (ho : TabOk most' L') (hm : gt ∈ F) : RO w w' B F0 F' gd gt dead most' L' K := by
  have hs := h.tn.size
  refine ⟨⟨h.dec.blk.turned ht (fun e => h.dec.ne (by have := List.mem_singleton.1 e; rw [this]; exact hm)), hr, h.dec.base, fun hq => ?_, ho⟩, fun k hq => ⟨fun hn => ?_, Nat.lt_of_lt_of_le (h.kept k hq).2.1 ht.size, (h.kept k hq).2.2⟩, h.tn.trans ht (fun b hb => ?_), fun k hq => ?_⟩
  · rcases hk gd hq with h1 | h1
    · exact h.dec.ne h1
    · have := h.dec.blk.lt
      omega
  · have h2 := h.kept k hq
    rcases List.mem_cons.1 hn with rfl | hn
    · exact h2.1 (by simp)
    · rcases hk k hn with h1 | h1
      · exact h2.1 (by simp [h1])
      · omega
  · have := List.mem_singleton.1 hb
    subst this
    rcases h.kf _ hm with h1 | h1
    · exact .inl (by simp [h1])
    · exact .inr h1
  · rcases hk k hq with h1 | h1
    · exact h.kf k h1
    · exact .inr (by omega)
theorem RT.mem_ {G : List Nat} {g : Nat} {m : Int} {l : List Fd} (h : RT w B G g m l) : g ∈ G := by
  obtain ⟨A, n, c, _, rfl⟩ := h
  simp
theorem RO.box (h : RO w wr B F0 F gd gt dead most L K) {p : Nat} (hp : p ∈ K) {f : Fd} (hb : BoxAt wr p f) (ht : Turned [gt] wr w') (hm : gt ∈ F) : BoxAt w' p f :=
  Blk.turned hb ht (fun e => (h.kept p hp).1 (by have := List.mem_singleton.1 e; subst this; simp [hm]))
end
/-- What one answers. -/
def ROnePost (bs : List UInt8) (at_ B : Nat) (F : List Nat) (gd gt : Nat) (dead : Bool) (most : Int) (L : List Fd) (w : World) (e : Ending) (w' : World) : Prop :=
  match oneD most L (bs.drop at_) with
  | none => ∃ (f : Fd) (i : Int) (a : Bool) (F' : List Nat), e = .returned (.tuple #[f.val, .int .i64 i, .bool a, .bool false]) ∧ RO w w' B F F' gd gt dead most L []
  | some (f, r, lim, m, l) => ∃ (k : Nat) (F' : List Nat), at_ < k ∧ k ≤ bs.length ∧ r = bs.drop k ∧ e = .returned (.tuple #[f.val, .int .i64 (k : Nat), .bool lim, .bool true]) ∧ RO w w' B F F' gd gt dead m l []
theorem RO.bare {w wr : World} {B : Nat} {F0 F : List Nat} {gd gt : Nat} {dead : Bool} {most : Int} {L : List Fd} {K : List Nat} (h : RO w wr B F0 F gd gt dead most L K) : RO w wr B F0 F gd gt dead most L [] := ⟨h.dec, (fun k hk => by cases hk), h.tn, h.kf⟩
set_option maxRecDepth 100000 in
theorem rone_end {R : Ending → World → Prop} {tm : Array Value} {w w2 w0 : World} {p : Nat} {f g : Fd} {i : Int} {a b : Bool} {B : Nat} {F0 F : List Nat} {gd gt : Nat} {dead : Bool} {most : Int} {L : List Fd} {K : List Nat}
    (h6 : tm.getD 6 undef = .pointer (some ⟨p, 0, none⟩)) (h7 : tm.getD 7 undef = .int .i64 i) (h8 : tm.getD 8 undef = .bool a) (h9 : tm.getD 9 undef = .bool b) (hp : BoxAt w p g) (hw : put3 w p f = w2)
    (hO : RO w0 w B F0 F gd gt dead most L K) (hk : p ∈ K)
    (hR : RO w0 w2 B F0 F gd gt dead most L [] → R (.returned (.tuple #[f.val, .int .i64 i, .bool a, .bool b])) w2) :
    bodyPost Tryd.prog Tryd.f29 R .ret { tmps := tm, defers := [] } w2 := by
  obtain ⟨hB, ht⟩ := put3_box hp f
  rw [hw] at hB ht
  obtain ⟨a0, a1, a2⟩ := BoxAt.c hB
  rw [Array.getD_eq_getD_getElem?] at h6 h7 h8 h9
  exact bodyPost_ret (v := .tuple #[.agg #[.string f.n, .string f.v, .bool f.x], .int .i64 i, .bool a, .bool b]) (by simp [results, Tryd.results29, go_sem, h6, h7, h8, h9, a0, a1, a2]) rfl (hR (hO.own hk ht).bare)

def zeroF : Fd := ⟨⟨#[]⟩, ⟨#[]⟩, false⟩
theorem BoxAt.own {w w' w0 : World} {B : Nat} {F0 F : List Nat} {gd gt : Nat} {dead : Bool} {most : Int} {L : List Fd} {K : List Nat} {p q : Nat} {f : Fd} (h : BoxAt w p f) (_ : RO w0 w B F0 F gd gt dead most L K) (ht : Turned [q] w w') (hne : p ≠ q) : BoxAt w' p f := Blk.turned h ht (by simpa using hne)
theorem oneD_none {most : Int} {L : List Fd} {bs : List UInt8} {x : UInt8} {t : List UInt8} (h : bs = x :: t) (h7 : 128 ≤ x.toNat → numP bs 7 = none) (h6 : x.toNat < 128 → 64 ≤ x.toNat → numP bs 6 = none) (h5 : x.toNat < 64 → 32 ≤ x.toNat → numP bs 5 = none) (h4 : x.toNat < 32 → numP bs 4 = none) : oneD most L bs = none := by
  subst h
  unfold oneD
  dsimp only
  unfold litD
  split
  · rw [h7 (by omega)]
  · split
    · rw [h6 (by omega) (by omega)]
    · split
      · rw [h5 (by omega) (by omega)]
      · rw [h4 (by omega)]
theorem oneD_known {most : Int} {L : List Fd} {bs : List UInt8} {x : UInt8} {t : List UInt8} (h : bs = x :: t) (h1 : 128 ≤ x.toNat) {n : Nat} {r : List UInt8} (hn : numP bs 7 = some (n, r)) : oneD most L bs = match atD L n with | none => none | some f => some (f, r, false, most, L) := by
  subst h
  unfold oneD
  dsimp only
  rw [if_pos h1, hn]
  rfl
theorem oneD_limit {most : Int} {L : List Fd} {bs : List UInt8} {x : UInt8} {t : List UInt8} (h : bs = x :: t) (h1 : x.toNat < 64) (h2 : 32 ≤ x.toNat) {n : Nat} {r : List UInt8} (hn : numP bs 5 = some (n, r)) : oneD most L bs = if 4096 < n then none else some (zeroF, r, true, (n : Int), shr n L) := by
  subst h
  unfold oneD
  dsimp only
  rw [if_neg (by omega), if_neg (by omega), if_pos h2, hn]
  rfl
theorem litD_name_none {L : List Fd} {bs r : List UInt8} {bits : Int} {m : Nat} (h : numP bs bits = some (m, r)) (h2 : nameD L m r = none) : litD L bs bits = none := by unfold litD; rw [h]; simp only; rw [h2]
theorem litD_val_none {L : List Fd} {bs r r1 : List UInt8} {bits : Int} {m : Nat} {f : Fd} (h : numP bs bits = some (m, r)) (h2 : nameD L m r = some (f, r1)) (h3 : textD r1 = none) : litD L bs bits = none := by unfold litD; rw [h]; simp only; rw [h2]; simp only; rw [h3]
theorem litD_some {L : List Fd} {bs r r1 v r2 : List UInt8} {bits : Int} {m : Nat} {f : Fd} (h : numP bs bits = some (m, r)) (h2 : nameD L m r = some (f, r1)) (h3 : textD r1 = some (v, r2)) : litD L bs bits = some (⟨f.n, ⟨v.toArray⟩, f.x⟩, r2) := by unfold litD; rw [h]; simp only; rw [h2]; simp only; rw [h3]
theorem oneD_lit (nv : Bool) {most : Int} {L : List Fd} {bs : List UInt8} {x : UInt8} {t : List UInt8} (h : bs = x :: t) (h1 : x.toNat < 32) (h2 : nv = decide (16 ≤ x.toNat)) : oneD most L bs = match litD L bs 4 with | none => none | some (f, r) => some (⟨f.n, f.v, nv⟩, r, false, most, L) := by
  subst h
  unfold oneD
  dsimp only
  rw [if_neg (by omega), if_neg (by omega), if_neg (by omega), h2]
  rfl
theorem oneD_add {most : Int} {L : List Fd} {bs : List UInt8} {x : UInt8} {t : List UInt8} (h : bs = x :: t) (h1 : x.toNat < 128) (h2 : 64 ≤ x.toNat) : oneD most L bs = match litD L bs 6 with | none => none | some (f, r) => some (f, r, false, most, addL most L f) := by
  subst h
  unfold oneD
  dsimp only
  rw [if_neg (by omega), if_pos h2]
  rfl
theorem RO.keep {w wr : World} {B : Nat} {F0 F : List Nat} {gd gt : Nat} {dead : Bool} {most : Int} {L : List Fd} {K : List Nat} (h : RO w wr B F0 F gd gt dead most L K) {k : Nat} (h1 : k ∉ gd :: F) (h2 : k < wr.heap.size) (h3 : w.heap.size ≤ k) : RO w wr B F0 F gd gt dead most L (k :: K) :=
  ⟨h.dec, fun q hq => by
    rcases List.mem_cons.1 hq with rfl | hq
    · exact ⟨h1, h2, h3⟩
    · exact h.kept q hq, h.tn, h.kf⟩

set_option maxHeartbeats 2000000 in
set_option maxRecDepth 100000 in
theorem rone_limit (B : Nat) (F : List Nat) (gd gt : Nat) (dead : Bool) (most : Int) (L : List Fd) (A : Option Addr) (n c : Nat) (bs : List UInt8) (at_ : Nat) (x : UInt8) (w : World) (h : RDec w B F gd gt dead most L) (hA : Bs w A n bs) (hnc : n ≤ c) (hn : n ≤ 1073741824) (hx : bs[at_]? = some x) (hx1 : x.toNat < 64) (hx2 : 32 ≤ x.toNat) :
    Calls Tryd.prog 29 #[.pointer (some ⟨gd, 0, none⟩), .slice A n c, .int .i64 at_] w (ROnePost bs at_ B F gd gt dead most L w) := by
  have HS := hid (RO.start h)
  have HAA := hid hA
  have HX := hid hx
  have hlen := hA.len
  have hlt : at_ < n := by have := (List.getElem?_eq_some_iff.1 hx).1; omega
  have HDR : Hid (∃ t, bs.drop at_ = x :: t) := hid ⟨_, by rw [List.drop_eq_getElem_cons (List.getElem?_eq_some_iff.1 hx).1, (List.getElem?_eq_some_iff.1 hx).2]⟩
  obtain ⟨b, o, x', rfl, hx', hc⟩ := hA.at_ hlt
  have hxx : x' = x := Option.some.inj (hx'.symm.trans hx)
  rw [hxx] at hc
  have hc1 : w.cell? ⟨b, o + at_, none⟩ = some (.int .u8 (x.toNat : Int)) := hc
  have HL := hid hlen
  obtain ⟨m, k, er, hR⟩ : ∃ m k er, getR (bs.drop at_) 5 = (m, k, er) := ⟨_, _, _, rfl⟩
  have HR := hid hR
  have HG : Hid (∀ w', Below w.heap.size w w' → Calls Tryd.prog 43 #[.slice (offA (some ⟨b, o, none⟩) at_ c 1) (n - at_) (c - at_), .int .i64 5] w' (GetPost (m, k, er) w')) := hid fun w' hb => by
    rw [← HR.out]
    exact rget_all _ _ (c - at_) _ 5 w' ((HAA.out.below hb).off (Nat.le_of_lt hlt) hnc) (by omega)
  have HBYT := hid hc1
  obtain ⟨xn, hxn⟩ : ∃ xn, x.toNat = xn := ⟨_, rfl⟩
  have HXN := hid hxn
  rw [hxn] at HBYT
  have h1i : (xn : Int) < 64 := by omega
  have h2i : (32 : Int) ≤ (xn : Int) := by omega
  clear h hA hx hlen hx' hc hc1 hxx hR hxn
  go_enter Tryd.func29, Tryd.ntmps29
  go_upto_region 2 with fail
  obtain ⟨wa, hwa⟩ : ∃ wa, ((w.alloc (.cells #[.string ⟨#[]⟩, .string ⟨#[]⟩, .bool false] 31)).alloc (.cells #[.string ⟨#[]⟩, .string ⟨#[]⟩, .bool false] 31)) = wa := ⟨_, rfl⟩
  have hs1 : (w.alloc (.cells #[.string ⟨#[]⟩, .string ⟨#[]⟩, .bool false] 31)).heap.size = w.heap.size + 1 := World.size_alloc _ _
  have hX1 : BoxAt wa (w.heap.size + 1) zeroF := by rw [← hwa, ← hs1]; exact Blk.new _ _ _
  have hX0 : BoxAt wa w.heap.size zeroF := by rw [← hwa]; exact Blk.alloc (Blk.new w _ _) _
  have hba : Below w.heap.size w wa := by rw [← hwa]; exact ((Below.refl _ _).alloc (Nat.le_refl _) _).alloc (by rw [hs1]; omega) _
  rw [hwa]
  have hl1 := Blk.lt hX1
  have HO := hid ((HS.out.fresh hba (Nat.le_refl _) (by omega)).keep (k := w.heap.size + 1) (fun hm => by have := (HS.out.dec.ge_ _ hm).2; omega) hl1 (by omega))
  obtain ⟨p0, hp0⟩ : ∃ p, w.heap.size = p := ⟨_, rfl⟩
  obtain ⟨p1, hp1⟩ : ∃ p, w.heap.size + 1 = p := ⟨_, rfl⟩
  have HWP := hid (show w.heap.size = p0 ∧ p1 = p0 + 1 ∧ p1 < wa.heap.size by omega)
  have hne : p0 ≠ p1 := by omega
  have hne' : p1 ≠ p0 := by omega
  rw [hp1, hp0] at HO
  rw [hp1] at hX1
  rw [hp0] at hX0
  rw [hp1, hp0]
  have HX0 := hid hX0
  have HX1 := hid hX1
  have HBA := hid hba
  have HA1 := hid (HAA.out.below hba)
  have c1 := below_keep hba _ _ HBYT.out
  have HOFF := hid (show ∀ ad, some (⟨b, o, none⟩ : Addr) = some ad → ad.block < p0 from fun ad e => by injection e with e; rw [← e, ← HWP.out.1]; have hq := cell_lt HBYT.out; exact hq)
  clear hX0 hX1 hba hwa hs1 hl1 hp0 hp1 HBYT HS
  go_wp2_with fail
  refine (HG.out wa HBA.out).mono ?_
  rintro e w2 ⟨rfl, rfl⟩
  clear c1
  by_cases her : er = 0
  rotate_left
  · have HNN : Hid (numP (bs.drop at_) 5 = none) := hid (by unfold numP; rw [HR.out, if_neg her])
    have HNONE : Hid (oneD most L (bs.drop at_) = none) := hid (by
      obtain ⟨t, ht⟩ := HDR.out
      exact oneD_none ht (fun h => by omega) (fun _ h => by omega) (fun _ _ => HNN.out) (fun h => by omega))
    have her2 : (er != 0) = true := by simpa using her
    obtain ⟨c0, c1, c2⟩ := BoxAt.c HX1.out
    obtain ⟨y0, y1, y2⟩ := BoxAt.c HX0.out
    have yf0 := Blk.frozen HX0.out 0
    have yf1 := Blk.frozen HX0.out 1
    have yf2 := Blk.frozen HX0.out 2
    go_wp2_with fail
    refine rone_end (f := zeroF) rfl rfl rfl rfl HX0.out rfl HO.out (by simp) (fun hO => ?_)
    unfold ROnePost
    rw [HNONE.out]
    exact ⟨_, _, _, _, rfl, hO⟩
  subst her
  have hk := getR_ok (l := bs.drop at_) (bits := 5) (by rw [HR.out])
  rw [HR.out, List.length_drop, HL.out] at hk
  simp only at hk
  obtain ⟨hk1, hk2, hk3⟩ := hk
  obtain ⟨p, hp⟩ : ∃ p : Nat, at_ + k = p := ⟨_, rfl⟩
  have HNP : Hid (numP (bs.drop at_) 5 = some (m, bs.drop p)) := hid (by unfold numP; rw [HR.out, if_pos rfl, List.drop_drop, hp])
  have hpi : (at_ : Int) + (k : Int) = (p : Nat) := by omega
  have hpn : p ≤ n := by omega
  have hap : at_ < p := by omega
  have HPL := hid (show at_ < p ∧ p ≤ bs.length from ⟨hap, by rw [HL.out]; exact hpn⟩)
  clear hp HG HR
  have HGM := hid HO.out.dec.tb.mem_
  have L0 : Hid (∀ w', (BoxAt w' p1 zeroF ∧ w'.cell? ⟨gd, 0, none⟩ = some (.pointer (some ⟨gt, 0, none⟩))) → (Instr.loadAt 39 (.pointer (some ⟨gd, 0, none⟩))).run Tryd.prog w' = .ok (.pointer (some ⟨gt, 0, none⟩)) w') := hid fun w' hw => by
    have z := hw.2
    clear hw
    go_simp
  have L1 : Hid (∀ w', (BoxAt w' p1 zeroF ∧ w'.cell? ⟨gd, 0, none⟩ = some (.pointer (some ⟨gt, 0, none⟩))) → (Instr.loadAt 31 (.pointer (some ⟨p1, 0, none⟩))).run Tryd.prog w' = .ok (.agg #[.string ⟨#[]⟩, .string ⟨#[]⟩, .bool false]) w') := hid fun w' hw => by
    obtain ⟨z0, z1, z2⟩ := BoxAt.c hw.1
    clear hw
    simp only [zeroF] at z0 z1 z2
    go_simp
  have HD := hid (Below.refl wa.heap.size wa).drew
  have HSB := hid (show BoxAt wa.drew p1 zeroF ∧ wa.drew.cell? ⟨gd, 0, none⟩ = some (.pointer (some ⟨gt, 0, none⟩)) from ⟨HX1.out.below HD.out, by have := (HO.out.below HD.out).dec.blk.cell 0; simpa using this⟩)
  by_cases hm : 4096 < m
  · have hmi : (4096 : Int) < m := by omega
    have HNONE : Hid (oneD most L (bs.drop at_) = none) := hid (by
      obtain ⟨t, ht⟩ := HDR.out
      rw [oneD_limit ht hx1 hx2 HNP.out, if_pos hm])
    have HX0D := hid (BoxAt.below HX0.out HD.out)
    obtain ⟨y0, y1, y2⟩ := BoxAt.c HX0.out
    have yf0 := Blk.frozen HX0.out 0
    have yf1 := Blk.frozen HX0.out 1
    have yf2 := Blk.frozen HX0.out 2
    have HOD := hid (HO.out.below HD.out)
    have HSE := hid (show BoxAt (put3 wa.drew p0 zeroF) p1 zeroF ∧ (put3 wa.drew p0 zeroF).cell? ⟨gd, 0, none⟩ = some (.pointer (some ⟨gt, 0, none⟩)) from ⟨Blk.turned HSB.out.1 (put3_box HX0D.out zeroF).2 (by simp; omega), by have := (HOD.out.own (p := p0) (by simp) (put3_box HX0D.out zeroF).2).dec.blk.cell 0; simpa using this⟩)
    go_upto_region 18 with fail
    (refine wp_mixC (fun w' => BoxAt w' p1 zeroF ∧ w'.cell? ⟨gd, 0, none⟩ = some (.pointer (some ⟨gt, 0, none⟩))) ?_ ?_ (HSB.out) ?_; (focus kernel_rfl); (focus kernel_rfl); intro KK hKK; go_wp2_with (first
                                                                                                                  | (first
      | ((with_reducible refine mixS_load L0.out ?_ ?_ ?_); (focus rfl); (focus rfl))
      | ((with_reducible refine mixS_load L1.out ?_ ?_ ?_); (focus rfl); (focus rfl))
      | ((with_reducible refine And.intro ?_ ?_); (focus (exact HSE.out))))
                                                                                                                  | (with_reducible refine mix_nil ?_)
                                                                                                                  | ((with_reducible refine mixS_on ?_ ?_); (focus rfl); intro K K' hK hK'; go_simp; (first | ((with_reducible refine hK _ _ ?_); clear hK hK' K K') | ((with_reducible refine hK' _ _ ?_); clear hK hK' K K') | skip))
                                                                                                                  | ((with_reducible refine mixS_off ?_ ?_); (focus rfl); intro K hK; go_simp; (first | ((with_reducible refine hK _ _ ?_); clear hK K) | skip))
                                                                                                                  | ((with_reducible refine mixS_step ?_); intro K K' hK hK'; go_simp; (first | ((with_reducible refine hK _ _ ?_); clear hK hK' K K') | ((with_reducible refine hK' _ _ ?_); clear hK hK' K K') | skip))))
    go_wp2_with fail
    refine rone_end (f := zeroF) rfl rfl rfl rfl HX0D.out rfl HOD.out (by simp) (fun hO => ?_)
    unfold ROnePost
    rw [HNONE.out]
    exact ⟨_, _, _, _, rfl, hO⟩
  · have hmi : (m : Int) ≤ 4096 := by omega
    have HMI := hid hmi
    have HSOME : Hid (oneD most L (bs.drop at_) = some (zeroF, bs.drop p, true, (m : Int), shr m L)) := hid (by
      obtain ⟨t, ht⟩ := HDR.out
      rw [oneD_limit ht hx1 hx2 HNP.out, if_neg hm])
    have HOD := hid (HO.out.below HD.out)
    have HX0D := hid (BoxAt.below HX0.out HD.out)
    have hLl := HO.out.dec.ok.len
    have hLt : total L ≤ 4096 := by have := HO.out.dec.ok.2.2.1; have := HO.out.dec.ok.2.1; omega
    have HLIM := hid (rlimit_any (m : Int) HOD.out.dec.tb (by omega) (by omega) HOD.out.dec.hB)
    clear hm
    go_upto_region 18 with fail
    (refine wp_mixC (fun w' => BoxAt w' p1 zeroF ∧ w'.cell? ⟨gd, 0, none⟩ = some (.pointer (some ⟨gt, 0, none⟩))) ?_ ?_ (HSB.out) ?_; (focus kernel_rfl); (focus kernel_rfl); intro KK hKK; go_wp2_with (first
                                                                                                                  | (first
      | ((with_reducible refine mixS_load L0.out ?_ ?_ ?_); (focus rfl); (focus rfl))
      | ((with_reducible refine mixS_load L1.out ?_ ?_ ?_); (focus rfl); (focus rfl))
      | (go_at_call 45; go_must (refine HLIM.out.mono ?_; intro e w5 hp; unfold RLim at hp; rw [if_neg (by have := HMI.out; omega)] at hp; obtain ⟨F5, rfl, h5, ht5, hk5⟩ := hp; have HO5 := hid (HOD.out.tab h5 ht5 hk5 (HOD.out.dec.ok.lim (by omega) HMI.out) HGM.out); have HX5 := hid (HOD.out.box (p := p0) (by simp) HX0D.out ht5 HGM.out); have HY5 := hid (HOD.out.box (p := p1) (by simp) HSB.out.1 ht5 HGM.out); obtain ⟨y0, y1, y2⟩ := BoxAt.c HX5.out; have yf0 := Blk.frozen HX5.out 0; have yf1 := Blk.frozen HX5.out 1; have yf2 := Blk.frozen HX5.out 2; have HSC := hid (show BoxAt w5 p1 zeroF ∧ w5.cell? ⟨gd, 0, none⟩ = some (.pointer (some ⟨gt, 0, none⟩)) from ⟨HY5.out, by have := HO5.out.dec.blk.cell 0; simpa using this⟩); have HSE := hid (show BoxAt (put3 w5 p0 zeroF) p1 zeroF ∧ (put3 w5 p0 zeroF).cell? ⟨gd, 0, none⟩ = some (.pointer (some ⟨gt, 0, none⟩)) from ⟨Blk.turned HY5.out (put3_box HX5.out zeroF).2 (by simp; omega), by have := (HO5.out.own (p := p0) (by simp) (put3_box HX5.out zeroF).2).dec.blk.cell 0; simpa using this⟩); clear h5 ht5 hk5))
      | ((with_reducible refine And.intro ?_ ?_); (focus (first | (with_reducible exact HSC.out) | (exact HSE.out)))))
                                                                                                                  | (with_reducible refine mix_nil ?_)
                                                                                                                  | ((with_reducible refine mixS_on ?_ ?_); (focus rfl); intro K K' hK hK'; go_simp; (first | ((with_reducible refine hK _ _ ?_); clear hK hK' K K') | ((with_reducible refine hK' _ _ ?_); clear hK hK' K K') | skip))
                                                                                                                  | ((with_reducible refine mixS_off ?_ ?_); (focus rfl); intro K hK; go_simp; (first | ((with_reducible refine hK _ _ ?_); clear hK K) | skip))
                                                                                                                  | ((with_reducible refine mixS_step ?_); intro K K' hK hK'; go_simp; (first | ((with_reducible refine hK _ _ ?_); clear hK hK' K K') | ((with_reducible refine hK' _ _ ?_); clear hK hK' K K') | skip))))
    go_wp2_with fail
    refine rone_end (f := zeroF) rfl rfl rfl rfl HX5.out rfl HO5.out (by simp) (fun hO => ?_)
    unfold ROnePost
    rw [HSOME.out]
    exact ⟨p, _, HPL.out.1, HPL.out.2, rfl, rfl, hO⟩

set_option maxHeartbeats 2000000 in
set_option maxRecDepth 100000 in
theorem rone_known (B : Nat) (F : List Nat) (gd gt : Nat) (dead : Bool) (most : Int) (L : List Fd) (A : Option Addr) (n c : Nat) (bs : List UInt8) (at_ : Nat) (x : UInt8) (w : World) (h : RDec w B F gd gt dead most L) (hA : Bs w A n bs) (hnc : n ≤ c) (hn : n ≤ 1073741824) (hx : bs[at_]? = some x) (hx1 : 128 ≤ x.toNat) :
    Calls Tryd.prog 29 #[.pointer (some ⟨gd, 0, none⟩), .slice A n c, .int .i64 at_] w (ROnePost bs at_ B F gd gt dead most L w) := by
  have HS := hid (RO.start h)
  have HAA := hid hA
  have HX := hid hx
  have hlen := hA.len
  have hlt : at_ < n := by have := (List.getElem?_eq_some_iff.1 hx).1; omega
  have HDR : Hid (∃ t, bs.drop at_ = x :: t) := hid ⟨_, by rw [List.drop_eq_getElem_cons (List.getElem?_eq_some_iff.1 hx).1, (List.getElem?_eq_some_iff.1 hx).2]⟩
  obtain ⟨b, o, x', rfl, hx', hc⟩ := hA.at_ hlt
  have hxx : x' = x := Option.some.inj (hx'.symm.trans hx)
  rw [hxx] at hc
  have hc1 : w.cell? ⟨b, o + at_, none⟩ = some (.int .u8 (x.toNat : Int)) := hc
  have HL := hid hlen
  obtain ⟨m, k, er, hR⟩ : ∃ m k er, getR (bs.drop at_) 7 = (m, k, er) := ⟨_, _, _, rfl⟩
  have HR := hid hR
  have HG : Hid (∀ w', Below w.heap.size w w' → Calls Tryd.prog 43 #[.slice (offA (some ⟨b, o, none⟩) at_ c 1) (n - at_) (c - at_), .int .i64 7] w' (GetPost (m, k, er) w')) := hid fun w' hb => by
    rw [← HR.out]
    exact rget_all _ _ (c - at_) _ 7 w' ((HAA.out.below hb).off (Nat.le_of_lt hlt) hnc) (by omega)
  have HBYT := hid hc1
  obtain ⟨xn, hxn⟩ : ∃ xn, x.toNat = xn := ⟨_, rfl⟩
  have HXN := hid hxn
  rw [hxn] at HBYT
  have h1i : (128 : Int) ≤ (xn : Int) := by omega
  clear h hA hx hlen hx' hc hc1 hxx hR hxn
  go_enter Tryd.func29, Tryd.ntmps29
  go_upto_region 2 with fail
  obtain ⟨wa, hwa⟩ : ∃ wa, ((w.alloc (.cells #[.string ⟨#[]⟩, .string ⟨#[]⟩, .bool false] 31)).alloc (.cells #[.string ⟨#[]⟩, .string ⟨#[]⟩, .bool false] 31)) = wa := ⟨_, rfl⟩
  have hs1 : (w.alloc (.cells #[.string ⟨#[]⟩, .string ⟨#[]⟩, .bool false] 31)).heap.size = w.heap.size + 1 := World.size_alloc _ _
  have hX1 : BoxAt wa (w.heap.size + 1) zeroF := by rw [← hwa, ← hs1]; exact Blk.new _ _ _
  have hX0 : BoxAt wa w.heap.size zeroF := by rw [← hwa]; exact Blk.alloc (Blk.new w _ _) _
  have hba : Below w.heap.size w wa := by rw [← hwa]; exact ((Below.refl _ _).alloc (Nat.le_refl _) _).alloc (by rw [hs1]; omega) _
  rw [hwa]
  have hl1 := Blk.lt hX1
  have HO := hid ((HS.out.fresh hba (Nat.le_refl _) (by omega)).keep (k := w.heap.size + 1) (fun hm => by have := (HS.out.dec.ge_ _ hm).2; omega) hl1 (by omega))
  obtain ⟨p0, hp0⟩ : ∃ p, w.heap.size = p := ⟨_, rfl⟩
  obtain ⟨p1, hp1⟩ : ∃ p, w.heap.size + 1 = p := ⟨_, rfl⟩
  have HWP := hid (show w.heap.size = p0 ∧ p1 = p0 + 1 ∧ p1 < wa.heap.size by omega)
  have hne : p0 ≠ p1 := by omega
  have hne' : p1 ≠ p0 := by omega
  rw [hp1, hp0] at HO
  rw [hp1] at hX1
  rw [hp0] at hX0
  rw [hp1, hp0]
  have HX0 := hid hX0
  have HX1 := hid hX1
  have HBA := hid hba
  have HA1 := hid (HAA.out.below hba)
  have c1 := below_keep hba _ _ HBYT.out
  have HOFF := hid (show ∀ ad, some (⟨b, o, none⟩ : Addr) = some ad → ad.block < p0 from fun ad e => by injection e with e; rw [← e, ← HWP.out.1]; have hq := cell_lt HBYT.out; exact hq)
  clear hX0 hX1 hba hwa hs1 hl1 hp0 hp1 HBYT HS
  go_wp2_with fail
  refine (HG.out wa HBA.out).mono ?_
  rintro e w2 ⟨rfl, rfl⟩
  clear c1
  by_cases her : er = 0
  rotate_left
  · have HNN : Hid (numP (bs.drop at_) 7 = none) := hid (by unfold numP; rw [HR.out, if_neg her])
    have HNONE : Hid (oneD most L (bs.drop at_) = none) := hid (by
      obtain ⟨t, ht⟩ := HDR.out
      exact oneD_none ht (fun _ => HNN.out) (fun h => by omega) (fun h => by omega) (fun h => by omega))
    have her2 : (er != 0) = true := by simpa using her
    obtain ⟨c0, c1, c2⟩ := BoxAt.c HX1.out
    obtain ⟨y0, y1, y2⟩ := BoxAt.c HX0.out
    have yf0 := Blk.frozen HX0.out 0
    have yf1 := Blk.frozen HX0.out 1
    have yf2 := Blk.frozen HX0.out 2
    go_wp2_with fail
    refine rone_end (f := zeroF) rfl rfl rfl rfl HX0.out rfl HO.out (by simp) (fun hO => ?_)
    unfold ROnePost
    rw [HNONE.out]
    exact ⟨_, _, _, _, rfl, hO⟩
  subst her
  have hk := getR_ok (l := bs.drop at_) (bits := 7) (by rw [HR.out])
  rw [HR.out, List.length_drop, HL.out] at hk
  simp only at hk
  obtain ⟨hk1, hk2, hk3⟩ := hk
  obtain ⟨p, hp⟩ : ∃ p : Nat, at_ + k = p := ⟨_, rfl⟩
  have HNP : Hid (numP (bs.drop at_) 7 = some (m, bs.drop p)) := hid (by unfold numP; rw [HR.out, if_pos rfl, List.drop_drop, hp])
  have hpi : (at_ : Int) + (k : Int) = (p : Nat) := by omega
  have hpn : p ≤ n := by omega
  have hap : at_ < p := by omega
  have HPL := hid (show at_ < p ∧ p ≤ bs.length from ⟨hap, by rw [HL.out]; exact hpn⟩)
  clear hp HG HR
  have HOK := hid HO.out.dec.ok
  go_wp2_with fail
  refine (rfield_any m HO.out.dec hk3).mono ?_
  rintro e w3 ⟨f, rfl, hf, hb3⟩
  go_upto_region 16 with fail
  obtain ⟨w4, hw4⟩ : ∃ w4, w3.alloc (.cells #[.string f.n, .string f.v, .bool f.x] 31) = w4 := ⟨_, rfl⟩
  have hX4 : BoxAt w4 w3.heap.size f := by rw [← hw4]; exact Blk.new w3 _ _
  have hb4 : Below w3.heap.size w3 w4 := by rw [← hw4]; exact (Below.refl _ _).alloc (Nat.le_refl _) _
  rw [hw4]
  have hb5 := hb3.trans (hb4.mono hb3.size)
  obtain ⟨z0, z1, z2⟩ := BoxAt.c hX4
  have HX0D := hid (BoxAt.below HX0.out hb5)
  have HOD := hid (HO.out.below hb5)
  obtain ⟨y0, y1, y2⟩ := BoxAt.c HX0D.out
  have yf0 := Blk.frozen HX0D.out 0
  have yf1 := Blk.frozen HX0D.out 1
  have yf2 := Blk.frozen HX0D.out 2
  have hne3 : w3.heap.size ≠ p0 := by have := HWP.out; have := hb3.size; omega
  have hne4 : p0 ≠ w3.heap.size := fun e => hne3 e.symm
  clear hX4 hb3 hb4 hb5 hw4
  generalize w3.heap.size = p3 at z0 z1 z2 hne3 hne4 ⊢
  rcases hat : atD L m with _ | f1
  · have HNONE : Hid (oneD most L (bs.drop at_) = none) := hid (by
      obtain ⟨t, ht⟩ := HDR.out
      rw [oneD_known ht hx1 HNP.out, hat])
    rw [Option.isSome_none]
    clear hat
    go_wp2_with fail
    refine rone_end (f := f) rfl rfl rfl rfl HX0D.out rfl HOD.out (by simp) (fun hO => ?_)
    unfold ROnePost
    rw [HNONE.out]
    exact ⟨_, _, _, _, rfl, hO⟩
  · obtain rfl := hf f1 hat
    have HSOME : Hid (oneD most L (bs.drop at_) = some (f, bs.drop p, false, most, L)) := hid (by
      obtain ⟨t, ht⟩ := HDR.out
      rw [oneD_known ht hx1 HNP.out, hat])
    rw [Option.isSome_some]
    clear hat hf
    go_wp2_with fail
    refine rone_end (f := f) rfl rfl rfl rfl HX0D.out rfl HOD.out (by simp) (fun hO => ?_)
    unfold ROnePost
    rw [HSOME.out]
    exact ⟨p, _, HPL.out.1, HPL.out.2, rfl, rfl, hO⟩
end Go.Proofs.YtdiejemhhcaicaaDoor
