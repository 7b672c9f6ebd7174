/- Two boxes that a drawn region makes at any time, beside a call of Read: the invariant. No condition. -/
import Derived.Test.YtdiahjeplaegnaaPartFirst
import Derived.Test.YtdiahjeplaegnaaAnyOrd
namespace Go.Proofs.Ytdiahjeplaegnaa
open Go.RowKit

def zl (n : Nat) : List UInt8 := List.replicate n 0
def zeroPart : Array Value := #[.slice none 0 0, .int .i64 0, .int .i64 0, .int .i64 0, .int .i64 0, .slice none 0 0, .bool false, .bool false, .bool false]
def zeroFault : Array Value := #[.bool false, .bool false, .int .i64 0]
def IsPart (v : Value) : Prop := ∃ (Ad : Option Addr) (nd cd : Nat) (pad code last step : Int) (As : Option Addr) (ns cs : Nat) (ee aa ww : Bool), v = .agg #[.slice Ad nd cd, .int .i64 pad, .int .i64 code, .int .i64 last, .int .i64 step, .slice As ns cs, .bool ee, .bool aa, .bool ww]
/-- What Read hands back, as far as the fault goes. -/
def FaultIs (b c : Bool) (k : Int) (w : World) (e : Ending) (w' : World) : Prop :=
  ∃ u, IsPart u ∧ e = .returned (.tuple #[u, .agg #[.bool b, .bool c, .int .i64 k]]) ∧ Below w.heap.size w w'
theorem FaultIs.of {P : PR} {w w' : World} {e : Ending} (h : PartPost P w e w') : FaultIs P.bad P.conn P.fc w e w' := by
  obtain ⟨Ad, nd, cd, As, ns, cs, he, _, _, _, _, hb⟩ := h
  exact ⟨_, ⟨Ad, nd, cd, _, _, _, _, As, ns, cs, _, _, _, rfl⟩, he, hb⟩

/-- An operation that yields a value. -/
theorem wp_val {P : Program} {o : Oper} {a : Act} {w w' : World} {K : Act → World → Prop} {v : Value} (h : (execOp a.eval o).run P w = .ok (.value v) w') (hk : K (a.put o.dst v) w') : o.wp P a w K noQ := by
  unfold Oper.wp
  rw [h]
  exact hk
theorem wp_call {P : Program} {o : Oper} {a : Act} {w : World} {K : Act → World → Prop} {f : FuncId} {args : Array Value} {b c : Bool} {k : Int} (h : (execOp a.eval o).run P w = .ok (.enter f args) w) (hc : Calls P f args w (FaultIs b c k w))
    (hk : ∀ u w', IsPart u → Below w.heap.size w w' → K (a.put o.dst (.tuple #[u, .agg #[.bool b, .bool c, .int .i64 k]])) w') : o.wp P a w K noQ := by
  unfold Oper.wp
  rw [h]
  refine Calls.mono hc ?_
  rintro e w' ⟨u, hu, rfl, hb⟩
  exact hk u w' hu hb

/-- What the operations ahead of the call yield stays so. -/
structure GpOk (G : (Nat → Bool) → World → Nat → Value → Prop) (ic : Nat) : Prop where
  keep : ∀ d w w' i j v, j < ic → Below w.heap.size w w' → G d w j v → G (setB d i) w' j v
  late : ∀ d w w' i j v, j < ic → d ic = true → G d w j v → G (setB d i) w' j v
def BoxUp (w : World) (T : TypeId) (cs : Array Value) (base : Nat) (done : Prop) (v : Value) : Prop := ∃ p, v = .pointer (some ⟨p, 0, none⟩) ∧ base ≤ p ∧ p < w.heap.size ∧ (done ∨ Blk w p T cs)
theorem BoxUp.below {w w' : World} {T : TypeId} {cs : Array Value} {base : Nat} {D D' : Prop} {v : Value} (h : BoxUp w T cs base D v) (hs : w.heap.size ≤ w'.heap.size) (hk : ∀ g, Blk w g T cs → Blk w' g T cs) (hD : D → D') : BoxUp w' T cs base D' v := by
  obtain ⟨p, e, h1, h2, h3⟩ := h
  exact ⟨p, e, h1, Nat.lt_of_lt_of_le h2 hs, h3.imp hD (hk p)⟩
theorem BoxUp.lt {w : World} {T : TypeId} {cs : Array Value} {base : Nat} {D : Prop} {v : Value} (h : BoxUp w T cs base D v) {q : Nat} (e : v = .pointer (some ⟨q, 0, none⟩)) : q < w.heap.size := by
  obtain ⟨p, e', _, h2, _⟩ := h
  rw [e'] at e
  injection e with e
  injection e with e
  injection e with e
  rw [← e]
  exact h2
structure JC (wr : World) (G : (Nat → Bool) → World → Nat → Value → Prop) (ic : Nat) (b c : Bool) (k : Int) (d : Nat → Bool) (x : Nat → Value) (w : World) : Prop where
  below : Below wr.heap.size wr w
  pre : ∀ j, j < ic → d j = true → G d w j (x j)
  cb : d ic = true → d (ic - 1) = true
  c0 : d ic = true → ∃ u, IsPart u ∧ x ic = .tuple #[u, .agg #[.bool b, .bool c, .int .i64 k]]
  c1 : d (ic + 1) = true → d ic = true ∧ ∃ u, IsPart u ∧ x (ic + 1) = .tuple #[u, .agg #[.bool b, .bool c, .int .i64 k]]
  c2 : d (ic + 2) = true → d ic = true ∧ IsPart (x (ic + 2))
  c3 : d (ic + 3) = true → d ic = true ∧ x (ic + 3) = .agg #[.bool b, .bool c, .int .i64 k]
  bA : d (ic + 4) = true → BoxUp w 28 zeroPart wr.heap.size (d (ic + 6) = true) (x (ic + 4))
  bB : d (ic + 5) = true → BoxUp w 30 zeroFault wr.heap.size (d (ic + 7) = true) (x (ic + 5))
  apart : d (ic + 4) = true → d (ic + 5) = true → x (ic + 4) ≠ x (ic + 5)
  fin : d (ic + 7) = true → d (ic + 5) = true ∧ BoxUp w 30 #[.bool b, .bool c, .int .i64 k] wr.heap.size False (x (ic + 5))
section
variable {wr w w' : World} {G : (Nat → Bool) → World → Nat → Value → Prop} {ic : Nat} {b c : Bool} {k : Int} {d : Nat → Bool} {x : Nat → Value}
theorem JC.start (hw : Below wr.heap.size wr w) : JC wr G ic b c k (fun _ => false) x w :=
  ⟨hw, (fun _ _ h => by cases h), (fun h => by cases h), (fun h => by cases h), (fun h => by cases h), (fun h => by cases h), (fun h => by cases h), (fun h => by cases h), (fun h => by cases h), (fun h => by cases h), (fun h => by cases h)⟩
theorem old_d {d : Nat → Bool} {i j : Nat} (hne : j ≠ i) (h : setB d i j = true) : d j = true := by rwa [setB_ne hne] at h
/-- An operation ahead of the call. -/
theorem JC.step (h : JC wr G ic b c k d x w) {i : Nat} (hi : i < ic) (hb : Below wr.heap.size wr w') (hsz : w.heap.size ≤ w'.heap.size) (hkP : ∀ g, Blk w g 28 zeroPart → Blk w' g 28 zeroPart) (hkF : ∀ g cs, Blk w g 30 cs → Blk w' g 30 cs)
    (hm : ∀ j, j < ic → j ≠ i → d j = true → G d w j (x j) → G (setB d i) w' j (x j)) {v : Value} (hv : G (setB d i) w' i v) : JC wr G ic b c k (setB d i) (setV x i v) w' := by
  have ne : ∀ q, ic + q ≠ i := fun q => by omega
  have ne0 : ic ≠ i := by omega
  refine ⟨hb, fun j hj hd => ?_, fun hd => setB_of (h.cb (old_d ne0 hd)), fun hd => ?_, fun hd => ?_, fun hd => ?_, fun hd => ?_, fun hd => ?_, fun hd => ?_, fun h1 h2 => ?_, fun hd => ?_⟩
  · by_cases e : j = i
    · subst e
      rw [setV_self]
      exact hv
    · rw [setV_ne e]
      exact hm j hj e (old_d e hd) (h.pre j hj (old_d e hd))
  · rw [setV_ne ne0]
    exact h.c0 (old_d ne0 hd)
  · rw [setV_ne (ne 1), setB_ne ne0]
    exact h.c1 (old_d (ne 1) hd)
  · rw [setV_ne (ne 2), setB_ne ne0]
    exact h.c2 (old_d (ne 2) hd)
  · rw [setV_ne (ne 3), setB_ne ne0]
    exact h.c3 (old_d (ne 3) hd)
  · rw [setV_ne (ne 4)]
    exact (h.bA (old_d (ne 4) hd)).below hsz hkP setB_of
  · rw [setV_ne (ne 5)]
    exact (h.bB (old_d (ne 5) hd)).below hsz (fun g => hkF g _) setB_of
  · rw [setV_ne (ne 4), setV_ne (ne 5)]
    exact h.apart (old_d (ne 4) h1) (old_d (ne 5) h2)
  · rw [setV_ne (ne 5), setB_ne (ne 5)]
    have h1 := h.fin (old_d (ne 7) hd)
    exact ⟨h1.1, h1.2.below hsz (fun g => hkF g _) id⟩
theorem JC.quiet (h : JC wr G ic b c k d x w) (hG : GpOk G ic) {i : Nat} (hi : i < ic) (hb : Below w.heap.size w w') {v : Value} (hv : G (setB d i) w' i v) : JC wr G ic b c k (setB d i) (setV x i v) w' :=
  h.step hi (h.below.trans (hb.mono h.below.size)) hb.size (fun _ hg => hg.below hb hg.lt) (fun _ _ hg => hg.below hb hg.lt) (fun j hj _ _ hg => hG.keep d w w' i j _ hj hb hg) hv
theorem JC.call (h : JC wr G ic b c k d x w) (hG : GpOk G ic) (hb : Below w.heap.size w w') (hd0 : d (ic - 1) = true) {u : Value} (hu : IsPart u) : JC wr G ic b c k (setB d ic) (setV x ic (.tuple #[u, .agg #[.bool b, .bool c, .int .i64 k]])) w' := by
  have ne : ∀ q, ic + (q + 1) ≠ ic := fun q => by omega
  have hb2 := h.below.trans (hb.mono h.below.size)
  refine ⟨hb2, fun j hj hd => ?_, fun _ => setB_of hd0, fun _ => ?_, fun hd => ?_, fun hd => ?_, fun hd => ?_, fun hd => ?_, fun hd => ?_, fun h1 h2 => ?_, fun hd => ?_⟩
  · have e : j ≠ ic := by omega
    rw [setV_ne e]
    exact hG.keep d w w' ic j _ hj hb (h.pre j hj (old_d e hd))
  · rw [setV_self]
    exact ⟨u, hu, rfl⟩
  · rw [setV_ne (ne 0), setB_self]
    exact ⟨rfl, (h.c1 (old_d (ne 0) hd)).2⟩
  · rw [setV_ne (ne 1), setB_self]
    exact ⟨rfl, (h.c2 (old_d (ne 1) hd)).2⟩
  · rw [setV_ne (ne 2), setB_self]
    exact ⟨rfl, (h.c3 (old_d (ne 2) hd)).2⟩
  · rw [setV_ne (ne 3)]
    exact (h.bA (old_d (ne 3) hd)).below hb.size (fun _ hg => hg.below hb hg.lt) setB_of
  · rw [setV_ne (ne 4)]
    exact (h.bB (old_d (ne 4) hd)).below hb.size (fun _ hg => hg.below hb hg.lt) setB_of
  · rw [setV_ne (ne 3), setV_ne (ne 4)]
    exact h.apart (old_d (ne 3) h1) (old_d (ne 4) h2)
  · rw [setV_ne (ne 4), setB_ne (ne 4)]
    have h1 := h.fin (old_d (ne 6) hd)
    exact ⟨h1.1, h1.2.below hb.size (fun _ hg => hg.below hb hg.lt) id⟩
/-- An operation behind the call, or a box. -/
theorem JC.at_ (h : JC wr G ic b c k d x w) (hG : GpOk G ic) {i q : Nat} (hi : i = ic + q) (hq1 : 1 ≤ q) (hdi : d i = false) {v : Value} (hb : Below wr.heap.size wr w')
    (hpre : Below w.heap.size w w' ∨ d ic = true)
    (h1 : q = 1 → d ic = true ∧ ∃ u, IsPart u ∧ v = .tuple #[u, .agg #[.bool b, .bool c, .int .i64 k]]) (h2 : q = 2 → d ic = true ∧ IsPart v) (h3 : q = 3 → d ic = true ∧ v = .agg #[.bool b, .bool c, .int .i64 k])
    (hA : q = 4 → BoxUp w' 28 zeroPart wr.heap.size False v) (hA' : q ≠ 4 → d (ic + 4) = true → BoxUp w' 28 zeroPart wr.heap.size (setB d i (ic + 6) = true) (x (ic + 4)))
    (hB : q = 5 → BoxUp w' 30 zeroFault wr.heap.size False v) (hB' : q ≠ 5 → d (ic + 5) = true → BoxUp w' 30 zeroFault wr.heap.size (setB d i (ic + 7) = true) (x (ic + 5)))
    (hap : q = 4 → d (ic + 5) = true → v ≠ x (ic + 5)) (hap' : q = 5 → d (ic + 4) = true → x (ic + 4) ≠ v)
    (hfin : q = 7 → d (ic + 5) = true ∧ BoxUp w' 30 #[.bool b, .bool c, .int .i64 k] wr.heap.size False (x (ic + 5)))
    (hfin' : q ≠ 7 → d (ic + 7) = true → BoxUp w 30 #[.bool b, .bool c, .int .i64 k] wr.heap.size False (x (ic + 5)) → BoxUp w' 30 #[.bool b, .bool c, .int .i64 k] wr.heap.size False (x (ic + 5))) :
    JC wr G ic b c k (setB d i) (setV x i v) w' := by
  subst hi
  have nej : ∀ j, j < ic → j ≠ ic + q := fun j hj => by omega
  have ne0 : ic ≠ ic + q := by omega
  have ne : ∀ r, r ≠ q → ic + r ≠ ic + q := fun r hr => by omega
  refine ⟨hb, fun j hj hd => ?_, fun hd => setB_of (h.cb (old_d ne0 hd)), fun hd => ?_, fun hd => ?_, fun hd => ?_, fun hd => ?_, fun hd => ?_, fun hd => ?_, fun ha hb' => ?_, fun hd => ?_⟩
  · rw [setV_ne (nej j hj)]
    have hg := h.pre j hj (old_d (nej j hj) hd)
    rcases hpre with hp | hp
    · exact hG.keep d w w' _ j _ hj hp hg
    · exact hG.late d w w' _ j _ hj hp hg
  · rw [setV_ne ne0]
    exact h.c0 (old_d ne0 hd)
  · by_cases e : 1 = q
    · subst e
      rw [setV_self, setB_ne ne0]
      exact h1 rfl
    · rw [setV_ne (ne 1 e), setB_ne ne0]
      exact h.c1 (old_d (ne 1 e) hd)
  · by_cases e : 2 = q
    · subst e
      rw [setV_self, setB_ne ne0]
      exact h2 rfl
    · rw [setV_ne (ne 2 e), setB_ne ne0]
      exact h.c2 (old_d (ne 2 e) hd)
  · by_cases e : 3 = q
    · subst e
      rw [setV_self, setB_ne ne0]
      exact h3 rfl
    · rw [setV_ne (ne 3 e), setB_ne ne0]
      exact h.c3 (old_d (ne 3 e) hd)
  · by_cases e : 4 = q
    · subst e
      rw [setV_self]
      exact (hA rfl).below (Nat.le_refl _) (fun _ hg => hg) False.elim
    · rw [setV_ne (ne 4 e)]
      exact hA' (fun h => e h.symm) (old_d (ne 4 e) hd)
  · by_cases e : 5 = q
    · subst e
      rw [setV_self]
      exact (hB rfl).below (Nat.le_refl _) (fun _ hg => hg) False.elim
    · rw [setV_ne (ne 5 e)]
      exact hB' (fun h => e h.symm) (old_d (ne 5 e) hd)
  · by_cases e : 4 = q
    · subst e
      rw [setV_self, setV_ne (ne 5 (by omega))]
      exact hap rfl (old_d (ne 5 (by omega)) hb')
    · by_cases e5 : 5 = q
      · subst e5
        rw [setV_self, setV_ne (ne 4 (by omega))]
        exact hap' rfl (old_d (ne 4 (by omega)) ha)
      · rw [setV_ne (ne 4 e), setV_ne (ne 5 e5)]
        exact h.apart (old_d (ne 4 e) ha) (old_d (ne 5 e5) hb')
  · by_cases e : 7 = q
    · subst e
      rw [setV_ne (ne 5 (by omega)), setB_ne (ne 5 (by omega))]
      exact hfin rfl
    · have hf := h.fin (old_d (ne 7 e) hd)
      by_cases e5 : 5 = q
      · subst e5
        rw [hf.1] at hdi
        cases hdi
      · rw [setV_ne (ne 5 e5), setB_ne (ne 5 e5)]
        exact ⟨hf.1, hfin' (fun h => e h.symm) (old_d (ne 7 e) hd) hf.2⟩
/-- Behind the call, nothing turned. -/
theorem JC.plain (h : JC wr G ic b c k d x w) (hG : GpOk G ic) {i q : Nat} (hi : i = ic + q) (hq1 : 1 ≤ q) (hq3 : q ≤ 3) (hdi : d i = false) {v : Value} (h1 : q = 1 → d ic = true ∧ ∃ u, IsPart u ∧ v = .tuple #[u, .agg #[.bool b, .bool c, .int .i64 k]]) (h2 : q = 2 → d ic = true ∧ IsPart v) (h3 : q = 3 → d ic = true ∧ v = .agg #[.bool b, .bool c, .int .i64 k]) :
    JC wr G ic b c k (setB d i) (setV x i v) w :=
  h.at_ hG hi hq1 hdi h.below (.inl (Below.refl _ _)) h1 h2 h3 (fun e => by omega) (fun _ hd => (h.bA hd).below (Nat.le_refl _) (fun _ hg => hg) setB_of) (fun e => by omega) (fun _ hd => (h.bB hd).below (Nat.le_refl _) (fun _ hg => hg) setB_of) (fun e => by omega) (fun e => by omega) (fun e => by omega) (fun _ _ hf => hf)
theorem JC.allA (h : JC wr G ic b c k d x w) (hG : GpOk G ic) (hdi : d (ic + 4) = false) :
    JC wr G ic b c k (setB d (ic + 4)) (setV x (ic + 4) (.pointer (some ⟨w.heap.size, 0, none⟩))) (w.alloc (.cells zeroPart 28)) := by
  have hb : Below w.heap.size w (w.alloc (.cells zeroPart 28)) := (Below.refl _ _).alloc (Nat.le_refl _) _
  have hs := h.below.size
  refine h.at_ hG rfl (by omega) hdi (h.below.trans (hb.mono hs)) (.inl hb) (fun e => by omega) (fun e => by omega) (fun e => by omega) (fun _ => ⟨w.heap.size, rfl, hs, (Blk.new w _ _).lt, .inr (Blk.new w _ _)⟩) (fun e => absurd rfl e) (fun e => by omega) (fun _ hd => (h.bB hd).below hb.size (fun _ hg => hg.below hb hg.lt) setB_of) (fun _ hd e => ?_) (fun e => by omega) (fun e => by omega) (fun _ _ hf => hf.below hb.size (fun _ hg => hg.below hb hg.lt) id)
  have := (h.bB hd).lt e.symm
  omega
theorem JC.allB (h : JC wr G ic b c k d x w) (hG : GpOk G ic) (hdi : d (ic + 5) = false) :
    JC wr G ic b c k (setB d (ic + 5)) (setV x (ic + 5) (.pointer (some ⟨w.heap.size, 0, none⟩))) (w.alloc (.cells zeroFault 30)) := by
  have hb : Below w.heap.size w (w.alloc (.cells zeroFault 30)) := (Below.refl _ _).alloc (Nat.le_refl _) _
  have hs := h.below.size
  refine h.at_ hG rfl (by omega) hdi (h.below.trans (hb.mono hs)) (.inl hb) (fun e => by omega) (fun e => by omega) (fun e => by omega) (fun e => by omega) (fun _ hd => (h.bA hd).below hb.size (fun _ hg => hg.below hb hg.lt) setB_of) (fun _ => ⟨w.heap.size, rfl, hs, (Blk.new w _ _).lt, .inr (Blk.new w _ _)⟩) (fun e => absurd rfl e) (fun e => by omega) (fun _ hd e => ?_) (fun e => by omega) (fun _ _ hf => hf.below hb.size (fun _ hg => hg.below hb hg.lt) id)
  have := (h.bA hd).lt e
  omega
/-- What the part's box is turned to. -/
theorem JC.stA (h : JC wr G ic b c k d x w) (hG : GpOk G ic) (hdi : d (ic + 6) = false) (h4 : d (ic + 4) = true) (h0 : d ic = true) {p : Nat} (hp : x (ic + 4) = .pointer (some ⟨p, 0, none⟩)) {w' : World} (ht : Turned [p] w w') {v : Value} :
    JC wr G ic b c k (setB d (ic + 6)) (setV x (ic + 6) v) w' := by
  have hs := h.below.size
  have hpb : wr.heap.size ≤ p := by
    obtain ⟨p', e, h1, _⟩ := h.bA h4
    rw [e] at hp
    injection hp with hp
    injection hp with hp
    injection hp with hp
    rw [← hp]
    exact h1
  have hq : ∀ q, x (ic + 5) = .pointer (some ⟨q, 0, none⟩) → d (ic + 5) = true → q ∉ [p] := fun q e hd hm => by
    have := List.mem_singleton.1 hm
    subst this
    exact h.apart h4 hd (hp.trans e.symm)
  have hbox : ∀ (cs : Array Value) (D D' : Prop), (D → D') → d (ic + 5) = true → BoxUp w 30 cs wr.heap.size D (x (ic + 5)) → BoxUp w' 30 cs wr.heap.size D' (x (ic + 5)) := fun cs D D' hD hd hB => by
    obtain ⟨q, e, h1, h2, h3⟩ := hB
    exact ⟨q, e, h1, Nat.lt_of_lt_of_le h2 ht.size, h3.imp hD (fun hg => hg.turned ht (hq q e hd))⟩
  refine h.at_ hG rfl (by omega) hdi (h.below.trans (ht.below (fun b hb => by have := List.mem_singleton.1 hb; omega) hs)) (.inr h0) (fun e => by omega) (fun e => by omega) (fun e => by omega) (fun e => by omega) (fun _ hd => ?_) (fun e => by omega) (fun _ hd => hbox _ _ _ setB_of hd (h.bB hd)) (fun e => by omega) (fun e => by omega) (fun e => by omega) (fun _ hd hf => hbox _ _ _ id (h.fin hd).1 hf)
  obtain ⟨p', e, h1, h2, _⟩ := h.bA hd
  exact ⟨p', e, h1, Nat.lt_of_lt_of_le h2 ht.size, .inl (setB_self _ _)⟩
theorem JC.stB (h : JC wr G ic b c k d x w) (hG : GpOk G ic) (hdi : d (ic + 7) = false) (h5 : d (ic + 5) = true) (h0 : d ic = true) {p : Nat} (hp : x (ic + 5) = .pointer (some ⟨p, 0, none⟩)) {w' : World} (ht : Turned [p] w w') (hB : Blk w' p 30 #[.bool b, .bool c, .int .i64 k]) {v : Value} :
    JC wr G ic b c k (setB d (ic + 7)) (setV x (ic + 7) v) w' := by
  have hs := h.below.size
  have hpb : wr.heap.size ≤ p ∧ p < w.heap.size := by
    obtain ⟨p', e, h1, h2, _⟩ := h.bB h5
    rw [e] at hp
    injection hp with hp
    injection hp with hp
    injection hp with hp
    rw [← hp]
    exact ⟨h1, h2⟩
  refine h.at_ hG rfl (by omega) hdi (h.below.trans (ht.below (fun b hb => by have := List.mem_singleton.1 hb; omega) hs)) (.inr h0) (fun e => by omega) (fun e => by omega) (fun e => by omega) (fun e => by omega) (fun _ hd => ?_) (fun e => by omega) (fun _ _ => ⟨p, hp, hpb.1, Nat.lt_of_lt_of_le hpb.2 ht.size, .inl (setB_self _ _)⟩) (fun e => by omega) (fun e => by omega) (fun _ => ⟨h5, p, hp, hpb.1, Nat.lt_of_lt_of_le hpb.2 ht.size, .inr hB⟩) (fun e => absurd rfl e)
  obtain ⟨q, e, h1, h2, h3⟩ := h.bA hd
  refine ⟨q, e, h1, Nat.lt_of_lt_of_le h2 ht.size, h3.imp setB_of (fun hg => hg.turned ht (fun hm => ?_))⟩
  have := List.mem_singleton.1 hm
  subst this
  exact h.apart hd h5 (e.trans hp.symm)
end
end Go.Proofs.Ytdiahjeplaegnaa
