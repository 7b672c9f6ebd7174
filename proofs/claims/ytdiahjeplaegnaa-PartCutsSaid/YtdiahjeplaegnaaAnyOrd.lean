/- A drawn region walked once by an invariant over what is done, whatever the order. No condition but the region's own form, which the kernel checks. -/
import Derived.Test.YtdiahjeplaegnaaMix
namespace Go.Proofs.Ytdiahjeplaegnaa

def setB (d : Nat → Bool) (i : Nat) : Nat → Bool := fun j => if j = i then true else d j
def setV (x : Nat → Value) (i : Nat) (v : Value) : Nat → Value := fun j => if j = i then v else x j
theorem setB_self (d : Nat → Bool) (i : Nat) : setB d i i = true := by simp [setB]
theorem setB_ne {d : Nat → Bool} {i j : Nat} (h : j ≠ i) : setB d i j = d j := by simp [setB, h]
theorem setB_of {d : Nat → Bool} {i j : Nat} (h : d j = true) : setB d i j = true := by unfold setB; split <;> simp [h]
theorem setV_self (x : Nat → Value) (i : Nat) (v : Value) : setV x i v i = v := by simp [setV]
theorem setV_ne {x : Nat → Value} {i j : Nat} {v : Value} (h : j ≠ i) : setV x i v j = x j := by simp [setV, h]
theorem setB_cases {d : Nat → Bool} {i j : Nat} (h : setB d i j = true) : j = i ∨ (j ≠ i ∧ d j = true) := by
  by_cases e : j = i
  · exact .inl e
  · exact .inr ⟨e, by rwa [setB_ne e] at h⟩

/-- The region's form: no select, no guard, edges that bind point back, each slot written once. -/
def formB (l : List Oper) : Bool :=
  Region.noSelect l.toArray &&
  (l.zipIdx.all fun x => x.1.guard.isNone && x.1.after.toList.all (fun e => !Region.binds .any e || decide (e.on < x.2))) &&
  (l.zipIdx.all fun x => l.zipIdx.all fun y => decide (x.2 = y.2) || (match x.1.dst, y.1.dst with | some a, some b => a != b | _, _ => true))
theorem formB_spec {l : List Oper} (h : formB l = true) :
    Region.noSelect l.toArray = true ∧ (∀ (j : Nat) (o : Oper), l[j]? = some o → o.guard = none ∧ ∀ e ∈ o.after, Region.binds .any e = true → e.on < j) ∧
    ∀ (i j : Nat) (o o' : Oper) (t : Tmp), l[i]? = some o → l[j]? = some o' → o.dst = some t → o'.dst = some t → i = j := by
  simp only [formB, Bool.and_eq_true, List.all_eq_true] at h
  obtain ⟨⟨h1, h2⟩, h3⟩ := h
  refine ⟨h1, fun j o hj => ?_, fun i j o o' t hi hj ht ht' => ?_⟩
  · have := h2 _ (zipIdx_mem hj)
    simp only [Option.isNone_iff_eq_none] at this
    refine ⟨this.1, fun e he hb => ?_⟩
    have h4 := this.2 e (by simpa using he)
    simp only [hb, Bool.not_true, Bool.false_or, decide_eq_true_eq] at h4
    exact h4
  · have := h3 _ (zipIdx_mem hi) _ (zipIdx_mem hj)
    simp only [ht, ht', bne_self_eq_false, Bool.or_false, decide_eq_true_eq] at this
    exact this

/-- The frame behind the operations of d, which yielded x. -/
structure Fr (l : List Oper) (a0 a : Act) (d : Nat → Bool) (x : Nat → Value) : Prop where
  size : a.tmps.size = a0.tmps.size
  defers : a.defers = a0.defers
  old : ∀ t : Tmp, (∀ (i : Nat) (o : Oper), l[i]? = some o → o.dst = some t → d i = false) → a.tmps[t]? = a0.tmps[t]?
  new : ∀ (i : Nat) (o : Oper) (t : Tmp), l[i]? = some o → o.dst = some t → d i = true → t < a0.tmps.size → a.tmps[t]? = some (x i)
theorem Fr.start (l : List Oper) (a0 : Act) : Fr l a0 a0 (fun _ => false) (fun _ => undef) := ⟨rfl, rfl, fun _ _ => rfl, fun _ _ _ _ _ h => by cases h⟩
theorem Fr.put {l : List Oper} {a0 a : Act} {d : Nat → Bool} {x : Nat → Value} (hu : ∀ (i j : Nat) (o o' : Oper) (t : Tmp), l[i]? = some o → l[j]? = some o' → o.dst = some t → o'.dst = some t → i = j) (h : Fr l a0 a d x) {i : Nat} {o : Oper} (hi : l[i]? = some o) (v : Value) : Fr l a0 (a.put o.dst v) (setB d i) (setV x i v) := by
  rcases ho : o.dst with _ | t
  · refine ⟨h.size, h.defers, fun t ht => h.old t (fun j o' hj hd => ?_), fun j o' t hj hd hdj hlt => ?_⟩
    · have := ht j o' hj hd
      unfold setB at this
      split at this
      · cases this
      · exact this
    · have hne : j ≠ i := fun e => by
        subst e
        rw [hi] at hj
        injection hj with hj
        subst hj
        rw [ho] at hd
        cases hd
      rw [setB_ne hne] at hdj
      rw [setV_ne hne]
      exact h.new j o' t hj hd hdj hlt
  · refine ⟨by simp [Act.put, h.size], h.defers, fun s hs => ?_, fun j o' s hj hd hdj hlt => ?_⟩
    · have hne : t ≠ s := fun e => by
        subst e
        have := hs i o hi ho
        rw [setB_self] at this
        cases this
      simp only [Act.put]
      rw [Array.getElem?_setIfInBounds_ne hne]
      refine h.old s (fun j o' hj hd => ?_)
      have := hs j o' hj hd
      unfold setB at this
      split at this
      · cases this
      · exact this
    · by_cases e : j = i
      · subst e
        rw [hi] at hj
        injection hj with hj
        subst hj
        rw [ho] at hd
        injection hd with hd
        subst hd
        rw [setV_self]
        simp only [Act.put]
        rw [Array.getElem?_setIfInBounds_self_of_lt (by rw [h.size]; exact hlt)]
      · rw [setB_ne e] at hdj
        rw [setV_ne e]
        have hne : t ≠ s := fun et => by
          subst et
          exact e (hu j i o' o t hj hi hd ho)
        simp only [Act.put]
        rw [Array.getElem?_setIfInBounds_ne hne]
        exact h.new j o' s hj hd hdj hlt
/-- An operand that the region made. -/
theorem Fr.got {l : List Oper} {a0 a : Act} {d : Nat → Bool} {x : Nat → Value} (h : Fr l a0 a d x) {i : Nat} {o : Oper} {t : Nat} (hi : l[i]? = some o) (ht : o.dst = some t) (hd : d i = true) (hlt : t < a0.tmps.size) : a.tmps.getD t undef = x i := by
  rw [Array.getD_eq_getD_getElem?, h.new i o t hi ht hd hlt]
  rfl
/-- A slot that the region leaves alone. -/
theorem Fr.kept {l : List Oper} {a0 a : Act} {d : Nat → Bool} {x : Nat → Value} (h : Fr l a0 a d x) {t : Nat} (ht : (l.all fun o => o.dst != some t) = true) : a.tmps.getD t undef = a0.tmps.getD t undef := by
  rw [Array.getD_eq_getD_getElem?, Array.getD_eq_getD_getElem?, h.old t (fun i o hi hd => ?_)]
  have := List.all_eq_true.1 ht o (List.mem_of_getElem? hi)
  rw [hd] at this
  simp at this

/-- The frame when all is done. -/
def putAll : List Oper → Nat → (Nat → Value) → Act → Act
  | [], _, _, a => a
  | o :: r, k, x, a => putAll r (k + 1) x (a.put o.dst (x k))
theorem Fr.ext {l : List Oper} {a0 a b : Act} {d : Nat → Bool} {x : Nat → Value} (hd : ∀ i, i < l.length → d i = true) (ha : Fr l a0 a d x) (hb : Fr l a0 b d x) : a = b := by
  have ht : a.tmps = b.tmps := by
    apply Array.ext_getElem?
    intro t
    by_cases h : ∃ (i : Nat) (o : Oper), l[i]? = some o ∧ o.dst = some t
    · obtain ⟨i, o, hi, ho⟩ := h
      have hdi := hd i (List.getElem?_eq_some_iff.1 hi).1
      by_cases hlt : t < a0.tmps.size
      · rw [ha.new i o t hi ho hdi hlt, hb.new i o t hi ho hdi hlt]
      · rw [Array.getElem?_eq_none (by rw [ha.size]; omega), Array.getElem?_eq_none (by rw [hb.size]; omega)]
    · rw [ha.old t (fun i o hi ho => absurd ⟨i, o, hi, ho⟩ h), hb.old t (fun i o hi ho => absurd ⟨i, o, hi, ho⟩ h)]
  obtain ⟨at_, ad⟩ := a
  obtain ⟨bt, bd⟩ := b
  have h1 := ha.defers
  have h2 := hb.defers
  simp only at ht h1 h2
  rw [ht, h1, h2]
theorem putAll_fr {l : List Oper} {a0 : Act} {x : Nat → Value} (hu : ∀ (i j : Nat) (o o' : Oper) (t : Tmp), l[i]? = some o → l[j]? = some o' → o.dst = some t → o'.dst = some t → i = j) : ∀ (r : List Oper) (k : Nat) (a : Act) (y : Nat → Value), (∀ j, r[j]? = l[k + j]?) → Fr l a0 a (fun i => decide (i < k)) y → (∀ i, i < k → y i = x i) →
    Fr l a0 (putAll r k x a) (fun i => decide (i < k + r.length)) x
  | [], k, a, y, _, h, hy => by
    refine ⟨h.size, h.defers, fun t ht => h.old t (by simpa using ht), fun i o t hi ho hd hlt => ?_⟩
    rw [← hy i (by simpa using hd)]
    exact h.new i o t hi ho (by simpa using hd) hlt
  | o :: r, k, a, y, hl, h, hy => by
    have h0 : l[k]? = some o := by simpa using (hl 0).symm
    have h1 := h.put hu h0 (x k)
    have e : setB (fun i => decide (i < k)) k = fun i => decide (i < k + 1) := by
      funext i
      unfold setB
      split
      · subst i
        simp
      · exact decide_eq_decide.2 (by omega)
    rw [e] at h1
    have h2 := putAll_fr (x := x) hu r (k + 1) (a.put o.dst (x k)) _ (fun j => by have := hl (j + 1); simpa [Nat.add_assoc, Nat.add_comm 1 j] using this) h1 (fun i hi => by
      unfold setV
      split
      · subst i
        rfl
      · exact hy i (by omega))
    have e2 : k + 1 + r.length = k + (o :: r).length := by simp; omega
    rw [e2] at h2
    exact h2

section
variable {P : Program} {l : List Oper} {a0 : Act}
/-- One operation, at any time when what it needs is done. -/
def stepI (P : Program) (l : List Oper) (a0 : Act) (J : (Nat → Bool) → (Nat → Value) → World → Prop) (i : Nat) (o : Oper) : Prop :=
  ∀ d x a w, Fr l a0 a d x → d i = false → (∀ e ∈ o.after, Region.binds .any e = true → d e.on = true) → J d x w →
    o.wp P a w (fun a' w' => ∃ v, a' = a.put o.dst v ∧ J (setB d i) (setV x i v) w') noQ
def stepsI (P : Program) (l : List Oper) (a0 : Act) (J : (Nat → Bool) → (Nat → Value) → World → Prop) : Nat → List Oper → Prop
  | _, [] => True
  | k, o :: r => stepI P l a0 J k o ∧ stepsI P l a0 J (k + 1) r
theorem stepsI_at {J : (Nat → Bool) → (Nat → Value) → World → Prop} : ∀ (r : List Oper) (k : Nat), stepsI P l a0 J k r → ∀ j o, r[j]? = some o → stepI P l a0 J (k + j) o
  | [], _, _, j, o, h => by simp at h
  | o :: r, k, h, 0, o', h' => by
    simp at h'
    subst h'
    exact h.1
  | o :: r, k, h, j + 1, o', h' => by
    have := stepsI_at r (k + 1) h.2 j o' (by simpa using h')
    rwa [Nat.add_assoc, Nat.add_comm 1 j] at this

theorem any_inv {J : (Nat → Bool) → (Nat → Value) → World → Prop} {Q : Exit → Act → World → Prop} (hB : formB l = true) (hs : stepsI P l a0 J 0 l)
    (hend : ∀ d x w, (∀ i, i < l.length → d i = true) → J d x w → Q .normal (putAll l 0 x a0) w) :
    ∀ (fuel : Nat) (rem : List Nat) (listed : Array Bool) (d : Nat → Bool) (x : Nat → Value) (a : Act) (w : World), listed.size = l.length → rem.length = fuel → rem.Nodup → (∀ j, j < l.length → (listed[j]? = some (d j)) ∧ (d j = false ↔ j ∈ rem)) → (∀ j ∈ rem, j < l.length) →
      Fr l a0 a d x → J d x w → wpAny P .any l.toArray Q fuel listed a w := by
  obtain ⟨hsel, hform, hu⟩ := formB_spec hB
  have hready : ∀ (listed : Array Bool) (d : Nat → Bool), listed.size = l.length → (∀ j, j < l.length → listed[j]? = some (d j)) → Region.ready .any l.toArray listed = [] → ∀ j, j < l.length → d j = true := by
    intro listed d hsz hd hr j
    induction j using Nat.strongRecOn with
    | ind j ih =>
      intro hj
      rcases hdj : d j with _ | _
      · exfalso
        obtain ⟨o, ho⟩ : ∃ o, l[j]? = some o := ⟨l[j], List.getElem?_eq_getElem hj⟩
        have hm : j ∈ Region.ready .any l.toArray listed := by
          refine mem_ready.2 ⟨by rw [Array.getD_eq_getD_getElem?, hd j hj, hdj]; rfl, o, by simpa using ho, fun e he hb => ?_⟩
          have hlt := (hform j o ho).2 e he hb
          rw [Array.getD_eq_getD_getElem?, hd e.on (by omega), ih e.on hlt (by omega)]
          rfl
        rw [hr] at hm
        cases hm
      · rfl
  have hdone : ∀ (d : Nat → Bool) (x : Nat → Value) (a : Act) (w : World), (∀ j, j < l.length → d j = true) → Fr l a0 a d x → J d x w → Q .normal a w := by
    intro d x a w hd hF hj
    have h1 := putAll_fr (a0 := a0) (x := x) hu l 0 a0 (fun _ => undef) (by simp) ⟨rfl, rfl, fun _ _ => rfl, fun _ _ _ _ _ h => by simp at h⟩ (fun i hi => by omega)
    have hF2 : Fr l a0 a (fun i => decide (i < 0 + l.length)) x := ⟨hF.size, hF.defers, fun t ht => hF.old t (fun i o hi ho => by
        have := ht i o hi ho
        have h3 := (List.getElem?_eq_some_iff.1 hi).1
        simp at this
        omega), fun i o t hi ho _ hlt => hF.new i o t hi ho (hd i (List.getElem?_eq_some_iff.1 hi).1) hlt⟩
    have e := hF2.ext (fun i hi => by simp; omega) h1
    rw [e]
    exact hend d x w hd hj
  intro fuel
  induction fuel with
  | zero =>
    intro rem listed d x a w hsz hrl hnd hd hrem hF hj
    have hr0 : rem = [] := List.eq_nil_of_length_eq_zero hrl
    have hall : ∀ j, j < l.length → d j = true := fun j hj' => by
      rcases h : d j with _ | _
      · have := ((hd j hj').2).1 h
        rw [hr0] at this
        cases this
      · rfl
    refine ⟨?_, hdone d x a w hall hF hj⟩
    rw [List.eq_nil_iff_forall_not_mem]
    intro j hm
    obtain ⟨h1, o, ho, _⟩ := mem_ready.1 hm
    have hjl : j < l.length := by have := (Array.getElem?_eq_some_iff.1 ho).1; simpa using this
    rw [Array.getD_eq_getD_getElem?, (hd j hjl).1, hall j hjl] at h1
    simp at h1
  | succ fuel ih =>
    intro rem listed d x a w hsz hrl hnd hd hrem hF hj
    refine ⟨fun hr => hdone d x a w (hready listed d hsz (fun j hj' => (hd j hj').1) hr) hF hj, fun i hm => ?_⟩
    obtain ⟨h1, o, ho, hdep⟩ := mem_ready.1 hm
    have hil : i < l.length := by have := (Array.getElem?_eq_some_iff.1 ho).1; simpa using this
    have ho' : l[i]? = some o := by simpa using ho
    have hdi : d i = false := by
      rw [Array.getD_eq_getD_getElem?, (hd i hil).1] at h1
      simpa using h1
    have hg := (hform i o ho').1
    have hst := stepsI_at l 0 hs i o ho'
    rw [Nat.zero_add] at hst
    have hw := hst d x a w hF hdi (fun e he hb => by
      have h2 := hdep e he hb
      have hlt := (hform i o ho').2 e he hb
      rw [Array.getD_eq_getD_getElem?, (hd e.on (by omega)).1] at h2
      simpa using h2) hj
    unfold wpOp
    rw [ho]
    simp only
    have hwant : Region.wanted o (yielded l.toArray a.tmps) = true := by
      unfold Region.wanted
      rw [hg]
    rw [if_pos hwant]
    refine .inl (Oper.wp_mono (fun a' w' hh => ?_) (wp_noQ hw))
    obtain ⟨v, rfl, hj'⟩ := hh
    have him : i ∈ rem := ((hd i hil).2).1 hdi
    refine ih (rem.erase i) (listed.setIfInBounds i true) (setB d i) (setV x i v) _ w' (by simpa using hsz) (by rw [List.length_erase_of_mem him]; omega) (hnd.erase i) (fun j hjl => ?_) (fun j hj2 => hrem j (List.mem_of_mem_erase hj2)) (hF.put hu ho' v) hj'
    by_cases e : j = i
    · subst e
      refine ⟨by rw [setB_self]; simp [hsz, hjl], ?_⟩
      rw [setB_self]
      simp only [Bool.true_eq_false, false_iff]
      exact hnd.not_mem_erase
    · refine ⟨by rw [setB_ne e, Array.getElem?_setIfInBounds_ne (fun h => e h.symm)]; exact (hd j hjl).1, ?_⟩
      rw [setB_ne e, (hd j hjl).2, hnd.mem_erase_iff]
      exact ⟨fun h => ⟨e, h⟩, fun h => h.2⟩

/-- **A DRAWN REGION BY AN INVARIANT.** -/
theorem wp_region_inv {id : Nat} {Q : Exit → Act → World → Prop} {w : World} (J : (Nat → Bool) → (Nat → Value) → World → Prop) (hm : P.follows .mixedOrders = true) (hB : formB l = true)
    (h0 : J (fun _ => false) (fun _ => undef) w.drew) (hs : stepsI P l a0 J 0 l)
    (hend : ∀ d x w, (∀ i, i < l.length → d i = true) → J d x w → Q .normal (putAll l 0 x a0) w) : (Code.region id l.toArray true).wp P Q a0 w := by
  refine wp_region_any hm ?_
  refine any_inv hB hs hend _ (List.range l.length) _ (fun _ => false) (fun _ => undef) a0 _ (by simp) (by simp) List.nodup_range (fun j hj => ⟨by simp [hj], by simp [hj]⟩) (fun j hj => by simpa using hj) (Fr.start l a0) h0
end
end Go.Proofs.Ytdiahjeplaegnaa
