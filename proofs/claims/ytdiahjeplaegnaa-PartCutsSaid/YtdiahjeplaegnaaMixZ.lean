/- A drawn region whose last operation waits for all the others: those go as in Mix, in worlds of a class that they keep, and the last one may turn what they read. -/
import Derived.Test.YtdiahjeplaegnaaTurn
import Derived.Test.YtdiahjeplaegnaaMix
namespace Go.Proofs.Ytdiahjeplaegnaa
open Go Go.RowKit

/-- What the last operation makes of the frame. -/
def wpLast (P : Program) (ops : Array Oper) (z : Oper) (Q : Exit → Act → World → Prop) (a : Act) (w : World) : Prop :=
  if Region.wanted z (yielded ops a.tmps) = true then z.wp P a w (fun a' w' => Q .normal a' w') noQ else Q .normal (a.put z.dst undef) w

def finB (ld : Op → Nat) (l : List Oper) (z : Oper) : Bool :=
  mixB ld l (depsOf l) && (z.after.toList.all fun e => !Region.binds .any e || decide (e.on < l.length)) &&
  (depStep (fun j => (depsOf l).getD j 0) z.after.toList % 2 ^ l.length == 2 ^ l.length - 1) &&
  (l.all fun o => match o.guard with | none => true | some (j, _) => decide (j < l.length))

section
variable {P : Program} {S : World → Prop} {ld : Op → Nat} {R : Act → World → Prop}

theorem snoc_lt {l : List Oper} {z : Oper} {i : Nat} (h : i < l.length) : (l ++ [z]).toArray[i]? = l.toArray[i]? := by
  simp [List.getElem?_append_left h]
theorem snoc_at {l : List Oper} {z : Oper} : (l ++ [z]).toArray[l.length]? = some z := by
  simp

theorem wanted_snoc {l : List Oper} {z o : Oper} {tmps : Array Value} (h : (match o.guard with | none => true | some (j, _) => decide (j < l.length)) = true) :
    Region.wanted o (yielded (l ++ [z]).toArray tmps) = Region.wanted o (yielded l.toArray tmps) := by
  unfold Region.wanted
  rcases hg : o.guard with _ | ⟨j, b⟩
  · rfl
  · rw [hg] at h
    have h : j < l.length := by simpa using h
    simp only [yielded, snoc_lt h]

/-- Everything that bears a listed bit is listed. -/
theorem all_listed {l : List Oper} {z : Oper} {listed : Array Bool} (hB : finB ld l z = true) (hcl : Closed .any l.toArray listed)
    (hz : ∀ e ∈ z.after, Region.binds .any e = true → listed.getD e.on false = true) : ∀ i, i < l.length → listed.getD i false = true := by
  simp only [finB, Bool.and_eq_true, List.all_eq_true] at hB
  obtain ⟨⟨⟨h1, h2⟩, h3⟩, h4⟩ := hB
  obtain ⟨_, hzero, hdep, _, _⟩ := mixB_spec h1
  intro i hi
  have hb : (depStep (fun j => (depsOf l).getD j 0) z.after.toList).testBit i = true := by
    have e := congrArg (fun x => Nat.testBit x i) (beq_iff_eq.1 h3)
    simp only [Nat.testBit_mod_two_pow, Nat.testBit_two_pow_sub_one] at e
    simpa [hi] using e
  unfold depStep at hb
  rcases depStep_spec (fun j => (depsOf l).getD j 0) i z.after.toList 0 hb with h | ⟨e, he, hbi, hh⟩
  · simp at h
  · have hle := hz e (by simpa using he) hbi
    rcases hh with hh | hh
    · rw [← hh]; exact hle
    · exact dep_none hzero hdep hcl e.on hle hh

/-- Where nothing is ready, all is listed. -/
theorem none_ready {l : List Oper} {listed : Array Bool} (hsz : l.length ≤ listed.size) (hback : ∀ j oj, l[j]? = some oj → ∀ e ∈ oj.after, Region.binds .any e = true → e.on < j)
    (h : Region.ready .any l.toArray listed = []) : ∀ i, i < l.length → listed.getD i false = true := by
  intro i
  induction i using Nat.strongRecOn with
  | _ i ih =>
    intro hi
    rcases hb : listed.getD i false with _ | _
    · exfalso
      have : i ∈ Region.ready .any l.toArray listed := mem_ready.2 ⟨by
        have hl : i < listed.size := by omega
        simp [hl] at hb ⊢
        exact hb, l[i], by simp [hi], fun e he hbi => ih e.on (hback i l[i] (List.getElem?_eq_getElem hi) e he hbi) (by have := hback i l[i] (List.getElem?_eq_getElem hi) e he hbi; omega)⟩
      rw [h] at this
      cases this
    · rfl

theorem rel_getD {l : List Oper} {listed lis : Array Bool} (hrel : ∀ i, i < l.length → lis[i]? = listed[i]?) {i : Nat} (hi : i < l.length) (d : Bool) : lis.getD i d = listed.getD i d := by
  rw [Array.getD_eq_getD_getElem?, Array.getD_eq_getD_getElem?, hrel i hi]

theorem ready_lt {l : List Oper} {z : Oper} {listed lis : Array Bool} (hback : ∀ j oj, l[j]? = some oj → ∀ e ∈ oj.after, Region.binds .any e = true → e.on < j)
    (hrel : ∀ i, i < l.length → lis[i]? = listed[i]?) {i : Nat} (hi : i < l.length) : i ∈ Region.ready .any (l ++ [z]).toArray listed ↔ i ∈ Region.ready .any l.toArray lis := by
  rw [mem_ready, mem_ready, snoc_lt hi, rel_getD hrel hi]
  have ho : l.toArray[i]? = some l[i] := by simp [hi]
  constructor
  · rintro ⟨h1, o, h2, h3⟩
    refine ⟨h1, o, h2, fun e he hb => ?_⟩
    rw [ho] at h2
    injection h2 with h2
    subst h2
    have := hback i l[i] (List.getElem?_eq_getElem hi) e he hb
    rw [rel_getD hrel (by omega)]
    exact h3 e he hb
  · rintro ⟨h1, o, h2, h3⟩
    refine ⟨h1, o, h2, fun e he hb => ?_⟩
    rw [ho] at h2
    injection h2 with h2
    subst h2
    have := hback i l[i] (List.getElem?_eq_getElem hi) e he hb
    rw [← rel_getD hrel (by omega)]
    exact h3 e he hb

theorem rel_set {l : List Oper} {listed lis : Array Bool} (hsz : listed.size = l.length + 1) (hsz2 : lis.size = l.length) (hrel : ∀ i, i < l.length → lis[i]? = listed[i]?) {j : Nat} (hj : j < l.length) :
    ∀ i, i < l.length → (lis.setIfInBounds j true)[i]? = (listed.setIfInBounds j true)[i]? := by
  intro i hi
  by_cases hij : j = i
  · subst hij
    rw [Array.getElem?_setIfInBounds, Array.getElem?_setIfInBounds, if_pos rfl, if_pos rfl, if_pos (by omega), if_pos (by omega)]
  · rw [Array.getElem?_setIfInBounds_ne hij, Array.getElem?_setIfInBounds_ne hij]
    exact hrel i hi

theorem le_size {l : List Oper} {z o : Oper} {i : Nat} (ho : (l ++ [z]).toArray[i]? = some o) : i < l.length ∨ i = l.length := by
  rcases Nat.lt_or_ge i (l.length + 1) with h | h
  · omega
  · rw [Array.getElem?_eq_none (by simpa using h)] at ho; cases ho

theorem none_of_all {l : List Oper} {lis : Array Bool} (hsz : lis.size = l.length) (hall : ∀ i, i < l.length → lis.getD i false = true) : Region.ready .any l.toArray lis = [] := by
  rw [List.eq_nil_iff_forall_not_mem]
  intro j hj
  obtain ⟨hu, o, ho, _⟩ := mem_ready.1 hj
  have hjl : j < l.length := by
    rcases Nat.lt_or_ge j l.length with h | h
    · exact h
    · simp [h] at ho
  have := hall j hjl
  have hlt : j < lis.size := by omega
  simp [hlt] at hu this
  rw [hu] at this
  cases this

theorem wpAny_snoc {Q : Exit → Act → World → Prop} {l : List Oper} {z : Oper} (hB : finB ld l z = true) (hR : ∀ a w, S w → R a w → wpLast P (l ++ [z]).toArray z Q a w) :
    ∀ (fuel : Nat) (listed lis : Array Bool) (a : Act) (w : World), S w → listed.size = l.length + 1 → lis.size = l.length → (∀ i, i < l.length → lis[i]? = listed[i]?) → listed.getD l.length true = false → Closed .any l.toArray lis →
      mAny P S .any l.toArray ld R fuel lis a w → wpAny P .any (l ++ [z]).toArray Q (fuel + 1) listed a w := by
  have hB0 := hB
  simp only [finB, Bool.and_eq_true, List.all_eq_true] at hB
  obtain ⟨⟨⟨h1, h2⟩, h3⟩, h4⟩ := hB
  obtain ⟨_, hzero, hdep, hback, _⟩ := mixB_spec h1
  have hzb : ∀ e ∈ z.after, Region.binds .any e = true → e.on < l.length := fun e he hb => by
    have := h2 e (by simpa using he)
    simp [hb] at this
    exact this
  have last : ∀ (fuel : Nat) (listed lis : Array Bool) (a : Act) (w : World), S w → listed.size = l.length + 1 → (∀ i, i < l.length → lis[i]? = listed[i]?) → (∀ i, i < l.length → lis.getD i false = true) → R a w →
      wpOp P (l ++ [z]).toArray Q l.length (wpAny P .any (l ++ [z]).toArray Q fuel (listed.setIfInBounds l.length true)) a w := by
    intro fuel listed lis a w hS hsz hrel hall hr
    have hl := hR a w hS hr
    have hnil : Region.ready .any (l ++ [z]).toArray (listed.setIfInBounds l.length true) = [] := by
      rw [List.eq_nil_iff_forall_not_mem]
      intro j hj
      obtain ⟨hu, o, ho, _⟩ := mem_ready.1 hj
      rcases le_size ho with hj2 | hjl
      · rw [getD_set_ne true (by omega)] at hu
        have := hall j hj2
        rw [rel_getD hrel hj2] at this
        have hlt : j < listed.size := by omega
        simp [hlt] at hu this
        rw [hu] at this
        cases this
      · subst hjl
        simp [hsz] at hu
    have fin : ∀ a' w', Q .normal a' w' → wpAny P .any (l ++ [z]).toArray Q fuel (listed.setIfInBounds l.length true) a' w' := by
      intro a' w' hq
      cases fuel with
      | zero => exact ⟨hnil, hq⟩
      | succ f => exact ⟨fun _ => hq, fun i hi => by rw [hnil] at hi; cases hi⟩
    unfold wpOp
    rw [snoc_at]
    unfold wpLast at hl
    simp only []
    split at hl
    · rename_i hw
      rw [if_pos hw]
      exact .inl (Oper.wp_mono fin (wp_noQ hl))
    · rename_i hw
      rw [if_neg hw]
      exact fin _ _ hl
  have noneAt : ∀ (listed lis : Array Bool), (∀ i, i < l.length → lis[i]? = listed[i]?) → listed.size = l.length + 1 → lis.size = l.length → listed.getD l.length true = false → Region.ready .any (l ++ [z]).toArray listed = [] → False := by
    intro listed lis hrel hsz hsz2 hun hr
    have hr' : Region.ready .any l.toArray lis = [] := by
      rw [List.eq_nil_iff_forall_not_mem]
      intro j hj
      have hjl : j < l.length := by
        obtain ⟨_, o, ho, _⟩ := mem_ready.1 hj
        rcases Nat.lt_or_ge j l.length with h | h
        · exact h
        · simp [h] at ho
      rw [← ready_lt (z := z) hback hrel hjl, hr] at hj
      cases hj
    have hall := none_ready (by omega) hback hr'
    have : l.length ∈ Region.ready .any (l ++ [z]).toArray listed := mem_ready.2 ⟨hun, z, snoc_at, fun e he hb => by
      have hlt := hzb e he hb
      rw [← rel_getD hrel hlt]
      exact hall e.on hlt⟩
    rw [hr] at this
    cases this
  intro fuel
  induction fuel with
  | zero =>
    intro listed lis a w hS hsz hsz2 hrel hun hcl h
    have hall := none_ready (by omega) hback h.1
    refine ⟨fun hr => (noneAt listed lis hrel hsz hsz2 hun hr).elim, fun i hi => ?_⟩
    obtain ⟨_, o, ho, _⟩ := mem_ready.1 hi
    rcases le_size ho with hil | hil
    · rw [ready_lt hback hrel hil, h.1] at hi
      cases hi
    · subst hil
      exact last 0 listed lis a w hS hsz hrel hall h.2
  | succ fuel ih =>
    intro listed lis a w hS hsz hsz2 hrel hun hcl h
    refine ⟨fun hr => (noneAt listed lis hrel hsz hsz2 hun hr).elim, fun i hi => ?_⟩
    obtain ⟨_, o, ho, hall0⟩ := mem_ready.1 hi
    rcases le_size ho with hil | hil
    · have hi' := (ready_lt hback hrel hil).1 hi
      have hm := h.2 i hi'
      have hop := wpOp_of_mOp (Q := Q) hS hm
      have hnext : ∀ a' w', (S w' ∧ mAny P S .any l.toArray ld R fuel (lis.setIfInBounds i true) a' w') → wpAny P .any (l ++ [z]).toArray Q (fuel + 1) (listed.setIfInBounds i true) a' w' := fun a' w' hh =>
        ih _ _ a' w' hh.1 (by simpa using hsz) (by simpa using hsz2) (rel_set hsz hsz2 hrel hil) (by rw [getD_set_ne true (by omega)]; exact hun) (hcl.set hi') hh.2
      have hop2 := wpOp_mono hnext hop
      unfold wpOp at hop2 ⊢
      rw [snoc_lt hil]
      have hoi : l.toArray[i]? = some l[i] := by simp [hil]
      rw [hoi] at hop2 ⊢
      simp only [] at hop2 ⊢
      have hg := h4 l[i] (List.getElem_mem _)
      rw [wanted_snoc hg]
      exact hop2
    · subst hil
      rw [snoc_at] at ho
      injection ho with ho
      subst ho
      have hall := all_listed hB0 hcl (fun e he hb => by rw [rel_getD hrel (hzb e he hb)]; exact hall0 e he hb)
      exact last (fuel + 1) listed lis a w hS hsz hrel hall (h.1 (none_of_all hsz2 hall))

theorem wp_region_mixZ {id : Nat} {Q : Exit → Act → World → Prop} {a : Act} {w : World} {l : List Oper} {z : Oper} (S : World → Prop) (ld : Op → Nat) (hm : P.follows .mixedOrders = true) (hB : finB ld l z = true)
    (hS : S w.drew) (h : ∀ K : Act → World → Prop, (∀ a w, S w → wpLast P (l ++ [z]).toArray z Q a w → K a w) → wpMix P S l.toArray ld K l a w.drew) : (Code.region id (l ++ [z]).toArray true).wp P Q a w := by
  have hB1 := hB
  simp only [finB, Bool.and_eq_true] at hB1
  obtain ⟨⟨⟨h1, _⟩, _⟩, _⟩ := hB1
  refine wp_region_any hm ?_
  have hlex := mAny_lex (P := P) (R := fun a w => wpLast P (l ++ [z]).toArray z Q a w) h1 l 0 (Array.replicate l.length false) a w.drew hS (by simp) (by simp)
    ⟨by simp, fun j hj => by simp [hj]⟩ (h _ (fun _ _ _ h => h))
  have := wpAny_snoc (P := P) (S := S) (R := fun a w => wpLast P (l ++ [z]).toArray z Q a w) (Q := Q) hB (fun a w _ h => h) l.length (Array.replicate (l.length + 1) false) (Array.replicate l.length false) a w.drew hS (by simp) (by simp)
    (fun i hi => by rw [Array.getElem?_replicate, Array.getElem?_replicate, if_pos hi, if_pos (by omega)]) (by simp)
    (fun m om hm hl => by
      exfalso
      rw [Array.getD_eq_getD_getElem?] at hl
      rcases Nat.lt_or_ge m l.length with h | h
      · simp [h] at hl
      · simp [h] at hl) hlex
  simpa using this

/-- The last one of a list. -/
def lastO : List Oper → Option Oper
  | [] => none
  | [z] => some z
  | _ :: r => lastO r
theorem lastO_cut : ∀ {l : List Oper} {z : Oper}, lastO l = some z → l = l.dropLast ++ [z]
  | [], _, h => by cases h
  | [x], z, h => by
    injection h with h
    subst h
    rfl
  | x :: y :: r, z, h => by
    have := lastO_cut (l := y :: r) (z := z) h
    rw [List.dropLast_cons_cons, List.cons_append, ← this]

/-- The form for use: hz by rfl, the list's cut by simp only [List.dropLast_cons_cons, List.dropLast_singleton]. -/
theorem wp_mixZ {id : Nat} {Q : Exit → Act → World → Prop} {a : Act} {w : World} {l : List Oper} {z : Oper} (S : World → Prop) (hz : lastO l = some z) (hm : P.follows .mixedOrders = true) (hB : finB kdS l.dropLast z = true)
    (hS : S w.drew) (h : ∀ K : Act → World → Prop, (∀ a w, S w → wpLast P l.toArray z Q a w → K a w) → wpMix P S l.dropLast.toArray kdS K l.dropLast a w.drew) : (Code.region id l.toArray true).wp P Q a w := by
  have e := lastO_cut hz
  have h2 := wp_region_mixZ (id := id) (Q := Q) (a := a) (w := w) S kdS hm hB hS (by rw [← e]; exact h)
  rw [← e] at h2
  exact h2
/-- The last operation is wanted. -/
theorem last_on {ops : Array Oper} {z : Oper} {Q : Exit → Act → World → Prop} {a : Act} {w : World} (hw : Region.wanted z (yielded ops a.tmps) = true) (h : ∀ K : Act → World → Prop, (∀ a' w', Q .normal a' w' → K a' w') → z.wp P a w K noQ) : wpLast P ops z Q a w := by
  unfold wpLast
  rw [if_pos hw]
  exact h _ (fun _ _ h => h)
/-- An append in the lexical walk, in a class. -/
theorem mixS_app {P : Program} {S : World → Prop} {w : World} {ops : Array Oper} {R : Act → World → Prop} {rest : List Oper} {d : Option Tmp} {s x : Operand} {t ty : TypeId} {pos : String} {after : Array Edge} {gd : Option (Nat × Bool)} {a : Act}
    (base : Nat) (e : TypeId) (i : TypeInfo) (z : Value) (size bytes : Nat) (ht : P.underlying t = some (.slice e)) (hi : P.info? e = some i) (hz : i.zero = some z)
    (hsize : i.size = size) (hby : i.bytes = bytes) (hzs : z.cells.size = size) (hsz : 0 < size)
    (v : Value) (n : Nat) (xs : List Value) (hown : w.ownsRow base e size v n xs)
    (A : Option Addr) (m c : Nat) (news : List Value) (hr : Rd w size A m news) (hs : a.eval s = v) (hx : a.eval x = .slice A m c) (h1 : ∀ u ∈ news, u.oneCell' = true)
    (hbytes : (n + m) * bytes ≤ 140737488355328) (h63 : n + m ≤ 140737488355328) (hbase : base ≤ w.heap.size)
    (hw : Region.wanted (Oper.mk d (.call { callee := .builtin .append, args := #[s, x], argTypes := #[t, t] }) ty pos after gd) (yielded ops a.tmps) = true)
    (h : ∀ A' c' w', w'.ownsRow base e size (.slice A' (n + m) c') (n + m) (xs ++ news) → w.grownBy w' v.ownBlock →
      ((Value.slice A' (n + m) c').ownBlock = v.ownBlock ∨ (Value.slice A' (n + m) c').ownBlock = some w.heap.size) → S w' ∧ wpMix P S ops kdS R rest (a.put d (.slice A' (n + m) c')) w') :
    wpMix P S ops kdS R (Oper.mk d (.call { callee := .builtin .append, args := #[s, x], argTypes := #[t, t] }) ty pos after gd :: rest) a w := by
  simp only [wpMix]
  rw [if_pos hw, if_neg (show ¬ kdS (.call { callee := .builtin .append, args := #[s, x], argTypes := #[t, t] }) = 0 from fun h => Nat.noConfusion (show (2 : Nat) = 0 from h)), if_neg (show ¬ kdS (.call { callee := .builtin .append, args := #[s, x], argTypes := #[t, t] }) = 1 from fun h => Nat.noConfusion (Nat.succ.inj (show (2 : Nat) = 1 from h)))]
  exact wp_app w s x t rfl base e i z size bytes ht hi hz hsize hby hzs hsz v n xs hs hown A m c news hx hr h1 hbytes h63 hbase h
/-- The block of a row, if any. -/
def rowF (A : Option Addr) : List Nat := match A with | none => [] | some ad => [ad.block]
theorem rowF_own {A : Option Addr} {n c k : Nat} (h : (Value.slice A n c).ownBlock = some k) : k ∈ rowF A := by
  rcases A with _ | ad
  · cases h
  · have e : some ad.block = some k := h
    injection e with e
    subst e
    simp [rowF]
theorem rowF_ge {w : World} {base : Nat} {e : TypeId} {size n c : Nat} {A : Option Addr} {xs : List Value} (h : w.ownsRow base e size (.slice A n c) n xs) : ∀ b ∈ rowF A, base ≤ b := by
  intro b hb
  rcases A with _ | ad
  · cases hb
  · have : b = ad.block := by simpa [rowF] using hb
    subst this
    exact (h.lt ad.block rfl).1
theorem Turned.app {w w1 w2 : World} {A : Option Addr} {n c : Nat} (h : Turned (rowF A) w w1) (hg : w1.grownBy w2 (Value.slice A n c).ownBlock) : Turned (rowF A) w w2 :=
  h.grown hg (fun _ hk => .inl (rowF_own hk))
end
end Go.Proofs.Ytdiahjeplaegnaa
