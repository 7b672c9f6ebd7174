/- A region that draws its order, walked once in the text's order: if every two of its operations that Go leaves unordered are apart and at most one of them looks at the world or turns it, the lexical walk serves every order. Operations that are marked quiet must yield one value in every world of a class that the others keep. -/
import Derived.Test.YtdiahjeplaegnaaBase
import Derived.Orders
namespace Go.Proofs.Ytdiahjeplaegnaa
open Go Go.RowKit

def noQ : Exit → Act → World → Prop := fun _ _ _ => False

/-- What an operation may do: 0: one value in every world; 1: it may look at the world, which it leaves alone; 2: whatever. -/
def kd : Op → Nat
  | .move _ | .assign _ | .pick .. | .extract .. | .field .. | .fieldAddr .. | .indexAddr .. | .index .. | .binOp .. | .unOp .. | .convert .. | .build .. | .nilCheck _ | .slice .. => 0
  | .load .. | .lookup .. => 1
  | .call { callee := .builtin .len, .. } | .call { callee := .builtin .min, .. } | .call { callee := .builtin .max, .. } | .call { callee := .builtin .real, .. } | .call { callee := .builtin .imag, .. } | .call { callee := .builtin .complex, .. } => 0
  | _ => 2

/-- The same, where conversions look at memory. -/
def kdc : Op → Nat
  | .convert .. => 1
  | op => kd op

section
variable {P : Program} {S : World → Prop} {ops : Array Oper} {ld : Op → Nat} {R : Act → World → Prop} {md : Region.Mode}

def wpMix (P : Program) (S : World → Prop) (ops : Array Oper) (ld : Op → Nat) (R : Act → World → Prop) : List Oper → Act → World → Prop
  | [], a, w => R a w
  | o :: rest, a, w =>
    if Region.wanted o (yielded ops a.tmps) = true then
      (if ld o.op = 0 then ∃ v, (∀ w', S w' → (execOp a.eval o).run P w' = .ok (.value v) w') ∧ wpMix P S ops ld R rest (a.put o.dst v) w
       else if ld o.op = 1 then ∃ v, (execOp a.eval o).run P w = .ok (.value v) w ∧ wpMix P S ops ld R rest (a.put o.dst v) w
       else o.wp P a w (fun a' w' => S w' ∧ wpMix P S ops ld R rest a' w') noQ)
    else wpMix P S ops ld R rest (a.put o.dst undef) w

def mOp (P : Program) (S : World → Prop) (ops : Array Oper) (ld : Op → Nat) (i : Nat) (K : Act → World → Prop) (a : Act) (w : World) : Prop :=
  match ops[i]? with
  | none => K a w
  | some o =>
    if Region.wanted o (yielded ops a.tmps) = true then
      (if ld o.op = 0 then ∃ v, (∀ w', S w' → (execOp a.eval o).run P w' = .ok (.value v) w') ∧ K (a.put o.dst v) w
       else if ld o.op = 1 then ∃ v, (execOp a.eval o).run P w = .ok (.value v) w ∧ K (a.put o.dst v) w
       else o.wp P a w (fun a' w' => S w' ∧ K a' w') noQ)
    else K (a.put o.dst undef) w

def mAny (P : Program) (S : World → Prop) (md : Region.Mode) (ops : Array Oper) (ld : Op → Nat) (R : Act → World → Prop) : Nat → Array Bool → Act → World → Prop
  | 0, listed, a, w => Region.ready md ops listed = [] ∧ R a w
  | fuel + 1, listed, a, w =>
    (Region.ready md ops listed = [] → R a w) ∧
    ∀ i ∈ Region.ready md ops listed, mOp P S ops ld i (mAny P S md ops ld R fuel (listed.setIfInBounds i true)) a w

theorem wp_noQ {o : Oper} {a : Act} {w : World} {K : Act → World → Prop} {Q : Exit → Act → World → Prop} (h : o.wp P a w K noQ) : o.wp P a w K Q := by
  unfold Oper.wp at *
  generalize (execOp a.eval o).run P w = r at *
  cases r with
  | ok n w' =>
    cases n <;> simp only [Oper.upon] at h ⊢ <;> first
      | exact h
      | exact Calls.mono h (fun e w'' he => by
          cases e with
          | returned v => exact he
          | panicked c => exact he.elim
          | outgrown => obtain ⟨_, _, hf⟩ := he; exact hf.elim)
  | halt x w' => cases x <;> simp only [Oper.upon] at h ⊢ <;> exact (h : False).elim

/-- What comes out of a loud operation: some frame in which its own temporary alone (and perhaps the deferred calls) has turned. -/
theorem wp_out {o : Oper} {a : Act} {w : World} {K : Act → World → Prop} (h : o.wp P a w K noQ) :
    ∃ ds v w', K ({ a with defers := ds }.put o.dst v) w' := by
  unfold Oper.wp at h
  generalize (execOp a.eval o).run P w = r at *
  cases r with
  | ok n w' =>
    cases n <;> simp only [Oper.upon] at h <;> first
      | exact h.elim
      | (exact ⟨a.defers, _, _, h⟩)
      | (exact ⟨_ :: a.defers, _, _, h⟩)
      | (obtain ⟨e, w'', _, he, _⟩ := h []
         cases e with
         | returned v => exact ⟨a.defers, _, _, he⟩
         | panicked c => exact he.elim
         | outgrown => obtain ⟨_, _, hf⟩ := he; exact hf.elim)
      | (obtain ⟨v, w'', he, _⟩ := h default []
         exact ⟨a.defers, _, _, he⟩)
  | halt x w' => cases x <;> simp only [Oper.upon] at h <;> exact (h : False).elim

theorem mOp_mono {i : Nat} {a : Act} {w : World} {K K' : Act → World → Prop} (hS : S w) (h : ∀ a w, S w → K a w → K' a w) (hh : mOp P S ops ld i K a w) : mOp P S ops ld i K' a w := by
  unfold mOp at *
  split
  · rename_i ho; simp only [ho] at hh; exact h _ _ hS hh
  · rename_i o ho
    simp only [ho] at hh
    split
    · rename_i hw
      rw [if_pos hw] at hh
      split
      · rename_i hl; rw [if_pos hl] at hh; obtain ⟨v, h1, h2⟩ := hh; exact ⟨v, h1, h _ _ hS h2⟩
      · rename_i hl
        rw [if_neg hl] at hh
        split
        · rename_i hl; rw [if_pos hl] at hh; obtain ⟨v, h1, h2⟩ := hh; exact ⟨v, h1, h _ _ hS h2⟩
        · rename_i hl; rw [if_neg hl] at hh; exact Oper.wp_mono (fun a' w' h' => ⟨h'.1, h _ _ h'.1 h'.2⟩) hh
    · rename_i hw; rw [if_neg hw] at hh; exact h _ _ hS hh

theorem wpOp_of_mOp {i : Nat} {a : Act} {w : World} {K : Act → World → Prop} {Q : Exit → Act → World → Prop} (hS : S w) (hh : mOp P S ops ld i K a w) : wpOp P ops Q i (fun a' w' => S w' ∧ K a' w') a w := by
  unfold mOp at hh
  unfold wpOp
  split
  · rename_i ho; simp only [ho] at hh; exact ⟨hS, hh⟩
  · rename_i o ho
    simp only [ho] at hh
    split
    · rename_i hw
      rw [if_pos hw] at hh
      left
      by_cases hl : ld o.op = 0
      · rw [if_pos hl] at hh
        obtain ⟨v, h1, h2⟩ := hh
        simp only [Oper.wp, h1 w hS, Oper.upon]
        exact ⟨hS, h2⟩
      · rw [if_neg hl] at hh
        by_cases hl : ld o.op = 1
        · rw [if_pos hl] at hh
          obtain ⟨v, h1, h2⟩ := hh
          simp only [Oper.wp, h1, Oper.upon]
          exact ⟨hS, h2⟩
        · rw [if_neg hl] at hh; exact wp_noQ hh
    · rename_i hw; rw [if_neg hw] at hh; exact ⟨hS, hh⟩

theorem wpAny_of_mAny {Q : Exit → Act → World → Prop} (hR : ∀ a w, S w → R a w → Q .normal a w) : ∀ (fuel : Nat) (listed : Array Bool) (a : Act) (w : World),
    S w → mAny P S md ops ld R fuel listed a w → wpAny P md ops Q fuel listed a w
  | 0, _, _, _, hS, h => ⟨h.1, hR _ _ hS h.2⟩
  | fuel + 1, _, _, _, hS, h => ⟨fun h0 => hR _ _ hS (h.1 h0), fun i hi => wpOp_mono (fun a' w' h' => wpAny_of_mAny hR fuel _ a' w' h'.1 h'.2) (wpOp_of_mOp hS (h.2 i hi))⟩

/-- In every world of the class the operation yields v. -/
def YieldsS (P : Program) (S : World → Prop) (ops : Array Oper) (o : Oper) (v : Value) (a : Act) : Prop :=
  (Region.wanted o (yielded ops a.tmps) = true ∧ ∀ w, S w → (execOp a.eval o).run P w = .ok (.value v) w) ∨
  (Region.wanted o (yielded ops a.tmps) = false ∧ v = undef)

theorem YieldsS.of_same {o : Oper} {v : Value} {a a' : Act} (hy : YieldsS P S ops o v a) (he : execOp a'.eval o = execOp a.eval o)
    (hw : Region.wanted o (yielded ops a'.tmps) = Region.wanted o (yielded ops a.tmps)) : YieldsS P S ops o v a' := by
  unfold YieldsS at *
  rw [he, hw]
  exact hy

theorem yields_mOp {i : Nat} {o : Oper} {v : Value} {a : Act} (hi : ops[i]? = some o) (hy : YieldsS P S ops o v a) {K : Act → World → Prop} {w : World} (hS : S w) (h : K (a.put o.dst v) w) : mOp P S ops ld i K a w := by
  unfold mOp
  simp only [hi]
  rcases hy with ⟨hw, hv⟩ | ⟨hw, rfl⟩
  · rw [if_pos hw]
    split
    · exact ⟨v, hv, h⟩
    · split
      · exact ⟨v, hv w hS, h⟩
      · simp only [Oper.wp, hv w hS, Oper.upon]; exact ⟨hS, h⟩
  · rw [if_neg (by rw [hw]; exact Bool.false_ne_true)]; exact h

theorem ok_inj {v u : Value} {w : World} (h : Result.ok (Next.value v) w = .ok (.value u) w) : v = u := by
  injection h with e
  injection e

theorem mOp_yields {i : Nat} {o : Oper} {v : Value} {a : Act} (hi : ops[i]? = some o) (hy : YieldsS P S ops o v a) {K : Act → World → Prop} {w : World} (hS : S w) (h : mOp P S ops ld i K a w) : K (a.put o.dst v) w := by
  unfold mOp at h
  simp only [hi] at h
  rcases hy with ⟨hw, hv⟩ | ⟨hw, rfl⟩
  · rw [if_pos hw] at h
    split at h
    · obtain ⟨u, h1, h2⟩ := h
      rw [ok_inj ((hv w hS).symm.trans (h1 w hS))]
      exact h2
    · split at h
      · obtain ⟨u, h1, h2⟩ := h
        rw [ok_inj ((hv w hS).symm.trans h1)]
        exact h2
      · simp only [Oper.wp, hv w hS, Oper.upon] at h
        exact h.2
  · rw [if_neg (by rw [hw]; exact Bool.false_ne_true)] at h; exact h

theorem wanted_defers (o : Oper) (a : Act) (ds : List Deferred) : Region.wanted o (yielded ops ({ a with defers := ds } : Act).tmps) = Region.wanted o (yielded ops a.tmps) := rfl

theorem yields_far {oi oj : Oper} {u v : Value} {a : Act} {ds : List Deferred} (hsj : ∀ cs b, oj.op ≠ .select cs b) (h1 : ∀ d, oi.dst = some d → d ∉ oj.looksAt ops) :
    YieldsS P S ops oj u ({ a with defers := ds }.put oi.dst v) ↔ YieldsS P S ops oj u a := by
  have e1 : execOp ({ a with defers := ds }.put oi.dst v).eval oj = execOp a.eval oj := execOp_put oj hsj _ oi.dst v h1
  have e2 : Region.wanted oj (yielded ops ({ a with defers := ds }.put oi.dst v).tmps) = Region.wanted oj (yielded ops a.tmps) := wanted_put oj _ oi.dst v h1
  exact ⟨fun h => h.of_same e1.symm e2.symm, fun h => h.of_same e1 e2⟩

/-- A loud operation behind the quiet one instead of ahead of it. -/
theorem wp_swap {oi oj : Oper} {u : Value} {a : Act} {w : World} {K K2 : Act → World → Prop} (hap : oi.apart ops oj = true) (hsi : ∀ cs b, oi.op ≠ .select cs b)
    (hK : ∀ ds v w', K ({ a with defers := ds }.put oi.dst v) w' → K2 (({ a with defers := ds }.put oi.dst v).put oj.dst u) w')
    (h : oi.wp P a w K noQ) : oi.wp P (a.put oj.dst u) w K2 noQ := by
  obtain ⟨_, h2, h3⟩ := Oper.apart_spec hap
  unfold Oper.wp at *
  rw [execOp_put oi hsi a oj.dst u h3]
  generalize (execOp a.eval oi).run P w = r at *
  have key : ∀ v w', K (a.put oi.dst v) w' → K2 ((a.put oj.dst u).put oi.dst v) w' := fun v w' hk => by
    rw [← Act.put_comm a v u h2]; exact hK a.defers v w' hk
  cases r with
  | ok n w' =>
    cases n <;> simp only [Oper.upon] at h ⊢ <;> first
      | exact h
      | exact key _ _ h
      | exact Calls.mono h (fun e w'' he => by
          cases e with
          | returned v => exact key _ _ he
          | panicked c => exact he.elim
          | outgrown => obtain ⟨_, _, hf⟩ := he; exact hf.elim)
      | exact Rows.mono h (fun _ _ he => key _ _ he)
      | (rw [Act.put_defers, ← Act.put_comm _ undef u h2]; exact hK _ _ _ h)
  | halt x w' => cases x <;> simp only [Oper.upon] at h ⊢ <;> exact h

theorem mOp_swap {i : Nat} {oi oj : Oper} {u : Value} {a : Act} {w : World} {K K2 : Act → World → Prop} (hi : ops[i]? = some oi) (hap : oi.apart ops oj = true) (hsi : ∀ cs b, oi.op ≠ .select cs b)
    (hS : S w) (hK : ∀ ds v w', S w' → K ({ a with defers := ds }.put oi.dst v) w' → K2 (({ a with defers := ds }.put oi.dst v).put oj.dst u) w')
    (h : mOp P S ops ld i K a w) : mOp P S ops ld i K2 (a.put oj.dst u) w := by
  obtain ⟨_, h2, h3⟩ := Oper.apart_spec hap
  have key : ∀ v w', S w' → K (a.put oi.dst v) w' → K2 ((a.put oj.dst u).put oi.dst v) w' := fun v w' hs hk => by
    rw [← Act.put_comm a v u h2]; exact hK a.defers v w' hs hk
  unfold mOp at *
  simp only [hi] at *
  rw [wanted_put oi a oj.dst u h3]
  split
  · rename_i hw
    rw [if_pos hw] at h
    split
    · rename_i hl
      rw [if_pos hl] at h
      obtain ⟨v, h1, hk⟩ := h
      exact ⟨v, fun w' hs => by rw [execOp_put oi hsi a oj.dst u h3]; exact h1 w' hs, key _ _ hS hk⟩
    · rename_i hl
      rw [if_neg hl] at h
      split
      · rename_i hl
        rw [if_pos hl] at h
        obtain ⟨v, h1, hk⟩ := h
        exact ⟨v, by rw [execOp_put oi hsi a oj.dst u h3]; exact h1, key _ _ hS hk⟩
      · rename_i hl
        rw [if_neg hl] at h
        exact wp_swap hap hsi (fun ds v w' hk => ⟨hk.1, hK ds v w' hk.1 hk.2⟩) h
  · rename_i hw
    rw [if_neg hw] at h
    exact key _ _ hS h

theorem mOp_out {i : Nat} {oi : Oper} {a : Act} {w : World} {K : Act → World → Prop} (hi : ops[i]? = some oi) (hS : S w) (h : mOp P S ops ld i K a w) :
    ∃ ds v w', S w' ∧ K ({ a with defers := ds }.put oi.dst v) w' := by
  unfold mOp at h
  simp only [hi] at h
  split at h
  · split at h
    · obtain ⟨v, _, h⟩ := h; exact ⟨a.defers, v, w, hS, h⟩
    · split at h
      · obtain ⟨v, _, h⟩ := h; exact ⟨a.defers, v, w, hS, h⟩
      · exact wp_out h
  · exact ⟨a.defers, undef, w, hS, h⟩

theorem mOp_put {j : Nat} {oi oj : Oper} {v : Value} (hj : ops[j]? = some oj) (hap : oi.apart ops oj = true)
    (hsi : ∀ cs b, oi.op ≠ .select cs b) (hsj : ∀ cs b, oj.op ≠ .select cs b) {K : Act → World → Prop} {a : Act} {w : World}
    (hy : YieldsS P S ops oi v a) (h : mOp P S ops ld j K (a.put oi.dst v) w) :
    mOp P S ops ld j (fun a' w' => YieldsS P S ops oi v a' ∧ K (a'.put oi.dst v) w') a w := by
  obtain ⟨h1, h2, h3⟩ := Oper.apart_spec hap
  have keep : ∀ (a : Act), YieldsS P S ops oi v a → ∀ u, YieldsS P S ops oi v (a.put oj.dst u) := fun a hy u =>
    hy.of_same (execOp_put oi hsi a oj.dst u h3) (wanted_put oi a oj.dst u h3)
  have keepD : ∀ d, YieldsS P S ops oi v { a with defers := d :: a.defers } := fun d => hy.of_same rfl rfl
  unfold mOp at *
  simp only [hj] at *
  rw [wanted_put oj a oi.dst v h1] at h
  split
  · rename_i hw
    rw [if_pos hw] at h
    split
    · rename_i hl
      rw [if_pos hl] at h
      obtain ⟨u, hu, hk⟩ := h
      refine ⟨u, fun w' hs => ?_, keep a hy u, by rw [← Act.put_comm a v u h2]; exact hk⟩
      have := hu w' hs
      rwa [execOp_put oj hsj a oi.dst v h1] at this
    · rename_i hl
      rw [if_neg hl] at h
      split
      · rename_i hl
        rw [if_pos hl] at h
        obtain ⟨u, hu, hk⟩ := h
        refine ⟨u, ?_, keep a hy u, by rw [← Act.put_comm a v u h2]; exact hk⟩
        rwa [execOp_put oj hsj a oi.dst v h1] at hu
      · rename_i hl
        rw [if_neg hl] at h
        unfold Oper.wp at *
        rw [execOp_put oj hsj a oi.dst v h1] at h
        generalize (execOp a.eval oj).run P w = r at *
        cases r with
        | ok n w' =>
          cases n <;> simp only [Oper.upon] at h ⊢
          case value u => exact ⟨h.1, keep a hy u, by rw [← Act.put_comm a v u h2]; exact h.2⟩
          case skip => exact ⟨h.1, keep a hy _, by rw [← Act.put_comm a v undef h2]; exact h.2⟩
          case defer d =>
            refine ⟨h.1, keep _ (keepD d) _, ?_⟩
            rw [← Act.put_comm _ v undef h2, ← Act.put_defers]
            exact h.2
          case enter f args =>
            refine Calls.mono h fun e w'' he => ?_
            cases e with
            | returned u => exact ⟨he.1, keep a hy u, by rw [← Act.put_comm a v u h2]; exact he.2⟩
            | panicked c => exact he.elim
            | outgrown => obtain ⟨_, _, hf⟩ := he; exact hf.elim
          case row row args => exact Rows.mono h fun u w'' he => ⟨he.1, keep a hy u, by rw [← Act.put_comm a v u h2]; exact he.2⟩
        | halt x w' => cases x <;> simp only [Oper.upon] at h ⊢ <;> exact (h : False).elim
  · rename_i hw
    rw [if_neg hw] at h
    exact ⟨keep a hy _, by rw [← Act.put_comm a v undef h2]; exact h⟩

/-- Closed under 'waits for'. -/
def Closed (md : Region.Mode) (ops : Array Oper) (listed : Array Bool) : Prop :=
  ∀ m om, ops[m]? = some om → listed.getD m false = true → ∀ e ∈ om.after, Region.binds md e = true → listed.getD e.on false = true

theorem Closed.set {listed : Array Bool} {j : Nat} (h : Closed md ops listed) (hj : j ∈ Region.ready md ops listed) : Closed md ops (listed.setIfInBounds j true) := by
  intro m om hm hl e he hb
  by_cases hjm : j = m
  · subst hjm
    obtain ⟨_, o, ho, hall⟩ := mem_ready.1 hj
    rw [hm] at ho
    injection ho with ho
    subst ho
    exact getD_set_true (hall e he hb)
  · rw [getD_set_ne false hjm] at hl
    exact getD_set_true (h m om hm hl e he hb)

/-- 'dep j': the operations that must come before j, as bits; held against the edges. -/
def DepOk (md : Region.Mode) (ops : Array Oper) (dep : Nat → Nat) : Prop :=
  ∀ j oj i, ops[j]? = some oj → (dep j).testBit i = true → ∃ e ∈ oj.after, Region.binds md e = true ∧ e.on < j ∧ (e.on = i ∨ (dep e.on).testBit i = true)

theorem dep_none {dep : Nat → Nat} (hz : ∀ j, ops[j]? = none → dep j = 0) (hd : DepOk md ops dep) {listed : Array Bool} (hc : Closed md ops listed) {i : Nat} :
    ∀ m, listed.getD m false = true → (dep m).testBit i = true → listed.getD i false = true := by
  intro m
  induction m using Nat.strongRecOn with
  | _ m ih =>
    intro hl hb
    rcases ho : ops[m]? with _ | om
    · rw [hz m ho] at hb; simp at hb
    · obtain ⟨e, he, hbi, hlt, h⟩ := hd m om i ho hb
      have hle := hc m om ho hl e he hbi
      rcases h with h | h
      · rw [← h]; exact hle
      · exact ih e.on hlt hle h

theorem unlisted_false {listed : Array Bool} {i : Nat} (h : listed.getD i true = false) : listed.getD i false ≠ true := by
  rcases Nat.lt_or_ge i listed.size with h' | h'
  · simp [h'] at h ⊢; exact h
  · simp [Array.getElem?_eq_none h'] at h

/-- **An operation that may come up now may be taken first**, if of it and of every other that has not come up and need not wait for it, at most one is loud, and the two are apart. -/
theorem mAny_first {dep : Nat → Nat} (hz : ∀ j, ops[j]? = none → dep j = 0) (hd : DepOk md ops dep) {i : Nat} {oi : Oper} (hi : ops[i]? = some oi)
    (hsel : ∀ (j : Nat) (o : Oper) cs b, ops[j]? = some o → o.op ≠ .select cs b) :
    ∀ (fuel : Nat) (listed : Array Bool) (a : Act) (w : World), S w → Closed md ops listed →
      (∀ j oj, ops[j]? = some oj → j ≠ i → listed.getD j true = false → (dep j).testBit i = false → oi.apart ops oj = true ∧ ld oi.op + ld oj.op ≤ 2) →
      i ∈ Region.ready md ops listed →
      mOp P S ops ld i (mAny P S md ops ld R fuel (listed.setIfInBounds i true)) a w → mAny P S md ops ld R (fuel + 1) listed a w := by
  intro fuel
  induction fuel with
  | zero =>
    intro listed a w hS _ _ hr H
    refine ⟨fun h => (by rw [h] at hr; cases hr), fun j hj => ?_⟩
    by_cases hji : j = i
    · subst hji; exact H
    · exfalso
      have hm := ready_mono hj hji
      obtain ⟨_, _, _, _, h, _⟩ := mOp_out hi hS H
      rw [h] at hm
      cases hm
  | succ fuel ih =>
    intro listed a w hS hcl hfree hr H
    refine ⟨fun h => (by rw [h] at hr; cases hr), fun j hj => ?_⟩
    by_cases hji : j = i
    · subst hji; exact H
    · obtain ⟨hjun, oj, hoj, hall⟩ := mem_ready.1 hj
      have hiun := unlisted_false (mem_ready.1 hr).1
      have hnd : (dep j).testBit i = false := by
        rcases hb : (dep j).testBit i with _ | _
        · rfl
        · exfalso
          obtain ⟨e, he, hbi, _, h⟩ := hd j oj i hoj hb
          have hle := hall e he hbi
          rcases h with h | h
          · rw [h] at hle; exact hiun hle
          · exact hiun (dep_none hz hd hcl e.on hle h)
      obtain ⟨hap, hlo⟩ := hfree j oj hoj hji hjun hnd
      have hfree' : ∀ k ok, ops[k]? = some ok → k ≠ i → (listed.setIfInBounds j true).getD k true = false → (dep k).testBit i = false → oi.apart ops ok = true ∧ ld oi.op + ld ok.op ≤ 2 := fun k ok hk hki hun hno => by
        refine hfree k ok hk hki ?_ hno
        by_cases hjk : j = k
        · subst hjk; exact hjun
        · rw [getD_set_ne true hjk] at hun; exact hun
      have hsi := fun cs b => hsel i oi cs b hi
      have hsj := fun cs b => hsel j oj cs b hoj
      have back : ∀ a' w', S w' → mOp P S ops ld i (mAny P S md ops ld R fuel ((listed.setIfInBounds i true).setIfInBounds j true)) a' w' → mAny P S md ops ld R (fuel + 1) (listed.setIfInBounds j true) a' w' := fun a' w' hs h => by
        refine ih (listed.setIfInBounds j true) a' w' hs (hcl.set hj) hfree' (ready_mono hr (Ne.symm hji)) ?_
        rw [Array.setIfInBounds_comm _ _ hji]
        exact h
      by_cases hq : ∃ v, YieldsS P S ops oi v a
      · obtain ⟨v, hy⟩ := hq
        have H1 := mOp_yields hi hy hS H
        have h1 := H1.2 j (ready_mono hj hji)
        have h2 := mOp_put hoj hap hsi hsj hy h1
        exact mOp_mono hS (fun a' w' hs h3 => back a' w' hs (yields_mOp hi h3.1 hs h3.2)) h2
      · -- the operation is wanted, and looks at the world or turns it
        obtain ⟨h1, h2, h3⟩ := Oper.apart_spec hap
        -- where the other one yields one value in every world: it goes ahead
        have pathY : ∀ u, YieldsS P S ops oj u a → mOp P S ops ld j (mAny P S md ops ld R (fuel + 1) (listed.setIfInBounds j true)) a w := fun u hya => by
          refine yields_mOp hoj hya hS (back _ _ hS (mOp_swap hi hap hsi hS (fun ds' v' w' hs hk => ?_) H))
          exact mOp_yields hoj ((yields_far hsj h1).2 hya) hs (hk.2 j (ready_mono hj hji))
        obtain ⟨ds, v, w1, hS1, hout⟩ := mOp_out hi hS H
        have hjo := hout.2 j (ready_mono hj hji)
        by_cases hwj : Region.wanted oj (yielded ops ({ a with defers := ds }.put oi.dst v).tmps) = true
        · by_cases hj0 : ld oj.op = 0
          · unfold mOp at hjo
            simp only [hoj] at hjo
            rw [if_pos hwj, if_pos hj0] at hjo
            obtain ⟨u, hu, _⟩ := hjo
            exact pathY u ((yields_far (v := v) (ds := ds) hsj h1).1 (.inl ⟨hwj, hu⟩))
          · -- both look at the world and leave it alone
            have H0 := H
            unfold mOp at H0
            simp only [hi] at H0
            by_cases hw : Region.wanted oi (yielded ops a.tmps) = true
            · rw [if_pos hw] at H0
              by_cases hl : ld oi.op = 0
              · rw [if_pos hl] at H0
                obtain ⟨v, hv, _⟩ := H0
                exact absurd ⟨v, .inl ⟨hw, hv⟩⟩ hq
              · have hl1 : ld oi.op = 1 := by omega
                have hj1 : ld oj.op = 1 := by omega
                rw [if_neg hl, if_pos hl1] at H0
                obtain ⟨v, hv, hk⟩ := H0
                have hjo := hk.2 j (ready_mono hj hji)
                unfold mOp at hjo ⊢
                simp only [hoj] at hjo ⊢
                rw [wanted_put oj a oi.dst v h1, execOp_put oj hsj a oi.dst v h1] at hjo
                have hwj' : Region.wanted oj (yielded ops a.tmps) = true := by
                  have := wanted_put (ops := ops) oj { a with defers := ds } oi.dst v h1
                  rw [← wanted_put (ops := ops) oj a oi.dst v h1]
                  rw [wanted_put (ops := ops) oj a oi.dst v h1]
                  have h4 := hwj
                  rw [wanted_put (ops := ops) oj { a with defers := ds } oi.dst _ h1] at h4
                  exact h4
                rw [if_pos hwj', if_neg hj0, if_pos hj1] at hjo ⊢
                obtain ⟨u, hu, hk2⟩ := hjo
                refine ⟨u, hu, back _ _ hS ?_⟩
                unfold mOp
                simp only [hi]
                rw [wanted_put oi a oj.dst u h3, execOp_put oi hsi a oj.dst u h3, if_pos hw, if_neg hl, if_pos hl1]
                exact ⟨v, hv, by rw [← Act.put_comm a v u h2]; exact hk2⟩
            · exact absurd ⟨undef, .inr ⟨by simpa using hw, rfl⟩⟩ hq
        · exact pathY undef ((yields_far (v := v) (ds := ds) hsj h1).1 (.inr ⟨by simpa using hwj, rfl⟩))

/-! ### The Bool over a region, and the lexical walk -/

def depStep (dep : Nat → Nat) (es : List Edge) : Nat := es.foldl (fun s e => if Region.binds .any e = true then s ||| 2 ^ e.on ||| dep e.on else s) 0

theorem depStep_spec (dep : Nat → Nat) (i : Nat) : ∀ (es : List Edge) (s : Nat), (es.foldl (fun s e => if Region.binds .any e = true then s ||| 2 ^ e.on ||| dep e.on else s) s).testBit i = true →
    s.testBit i = true ∨ ∃ e ∈ es, Region.binds .any e = true ∧ (e.on = i ∨ (dep e.on).testBit i = true)
  | [], _, h => .inl h
  | e :: es, s, h => by
    rw [List.foldl_cons] at h
    rcases depStep_spec dep i es _ h with h | ⟨e', he', h'⟩
    · by_cases hb : Region.binds .any e = true
      · rw [if_pos hb] at h
        simp only [Nat.testBit_or, Bool.or_eq_true, Nat.testBit_two_pow, decide_eq_true_eq] at h
        rcases h with (h | h) | h
        · exact .inl h
        · exact .inr ⟨e, List.mem_cons_self, hb, .inl h⟩
        · exact .inr ⟨e, List.mem_cons_self, hb, .inr h⟩
      · rw [if_neg hb] at h; exact .inl h
    · exact .inr ⟨e', List.mem_cons_of_mem _ he', h'⟩

/-- The bits of what must come before, operation by operation. -/
def depsFrom : List Nat → List Oper → List Nat
  | acc, [] => acc
  | acc, o :: rest => depsFrom (acc ++ [depStep (fun j => acc.getD j 0) o.after.toList]) rest
def depsOf (l : List Oper) : List Nat := depsFrom [] l

def mixB (ld : Op → Nat) (l : List Oper) (b : List Nat) : Bool :=
  Region.noSelect l.toArray && b.length == l.length &&
  (l.zipIdx.all fun x => x.1.after.toList.all (fun e => !Region.binds .any e || decide (e.on < x.2)) && b.getD x.2 0 == depStep (fun j => b.getD j 0) x.1.after.toList) &&
  l.zipIdx.all fun x => l.zipIdx.all fun y => decide (y.2 ≤ x.2) || (b.getD y.2 0).testBit x.2 || (x.1.apart l.toArray y.1 && decide (ld x.1.op + ld y.1.op ≤ 2))

theorem zipIdx_mem {l : List Oper} {j : Nat} {o : Oper} (h : l[j]? = some o) : (o, j) ∈ l.zipIdx := by
  rw [List.mem_zipIdx_iff_getElem?]; exact h

theorem mixB_spec {ld : Op → Nat} {l : List Oper} {b : List Nat} (h : mixB ld l b = true) :
    Region.noSelect l.toArray = true ∧ (∀ j, l.toArray[j]? = none → b.getD j 0 = 0) ∧ DepOk .any l.toArray (fun j => b.getD j 0) ∧
    (∀ j oj, l[j]? = some oj → ∀ e ∈ oj.after, Region.binds .any e = true → e.on < j) ∧
    ∀ i oi j oj, l[i]? = some oi → l[j]? = some oj → i < j → (b.getD j 0).testBit i = false → oi.apart l.toArray oj = true ∧ ld oi.op + ld oj.op ≤ 2 := by
  simp only [mixB, Bool.and_eq_true, List.all_eq_true, beq_iff_eq] at h
  obtain ⟨⟨⟨h1, h2⟩, h3⟩, h4⟩ := h
  have hlt : ∀ j oj, l[j]? = some oj → ∀ e ∈ oj.after, Region.binds .any e = true → e.on < j := fun j oj hj e he hb => by
    have := (h3 _ (zipIdx_mem hj)).1 e (by simpa using he)
    simp only [hb, Bool.not_true, Bool.false_or, decide_eq_true_eq] at this
    exact this
  refine ⟨h1, fun j hj => ?_, fun j oj i hj hb => ?_, hlt, fun i oi j oj hi hj hij hn => ?_⟩
  · have hle : l.length ≤ j := by simpa using hj
    rw [List.getD_eq_getElem?_getD, List.getElem?_eq_none (by omega)]; rfl
  · have hj' : l[j]? = some oj := by simpa using hj
    have e1 := (h3 _ (zipIdx_mem hj')).2
    have hb : (b.getD j 0).testBit i = true := hb
    simp only at e1
    rw [e1] at hb
    unfold depStep at hb
    rcases depStep_spec (fun j => b.getD j 0) i _ 0 hb with h | ⟨e, he, hbi, hh⟩
    · simp at h
    · have he' : e ∈ oj.after := by simpa using he
      exact ⟨e, he', hbi, hlt j oj hj' e he' hbi, hh⟩
  · have := h4 _ (zipIdx_mem hi) _ (zipIdx_mem hj)
    simp only [Bool.or_eq_true, decide_eq_true_eq, hn, Bool.false_eq_true, or_false, Bool.and_eq_true] at this
    rcases this with h | h
    · omega
    · exact h

def LexInv (n k : Nat) (listed : Array Bool) : Prop := listed.size = n ∧ ∀ j, j < n → listed[j]? = some (decide (j < k))

theorem LexInv.getD {n k : Nat} {listed : Array Bool} (h : LexInv n k listed) {j : Nat} (hj : j < n) (d : Bool) : listed.getD j d = decide (j < k) := by
  rw [Array.getD_eq_getD_getElem?, h.2 j hj]; rfl

theorem LexInv.set {n k : Nat} {listed : Array Bool} (h : LexInv n k listed) : LexInv n (k + 1) (listed.setIfInBounds k true) := by
  refine ⟨by simpa using h.1, fun j hj => ?_⟩
  by_cases hkj : k = j
  · subst hkj
    simp [h.1, hj]
  · rw [Array.getElem?_setIfInBounds_ne hkj, h.2 j hj]
    congr 1
    exact decide_eq_decide.2 (by omega)

theorem mAny_lex {l : List Oper} {b : List Nat} (hB : mixB ld l b = true) : ∀ (r : List Oper) (k : Nat) (listed : Array Bool) (a : Act) (w : World), S w →
    (∀ j, r[j]? = l[k + j]?) → k + r.length = l.length → LexInv l.length k listed → wpMix P S l.toArray ld R r a w → mAny P S .any l.toArray ld R r.length listed a w
  | [], k, listed, a, w, _, _, hk, hin, h => by
    refine ⟨?_, h⟩
    rw [List.eq_nil_iff_forall_not_mem]
    intro j hj
    obtain ⟨hu, o, ho, _⟩ := mem_ready.1 hj
    have hlt : j < l.length := by have := (Array.getElem?_eq_some_iff.1 ho).1; simpa using this
    rw [hin.getD hlt] at hu
    simp only [List.length_nil, Nat.add_zero] at hk
    simp at hu
    omega
  | o :: r, k, listed, a, w, hS, hl, hk, hin, h => by
    obtain ⟨hs, hz, hd, hlt, hpair⟩ := mixB_spec hB
    have h0 : l[k]? = some o := by simpa using (hl 0).symm
    have h0' : l.toArray[k]? = some o := by simpa using h0
    have hkl : k < l.length := by simp only [List.length_cons] at hk; omega
    have hcl : Closed .any l.toArray listed := fun m om hm hli e he hb => by
      have hm' : l[m]? = some om := by simpa using hm
      have hml : m < l.length := (List.getElem?_eq_some_iff.1 hm').1
      rw [hin.getD hml] at hli
      have hlte := hlt m om hm' e he hb
      rw [hin.getD (by omega)]
      simp at hli ⊢
      omega
    refine mAny_first hz hd h0' (Region.noSelect_spec hs) r.length listed a w hS hcl (fun j oj hj hne hun hno => ?_) ?_ ?_
    · have hj' : l[j]? = some oj := by simpa using hj
      have hjl : j < l.length := (List.getElem?_eq_some_iff.1 hj').1
      rw [hin.getD hjl] at hun
      simp at hun
      exact hpair k o j oj h0 hj' (by omega) hno
    · refine mem_ready.2 ⟨by rw [hin.getD hkl]; simp, o, h0', fun e he hb => ?_⟩
      have := hlt k o h0 e he hb
      rw [hin.getD (by omega)]
      simpa using this
    · have hm : mOp P S l.toArray ld k (wpMix P S l.toArray ld R r) a w := by
        unfold mOp
        simp only [h0']
        exact h
      exact mOp_mono hS (fun a' w' hs h' => mAny_lex hB r (k + 1) _ a' w' hs (fun j => by have := hl (j + 1); simpa [Nat.add_assoc, Nat.add_comm 1 j] using this) (by simp only [List.length_cons] at hk; omega) hin.set h') hm

theorem wpMix_mono {R' : Act → World → Prop} (h : ∀ a w, S w → R a w → R' a w) : ∀ {r : List Oper} {a : Act} {w : World}, wpMix P S ops ld R r a w → S w → wpMix P S ops ld R' r a w
  | [], _, _, hh, hS => h _ _ hS hh
  | o :: r, a, w, hh, hS => by
    simp only [wpMix] at hh ⊢
    split
    · rename_i hw
      rw [if_pos hw] at hh
      split
      · rename_i hl; rw [if_pos hl] at hh; obtain ⟨v, h1, h2⟩ := hh; exact ⟨v, h1, wpMix_mono h h2 hS⟩
      · rename_i hl
        rw [if_neg hl] at hh
        split
        · rename_i hl; rw [if_pos hl] at hh; obtain ⟨v, h1, h2⟩ := hh; exact ⟨v, h1, wpMix_mono h h2 hS⟩
        · rename_i hl; rw [if_neg hl] at hh; exact Oper.wp_mono (fun a' w' h' => ⟨h'.1, wpMix_mono h h'.2 h'.1⟩) hh
    · rename_i hw; rw [if_neg hw] at hh; exact wpMix_mono h hh hS

/-- **ONE WALK OF THE TEXT's ORDER SERVES EVERY ORDER**, in worlds of a class S that every operation keeps. -/
theorem wp_region_mix {id : Nat} {Q : Exit → Act → World → Prop} {a : Act} {w : World} {l : List Oper} (S : World → Prop) (ld : Op → Nat) (b : List Nat) (hm : P.follows .mixedOrders = true) (hB : mixB ld l b = true)
    (hS : S w.drew) (h : ∀ K : Act → World → Prop, (∀ a w, S w → Q .normal a w → K a w) → wpMix P S l.toArray ld K l a w.drew) : (Code.region id l.toArray true).wp P Q a w := by
  refine wp_region_any hm (wpAny_of_mAny (ld := ld) (S := S) (R := fun a w => Q .normal a w) (fun _ _ _ h => h) _ _ _ _ hS ?_)
  have := mAny_lex (P := P) (R := fun a w => Q .normal a w) hB l 0 (Array.replicate l.length false) a w.drew hS (by simp) (by simp) ⟨by simp, fun j hj => by simp [hj]⟩ (h _ (fun _ _ _ h => h))
  simpa using this

/-- The plain form: loads count as looking at the world. -/
theorem wp_mix {id : Nat} {Q : Exit → Act → World → Prop} {a : Act} {w : World} {l : List Oper} (hm : P.follows .mixedOrders = true) (hB : mixB kd l (depsOf l) = true)
    (h : ∀ K : Act → World → Prop, (∀ a w, Q .normal a w → K a w) → wpMix P (fun _ => True) l.toArray kd K l a w.drew) : (Code.region id l.toArray true).wp P Q a w :=
  wp_region_mix (fun _ => True) kd (depsOf l) hm hB trivial (fun K hK => h K fun a w hq => hK a w trivial hq)

/-- The plain form where conversions look at memory. -/
theorem wp_mixc {id : Nat} {Q : Exit → Act → World → Prop} {a : Act} {w : World} {l : List Oper} (hm : P.follows .mixedOrders = true) (hB : mixB kdc l (depsOf l) = true)
    (h : ∀ K : Act → World → Prop, (∀ a w, Q .normal a w → K a w) → wpMix P (fun _ => True) l.toArray kdc K l a w.drew) : (Code.region id l.toArray true).wp P Q a w :=
  wp_region_mix (fun _ => True) kdc (depsOf l) hm hB trivial (fun K hK => h K fun a w hq => hK a w trivial hq)

/-- Loads too must yield one value, in every world that keeps what the region found. -/
def kdS : Op → Nat
  | .load .. => 0
  | op => kd op

theorem wp_mixS {id : Nat} {Q : Exit → Act → World → Prop} {a : Act} {w : World} {l : List Oper} (hm : P.follows .mixedOrders = true) (hB : mixB kdS l (depsOf l) = true)
    (h : ∀ K : Act → World → Prop, (∀ a w', Q .normal a w' → K a w') → wpMix P (Below w.heap.size w) l.toArray kdS K l a w.drew) : (Code.region id l.toArray true).wp P Q a w :=
  wp_region_mix (Below w.heap.size w) kdS (depsOf l) hm hB ((Below.refl _ _).drew) fun _ hK => wpMix_mono (fun a w' hs hq => hK a w' hs hq) (h (fun a w' => Q .normal a w') (fun _ _ hq => hq)) ((Below.refl _ _).drew)

/-- One operation of the lexical walk, what follows behind a variable. -/
theorem mix_step {o : Oper} {rest : List Oper} {a : Act} {w : World}
    (h : ∀ K : Act → World → Prop, (∀ a w, wpMix P (fun _ => True) ops ld R rest a w → K a w) →
      if Region.wanted o (yielded ops a.tmps) = true then
        (if ld o.op = 0 then ∃ v, (∀ w', (execOp a.eval o).run P w' = .ok (.value v) w') ∧ K (a.put o.dst v) w
         else if ld o.op = 1 then ∃ v, (execOp a.eval o).run P w = .ok (.value v) w ∧ K (a.put o.dst v) w
         else o.wp P a w K noQ)
      else K (a.put o.dst undef) w) : wpMix P (fun _ => True) ops ld R (o :: rest) a w := by
  have := h (fun a w => True ∧ wpMix P (fun _ => True) ops ld R rest a w) (fun _ _ h => ⟨trivial, h⟩)
  simp only [wpMix, true_implies]
  simp only [true_and] at this ⊢
  exact this

/-- The same in a class: what turns the world must show that the class is kept. -/
theorem mixS_step {o : Oper} {rest : List Oper} {a : Act} {w : World}
    (h : ∀ K K' : Act → World → Prop, (∀ a w, wpMix P S ops ld R rest a w → K a w) → (∀ a w, S w ∧ wpMix P S ops ld R rest a w → K' a w) →
      if Region.wanted o (yielded ops a.tmps) = true then
        (if ld o.op = 0 then ∃ v, (∀ w', (execOp a.eval o).run P w' = .ok (.value v) w') ∧ K (a.put o.dst v) w
         else if ld o.op = 1 then ∃ v, (execOp a.eval o).run P w = .ok (.value v) w ∧ K (a.put o.dst v) w
         else o.wp P a w K' noQ)
      else K (a.put o.dst undef) w) : wpMix P S ops ld R (o :: rest) a w := by
  have := h (wpMix P S ops ld R rest) (fun a w => S w ∧ wpMix P S ops ld R rest a w) (fun _ _ h => h) (fun _ _ h => h)
  simp only [wpMix]
  split at this
  · rename_i hw
    rw [if_pos hw]
    split at this
    · rename_i hl
      rw [if_pos hl]
      obtain ⟨v, h1, h2⟩ := this
      exact ⟨v, fun w' _ => h1 w', h2⟩
    · rename_i hl
      rw [if_neg hl]
      exact this
  · rename_i hw
    rw [if_neg hw]
    exact this

theorem mixS_on {o : Oper} {rest : List Oper} {a : Act} {w : World} (hw : Region.wanted o (yielded ops a.tmps) = true)
    (h : ∀ K K' : Act → World → Prop, (∀ a w, wpMix P S ops ld R rest a w → K a w) → (∀ a w, S w ∧ wpMix P S ops ld R rest a w → K' a w) →
      (if ld o.op = 0 then ∃ v, (∀ w', (execOp a.eval o).run P w' = .ok (.value v) w') ∧ K (a.put o.dst v) w
         else if ld o.op = 1 then ∃ v, (execOp a.eval o).run P w = .ok (.value v) w ∧ K (a.put o.dst v) w
         else o.wp P a w K' noQ)) : wpMix P S ops ld R (o :: rest) a w :=
  mixS_step fun K K' hK hK' => by rw [if_pos hw]; exact h K K' hK hK'
theorem mixS_off {o : Oper} {rest : List Oper} {a : Act} {w : World} (hw : Region.wanted o (yielded ops a.tmps) = false)
    (h : ∀ K : Act → World → Prop, (∀ a w, wpMix P S ops ld R rest a w → K a w) → K (a.put o.dst undef) w) : wpMix P S ops ld R (o :: rest) a w :=
  mixS_step fun K K' hK _ => by rw [if_neg (by rw [hw]; exact Bool.false_ne_true)]; exact h K hK
theorem mix_on {o : Oper} {rest : List Oper} {a : Act} {w : World} (hw : Region.wanted o (yielded ops a.tmps) = true)
    (h : ∀ K : Act → World → Prop, (∀ a w, wpMix P (fun _ => True) ops ld R rest a w → K a w) →
      (if ld o.op = 0 then ∃ v, (∀ w', (execOp a.eval o).run P w' = .ok (.value v) w') ∧ K (a.put o.dst v) w
         else if ld o.op = 1 then ∃ v, (execOp a.eval o).run P w = .ok (.value v) w ∧ K (a.put o.dst v) w
         else o.wp P a w K noQ)) : wpMix P (fun _ => True) ops ld R (o :: rest) a w :=
  mix_step fun K hK => by rw [if_pos hw]; exact h K hK
theorem mix_off {o : Oper} {rest : List Oper} {a : Act} {w : World} (hw : Region.wanted o (yielded ops a.tmps) = false)
    (h : ∀ K : Act → World → Prop, (∀ a w, wpMix P (fun _ => True) ops ld R rest a w → K a w) → K (a.put o.dst undef) w) : wpMix P (fun _ => True) ops ld R (o :: rest) a w :=
  mix_step fun K hK => by rw [if_neg (by rw [hw]; exact Bool.false_ne_true)]; exact h K hK

/-- A load in a class: one value in every world of it. -/
theorem mixS_load {d : Option Tmp} {t ty : TypeId} {x : Operand} {pos : String} {after : Array Edge} {g : Option (Nat × Bool)} {rest : List Oper} {a : Act} {w : World} {p v : Value}
    (hl : ∀ w', S w' → (Instr.loadAt t p).run P w' = .ok v w') (hp : a.eval x = p) (hw : Region.wanted (Oper.mk d (.load t x) ty pos after g) (yielded ops a.tmps) = true)
    (h : wpMix P S ops kdS R rest (a.put d v) w) : wpMix P S ops kdS R (Oper.mk d (.load t x) ty pos after g :: rest) a w := by
  simp only [wpMix]
  rw [if_pos hw, if_pos (show kdS (.load t x) = 0 from rfl)]
  refine ⟨v, fun w' hs => ?_, h⟩
  have := hl w' hs
  subst hp
  simp [execOp, this]

/-- A load whose guard is down. -/
theorem mixS_skip {d : Option Tmp} {t ty : TypeId} {x : Operand} {pos : String} {after : Array Edge} {g : Option (Nat × Bool)} {rest : List Oper} {a : Act} {w : World}
    (hw : Region.wanted (Oper.mk d (.load t x) ty pos after g) (yielded ops a.tmps) = false)
    (h : wpMix P S ops kdS R rest (a.put d undef) w) : wpMix P S ops kdS R (Oper.mk d (.load t x) ty pos after g :: rest) a w := by
  simp only [wpMix]
  rw [if_neg (by rw [hw]; exact Bool.false_ne_true)]
  exact h

theorem mix_nil {a : Act} {w : World} (h : R a w) : wpMix P S ops ld R [] a w := h
end
end Go.Proofs.Ytdiahjeplaegnaa
