/- Joined texts: UnpP Unp UnpLit UnpKeep UnpRd UnpRead UnpDec UnpI UnpFirst. Each names its own conditions. -/
import Derived.Test.YtdiejemhhcaicaaDoorGh
import Derived.Test.YtdiejemhhcaicaaDoorGp
import Derived.Test.YtdiejemhhcaicaaDoorGd
import Derived.Test.YtdiejemhhcaicaaDoorGs
import Derived.Test.YtdiejemhhcaicaaDoorGa
import Derived.WalkMore

/- What the decoder of header blocks reads: plain functions on bytes, fields and the table. No program in sight; no condition beyond each lemma's own. -/
namespace Go.Proofs.YtdiejemhhcaicaaDoor
open Go.RowKit

/-- A number, and what is left behind it. -/
def numP (bs : List UInt8) (bits : Int) : Option (Nat × List UInt8) := if (getR bs bits).2.2 = 0 then some ((getR bs bits).1, bs.drop (getR bs bits).2.1) else none
def isCoded (bs : List UInt8) : Bool := match bs with | [] => false | b :: _ => decide (128 ≤ b.toNat)
/-- A string behind its length: as it is, or coded. -/
def rawD (c : Bool) (s : List UInt8) : Option (List UInt8) := if c then (if (dec 16384 (bitsB s) 0 0 []).2 = 0 then some (dec 16384 (bitsB s) 0 0 []).1 else none) else some s
def textD (bs : List UInt8) : Option (List UInt8 × List UInt8) :=
  match numP bs 7 with
  | none => none
  | some (n, r) => if 16384 < n ∨ r.length < n then none else match rawD (isCoded bs) (r.take n) with
    | none => none
    | some s => some (s, r.drop n)
/-- The field of an index. -/
def atD (L : List Fd) (i : Nat) : Option Fd :=
  if i ≤ 61 then (if 1 ≤ i then some ⟨⟨(tabF i).1.toArray⟩, ⟨(tabF i).2.toArray⟩, false⟩ else none)
  else if (getF L ((i : Int) - 61)).2 then some (getF L ((i : Int) - 61)).1 else none
/-- A literal's name: by an index, or as a string. -/
def nameD (L : List Fd) (i : Nat) (r : List UInt8) : Option (Fd × List UInt8) :=
  if 0 < i then (match atD L i with | none => none | some f => some (f, r))
  else (match textD r with | none => none | some (s, r1) => some (⟨⟨s.toArray⟩, ⟨#[]⟩, false⟩, r1))
def litD (L : List Fd) (bs : List UInt8) (bits : Int) : Option (Fd × List UInt8) :=
  match numP bs bits with
  | none => none
  | some (i, r) => match nameD L i r with
    | none => none
    | some (f, r1) => match textD r1 with
      | none => none
      | some (v, r2) => some (⟨f.n, ⟨v.toArray⟩, f.x⟩, r2)
/-- The decoder amid a block: what is left, the table, the limits and fields so far. -/
structure DSt where
  bs : List UInt8
  most : Int
  L : List Fd
  told : Nat
  acc : List Fd
/-- One representation. -/
def stepD (s : DSt) : Option DSt :=
  match s.bs with
  | [] => none
  | b :: _ =>
    if 128 ≤ b.toNat then (match numP s.bs 7 with
      | none => none
      | some (n, r) => match atD s.L n with
        | none => none
        | some f => some ⟨r, s.most, s.L, s.told, s.acc ++ [f]⟩)
    else if 64 ≤ b.toNat then (match litD s.L s.bs 6 with
      | none => none
      | some (f, r) => some ⟨r, s.most, addL s.most s.L f, s.told, s.acc ++ [f]⟩)
    else if 32 ≤ b.toNat then (match numP s.bs 5 with
      | none => none
      | some (n, r) => if s.acc ≠ [] ∨ 2 < s.told + 1 ∨ 4096 < n then none else some ⟨r, n, shr n s.L, s.told + 1, s.acc⟩)
    else (match litD s.L s.bs 4 with
      | none => none
      | some (f, r) => some ⟨r, s.most, s.L, s.told, s.acc ++ [⟨f.n, f.v, decide (16 ≤ b.toNat)⟩]⟩)
/-- All of a block: where it stops, and whether it was right. -/
def runD : Nat → DSt → DSt × Bool
  | 0, s => (s, s.bs.isEmpty)
  | n + 1, s => if s.bs = [] then (s, true) else match stepD s with
    | none => (s, false)
    | some s' => runD n s'

theorem total_snoc (l : List Fd) (f : Fd) : total (l ++ [f]) = total l + f.size := by simp [total]
theorem getG_ok : ∀ (q : Nat) (l : List UInt8) (i m : Nat), (getG q l i m).2.2 = 0 → i + 1 ≤ (getG q l i m).2.1 ∧ (getG q l i m).2.1 ≤ l.length ∧ (getG q l i m).1 ≤ 2147483647
  | 0, l, i, m, h => by simp [getG] at h
  | q + 1, l, i, m, h => by
    rcases hx : l[i]? with _ | x
    · rw [getG_none hx] at h
      simp at h
    · rw [getG_some hx] at h ⊢
      have hi := (List.getElem?_eq_some_iff.1 hx).1
      generalize m + x.toNat % 128 * 128 ^ (i - 1) = m2 at h ⊢
      by_cases h1 : 2147483647 < m2
      · rw [if_pos h1] at h
        simp at h
      · rw [if_neg h1] at h ⊢
        by_cases h2 : x.toNat < 128
        · rw [if_pos h2]
          dsimp only
          omega
        · rw [if_neg h2] at h ⊢
          have := getG_ok q l (i + 1) m2 h
          omega
theorem getR_ok {l : List UInt8} {bits : Int} (h : (getR l bits).2.2 = 0) : 1 ≤ (getR l bits).2.1 ∧ (getR l bits).2.1 ≤ l.length ∧ (getR l bits).1 ≤ 2147483647 := by
  unfold getR at h ⊢
  by_cases h0 : onesN bits = 0
  · rw [if_pos h0] at h
    simp at h
  · rw [if_neg h0] at h ⊢
    have hb : onesN bits ≤ 255 := by
      by_cases hb : 1 ≤ bits ∧ bits ≤ 8
      · have := ones_some hb.1 hb.2
        omega
      · exact absurd (ones_none hb) h0
    rcases hx : l[0]? with _ | x
    · rw [hx] at h
      simp at h
    · rw [hx] at h
      have hi := (List.getElem?_eq_some_iff.1 hx).1
      simp only at h ⊢
      by_cases h1 : x.toNat % ((onesN bits).toNat + 1) < (onesN bits).toNat
      · rw [if_pos h1]
        dsimp only
        omega
      · rw [if_neg h1] at h ⊢
        have := getG_ok 5 l 1 _ h
        omega
theorem numP_ok {bs r : List UInt8} {bits : Int} {n : Nat} (h : numP bs bits = some (n, r)) : r.length + 1 ≤ bs.length ∧ n ≤ 2147483647 := by
  unfold numP at h
  split at h
  · rename_i h0
    have := getR_ok h0
    injection h with h
    injection h with h1 h2
    subst h1 h2
    rw [List.length_drop]
    omega
  · cases h
theorem dec_most (most : Nat) : ∀ (t : List Bool) (c n : Nat) (o : List UInt8), o.length ≤ most → (dec most t c n o).1.length ≤ most
  | [], c, n, o, h => by
    unfold dec
    split
    · exact h
    · simp
  | b :: t, c, n, o, h => by
    rcases hs : decS (n + 1) (2 * c + b.toNat) with _ | s
    · rw [dec_first _ _ _ _ _ _ hs]
      exact dec_most most t _ _ o h
    · rw [dec_some _ _ _ _ _ _ _ hs]
      split
      · simp
      · split
        · simp
        · exact dec_most most t _ _ _ (by rw [List.length_append]; simp; omega)
theorem rawD_len {c : Bool} {s r : List UInt8} (h : rawD c s = some r) (hs : s.length ≤ 16384) : r.length ≤ 16384 := by
  unfold rawD at h
  split at h
  · split at h
    · injection h with h
      subst h
      exact dec_most 16384 _ _ _ _ (by simp)
    · cases h
  · injection h with h
    subst h
    exact hs
theorem textD_ok {bs s r : List UInt8} (h : textD bs = some (s, r)) : r.length + 1 ≤ bs.length ∧ s.length ≤ 16384 := by
  unfold textD at h
  rcases hn : numP bs 7 with _ | ⟨n, q⟩
  · rw [hn] at h
    cases h
  · rw [hn] at h
    simp only at h
    have := numP_ok hn
    split at h
    · cases h
    · rename_i hb
      rcases hr : rawD (isCoded bs) (q.take n) with _ | t
      · rw [hr] at h
        cases h
      · rw [hr] at h
        injection h with h
        injection h with h1 h2
        subst h1 h2
        refine ⟨by rw [List.length_drop]; omega, rawD_len hr (by rw [List.length_take]; omega)⟩
theorem cutP_len : ∀ l : List UInt8, (cutP l).1.length ≤ l.length ∧ (cutP l).2.length ≤ l.length
  | [] => by simp [cutP]
  | x :: l => by
    have := cutP_len l
    unfold cutP
    split
    · simp
    · simp only [List.length_cons]
      omega
theorem tabF_len (i : Nat) : (tabF i).1.length ≤ 100 ∧ (tabF i).2.length ≤ 100 := by
  unfold tabF
  have h : (tabL.getD (i - 1) []).length ≤ 100 := by
    rw [List.getD_eq_getElem?_getD]
    rcases hx : tabL[i - 1]? with _ | x
    · simp
    · exact tab_short x (List.mem_of_getElem? hx)
  have := cutP_len (tabL.getD (i - 1) [])
  omega
theorem getF_mem {L : List Fd} {i : Int} (h : (getF L i).2 = true) : (getF L i).1 ∈ L := by
  unfold getF at h ⊢
  split
  · rename_i hb
    have hl : L.length - i.toNat < L.length := by omega
    simp only [List.getElem?_eq_getElem hl, Option.getD_some]
    exact List.getElem_mem _
  · rename_i hb
    rw [if_neg hb] at h
    cases h
/-- What is known of a field that an index yields. -/
theorem atD_ok {L : List Fd} {i : Nat} {f : Fd} (h : atD L i = some f) : (f ∈ L ∧ 61 < i) ∨ (1 ≤ i ∧ i ≤ 61 ∧ f = ⟨⟨(tabF i).1.toArray⟩, ⟨(tabF i).2.toArray⟩, false⟩) := by
  unfold atD at h
  split at h
  · split at h
    · injection h with h
      exact .inr ⟨by omega, by omega, h.symm⟩
    · cases h
  · split at h
    · rename_i h1 h2
      injection h with h
      subst h
      exact .inl ⟨getF_mem h2, by omega⟩
    · cases h
theorem atD_small {L : List Fd} {i : Nat} {f : Fd} {M : Nat} (hL : total L ≤ M) (hM : 232 ≤ M) (h : atD L i = some f) : f.size ≤ M := by
  rcases atD_ok h with ⟨h1, _⟩ | ⟨_, _, rfl⟩
  · have := size_le_total h1
    omega
  · have := tabF_len i
    unfold Fd.size
    simp only [ByteArray.size, List.size_toArray]
    omega
theorem atD_plain {L : List Fd} {i : Nat} {f : Fd} (hL : ∀ g ∈ L, g.x = false) (h : atD L i = some f) : f.x = false := by
  rcases atD_ok h with ⟨h1, _⟩ | ⟨_, _, rfl⟩
  · exact hL f h1
  · rfl
theorem nameD_ok {L : List Fd} {i : Nat} {r r1 : List UInt8} {f : Fd} (hL : total L ≤ 4096) (hx : ∀ g ∈ L, g.x = false) (h : nameD L i r = some (f, r1)) : r1.length ≤ r.length ∧ f.n.size ≤ 16384 ∧ f.x = false := by
  unfold nameD at h
  split at h
  · rcases ha : atD L i with _ | g
    · rw [ha] at h
      cases h
    · rw [ha] at h
      injection h with h
      injection h with h1 h2
      subst h1 h2
      have := atD_small hL (by omega) ha
      unfold Fd.size at this
      exact ⟨Nat.le_refl _, by omega, atD_plain hx ha⟩
  · rcases ht : textD r with _ | ⟨s, q⟩
    · rw [ht] at h
      cases h
    · rw [ht] at h
      injection h with h
      injection h with h1 h2
      subst h1 h2
      have := textD_ok ht
      refine ⟨by omega, ?_, rfl⟩
      simp only [ByteArray.size, List.size_toArray]
      omega
theorem litD_ok {L : List Fd} {bs r : List UInt8} {bits : Int} {f : Fd} (hL : total L ≤ 4096) (hx : ∀ g ∈ L, g.x = false) (h : litD L bs bits = some (f, r)) : r.length + 1 ≤ bs.length ∧ f.size ≤ 32800 ∧ f.x = false := by
  unfold litD at h
  rcases hn : numP bs bits with _ | ⟨i, q⟩
  · rw [hn] at h
    cases h
  · rw [hn] at h
    simp only at h
    rcases hm : nameD L i q with _ | ⟨g, r1⟩
    · rw [hm] at h
      cases h
    · rw [hm] at h
      simp only at h
      rcases ht : textD r1 with _ | ⟨v, r2⟩
      · rw [ht] at h
        cases h
      · rw [ht] at h
        injection h with h
        injection h with h1 h2
        subst h1 h2
        have k1 := numP_ok hn
        have k2 := nameD_ok hL hx hm
        have k3 := textD_ok ht
        refine ⟨by omega, ?_, k2.2.2⟩
        unfold Fd.size
        simp only [ByteArray.size, List.size_toArray] at k2 ⊢
        omega
/-- What a representation leaves. -/
theorem stepD_ok {s s' : DSt} (h : stepD s = some s') (ht : TabOk s.most s.L) : s'.bs.length + 1 ≤ s.bs.length ∧ TabOk s'.most s'.L ∧ total s'.acc ≤ total s.acc + 32800 ∧ s'.acc.length ≤ s.acc.length + 1 := by
  have hL : total s.L ≤ 4096 := by have := ht.2.2.1; have := ht.2.1; omega
  have hx := ht.2.2.2
  unfold stepD at h
  rcases hb : s.bs with _ | ⟨b, rest⟩
  · rw [hb] at h
    cases h
  · rw [hb] at h
    simp only at h
    rw [← hb] at h ⊢
    by_cases h1 : 128 ≤ b.toNat
    · rw [if_pos h1] at h
      rcases hn : numP s.bs 7 with _ | ⟨n, r⟩
      · rw [hn] at h
        cases h
      · rw [hn] at h
        simp only at h
        rcases ha : atD s.L n with _ | f
        · rw [ha] at h
          cases h
        · rw [ha] at h
          injection h with h
          subst h
          have k1 := numP_ok hn
          have k2 := atD_small hL (by omega) ha
          refine ⟨k1.1, ht, ?_, by simp⟩
          dsimp only
          rw [total_snoc]
          omega
    · rw [if_neg h1] at h
      by_cases h2 : 64 ≤ b.toNat
      · rw [if_pos h2] at h
        rcases hn : litD s.L s.bs 6 with _ | ⟨f, r⟩
        · rw [hn] at h
          cases h
        · rw [hn] at h
          injection h with h
          subst h
          have k1 := litD_ok hL hx hn
          refine ⟨k1.1, ht.add f, ?_, by simp⟩
          dsimp only
          rw [total_snoc]
          omega
      · rw [if_neg h2] at h
        by_cases h3 : 32 ≤ b.toNat
        · rw [if_pos h3] at h
          rcases hn : numP s.bs 5 with _ | ⟨n, r⟩
          · rw [hn] at h
            cases h
          · rw [hn] at h
            simp only at h
            split at h
            · cases h
            · injection h with h
              subst h
              have k1 := numP_ok hn
              exact ⟨k1.1, ht.lim (m := (n : Int)) (by omega) (by omega), by simp, by simp⟩
        · rw [if_neg h3] at h
          rcases hn : litD s.L s.bs 4 with _ | ⟨f, r⟩
          · rw [hn] at h
            cases h
          · rw [hn] at h
            injection h with h
            subst h
            have k1 := litD_ok hL hx hn
            refine ⟨k1.1, ht, ?_, by simp⟩
            have := k1.2.1
            unfold Fd.size at this
            dsimp only
            rw [total_snoc]
            simp only [Fd.size]
            omega
theorem stepD_less {s s' : DSt} (h : stepD s = some s') : s'.bs.length + 1 ≤ s.bs.length := by
  unfold stepD at h
  rcases hb : s.bs with _ | ⟨b, rest⟩
  · rw [hb] at h
    cases h
  · rw [hb] at h
    simp only at h
    rw [← hb] at h ⊢
    have lit : ∀ (bits : Int) (f : Fd) (r : List UInt8), litD s.L s.bs bits = some (f, r) → r.length + 1 ≤ s.bs.length := fun bits f r hl => by
      unfold litD at hl
      rcases hn : numP s.bs bits with _ | ⟨i, q⟩
      · rw [hn] at hl
        cases hl
      · rw [hn] at hl
        simp only at hl
        have k1 := numP_ok hn
        rcases hm : nameD s.L i q with _ | ⟨g, r1⟩
        · rw [hm] at hl
          cases hl
        · rw [hm] at hl
          simp only at hl
          have k2 : r1.length ≤ q.length := by
            unfold nameD at hm
            split at hm
            · rcases ha : atD s.L i with _ | g
              · rw [ha] at hm
                cases hm
              · rw [ha] at hm
                injection hm with hm
                injection hm with _ h2
                rw [h2]
                exact Nat.le_refl _
            · rcases ht : textD q with _ | ⟨t, q2⟩
              · rw [ht] at hm
                cases hm
              · rw [ht] at hm
                injection hm with hm
                injection hm with _ h2
                have := textD_ok ht
                rw [← h2]
                omega
          rcases ht : textD r1 with _ | ⟨v, r2⟩
          · rw [ht] at hl
            cases hl
          · rw [ht] at hl
            injection hl with hl
            injection hl with _ h2
            have := textD_ok ht
            rw [← h2]
            omega
    split at h
    · rcases hn : numP s.bs 7 with _ | ⟨n, r⟩
      · rw [hn] at h
        cases h
      · rw [hn] at h
        simp only at h
        rcases ha : atD s.L n with _ | f
        · rw [ha] at h
          cases h
        · rw [ha] at h
          injection h with h
          subst h
          exact (numP_ok hn).1
    · split at h
      · rcases hn : litD s.L s.bs 6 with _ | ⟨f, r⟩
        · rw [hn] at h
          cases h
        · rw [hn] at h
          injection h with h
          subst h
          exact lit 6 f r hn
      · split at h
        · rcases hn : numP s.bs 5 with _ | ⟨n, r⟩
          · rw [hn] at h
            cases h
          · rw [hn] at h
            simp only at h
            split at h
            · cases h
            · injection h with h
              subst h
              exact (numP_ok hn).1
        · rcases hn : litD s.L s.bs 4 with _ | ⟨f, r⟩
          · rw [hn] at h
            cases h
          · rw [hn] at h
            injection h with h
            subst h
            exact lit 4 f r hn
theorem runD_fuel : ∀ (k n m : Nat) (s : DSt), s.bs.length ≤ k → s.bs.length ≤ n → s.bs.length ≤ m → runD n s = runD m s
  | 0, n, m, s, hk, hn, hm => by
    have hb : s.bs = [] := List.eq_nil_of_length_eq_zero (by omega)
    cases n <;> cases m <;> simp [runD, hb]
  | k + 1, n, m, s, hk, hn, hm => by
    by_cases hb : s.bs = []
    · cases n <;> cases m <;> simp [runD, hb]
    · have hl := List.length_pos_iff.2 hb
      cases n with
      | zero => omega
      | succ n =>
        cases m with
        | zero => omega
        | succ m =>
          rw [runD, runD, if_neg hb, if_neg hb]
          rcases hs : stepD s with _ | s'
          · rfl
          · have := stepD_less hs
            exact runD_fuel k n m s' (by omega) (by omega) (by omega)
/-- All of a block. -/
def decR (s : DSt) : DSt × Bool := runD s.bs.length s
theorem decR_nil {s : DSt} (h : s.bs = []) : decR s = (s, true) := by
  unfold decR
  rw [h]
  simp [runD, h]
theorem decR_none {s : DSt} (hb : s.bs ≠ []) (h : stepD s = none) : decR s = (s, false) := by
  unfold decR
  have hl := List.length_pos_iff.2 hb
  obtain ⟨n, hn⟩ : ∃ n, s.bs.length = n + 1 := ⟨s.bs.length - 1, by omega⟩
  rw [hn, runD, if_neg hb, h]
theorem decR_some {s s' : DSt} (h : stepD s = some s') : decR s = decR s' := by
  have hlt := stepD_less h
  have hb : s.bs ≠ [] := by rintro hb; rw [hb] at hlt; simp at hlt
  unfold decR
  obtain ⟨n, hn⟩ : ∃ n, s.bs.length = n + 1 := ⟨s.bs.length - 1, by omega⟩
  rw [hn, runD, if_neg hb, h]
  exact runD_fuel s'.bs.length _ _ _ (Nat.le_refl _) (by omega) (Nat.le_refl _)
/-- A block's decoding leaves the table right. -/
theorem decR_ok : ∀ (k : Nat) (s : DSt), s.bs.length ≤ k → TabOk s.most s.L → TabOk (decR s).1.most (decR s).1.L ∧ total (decR s).1.acc ≤ total s.acc + 32800 * s.bs.length ∧ (decR s).1.acc.length ≤ s.acc.length + s.bs.length
  | 0, s, hk, ht => by
    have hb : s.bs = [] := List.eq_nil_of_length_eq_zero (by omega)
    rw [decR_nil hb]
    exact ⟨ht, by dsimp only; omega, by dsimp only; omega⟩
  | k + 1, s, hk, ht => by
    by_cases hb : s.bs = []
    · rw [decR_nil hb]
      exact ⟨ht, by dsimp only; omega, by dsimp only; omega⟩
    · rcases hs : stepD s with _ | s'
      · rw [decR_none hb hs]
        exact ⟨ht, by dsimp only; omega, by dsimp only; omega⟩
      · rw [decR_some hs]
        obtain ⟨h1, h2, h3, h4⟩ := stepD_ok hs ht
        obtain ⟨k1, k2, k3⟩ := decR_ok k s' (by omega) h2
        refine ⟨k1, ?_, by omega⟩
        have : 32800 * (s'.bs.length + 1) ≤ 32800 * s.bs.length := Nat.mul_le_mul_left _ h1
        omega
/-- A decoder's start on a block. -/
def startD (bs : List UInt8) (most : Int) (L : List Fd) : DSt := ⟨bs, most, L, 0, []⟩
end Go.Proofs.YtdiejemhhcaicaaDoor

/- The decoder's inner calls, each once: number, text, at. Conditions: at most 2^30 bytes. -/
namespace Go.Proofs.YtdiejemhhcaicaaDoor
open Go.RowKit
attribute [local go_sem] kd kdS
attribute [local go_sem ↓] sliced_word
attribute [local go_sem] offA_zero

/-- A slice that lies in the other's block. -/
def Sub (A' A : Option Addr) : Prop := ∀ ad', A' = some ad' → ∃ ad, A = some ad ∧ ad'.block = ad.block
theorem Sub.refl (A : Option Addr) : Sub A A := fun ad h => ⟨ad, h, rfl⟩
theorem Sub.trans {A B C : Option Addr} (h : Sub A B) (k : Sub B C) : Sub A C := fun ad hd => by
  obtain ⟨a1, h1, e1⟩ := h ad hd
  obtain ⟨a2, h2, e2⟩ := k a1 h1
  exact ⟨a2, h2, e1.trans e2⟩
theorem Sub.off {A B : Option Addr} {F : List Nat} (h : Sub A B) (k : Off B F) : Off A F := fun ad hd hm => by
  obtain ⟨a1, h1, e1⟩ := h ad hd
  exact k a1 h1 (e1 ▸ hm)
theorem sub_offA (A : Option Addr) (k c size : Nat) : Sub (offA A k c size) A := fun ad hd => by
  unfold offA at hd
  split at hd
  · exact ⟨ad, hd, rfl⟩
  · rcases A with _ | a
    · cases hd
    · injection hd with hd
      exact ⟨a, rfl, by rw [← hd, add_block]⟩

/-- A block that is read, in memory: its bytes, its table, its room, what its fields take, and their row. -/
structure KbAt (w : World) (g gt : Nat) (A : Option Addr) (n c : Nat) (bs : List UInt8) (room tot : Int) (v : Value) : Prop where
  blk : Blk w g 56 #[.slice A n c, .pointer (some ⟨gt, 0, none⟩), .int .i64 room, .int .i64 tot, v]
  bytes : Bs w A n bs
  nc : n ≤ c
  off : Off A [g]
  lt : ∀ ad, A = some ad → ad.block < w.heap.size
section
variable {w w' : World} {g gt : Nat} {A A' : Option Addr} {n c n' c' : Nat} {bs bs' : List UInt8} {room tot : Int} {v : Value} {F : List Nat}
theorem KbAt.below (h : KbAt w g gt A n c bs room tot v) (hb : Below w.heap.size w w') : KbAt w' g gt A n c bs room tot v :=
  ⟨h.blk.below hb h.blk.lt, h.bytes.below hb, h.nc, h.off, fun ad e => Nat.lt_of_lt_of_le (h.lt ad e) hb.size⟩
theorem KbAt.turned (h : KbAt w g gt A n c bs room tot v) (ht : Turned F w w') (hg : g ∉ F) (hA : Off A F) : KbAt w' g gt A n c bs room tot v :=
  ⟨h.blk.turned ht hg, h.bytes.turned ht hA, h.nc, h.off, fun ad e => Nat.lt_of_lt_of_le (h.lt ad e) ht.size⟩
/-- The bytes are set to others of the same block. -/
theorem KbAt.cut (h : KbAt w g gt A n c bs room tot v) (hb : Bs w A' n' bs') (hc : n' ≤ c') (hs : Sub A' A) : KbAt (w.setCell ⟨g, 0, none⟩ (.slice A' n' c')) g gt A' n' c' bs' room tot v := by
  have h1 := h.blk.set_ 0 (.slice A' n' c')
  exact ⟨by simpa using h1, hb.turned ((Turned.refl [g] w).setCell (by simp) _) (hs.off h.off), hc, hs.off h.off, fun ad e => by
    obtain ⟨a1, h1, e1⟩ := hs ad e
    have := h.lt a1 h1
    rw [e1]
    simpa [World.setCell] using this⟩
theorem KbAt.len (h : KbAt w g gt A n c bs room tot v) : bs.length = n := h.bytes.len
end

/-- What number answers. -/
def KnPost (g gt : Nat) (A : Option Addr) (bs : List UInt8) (room tot : Int) (v : Value) (bits : Int) (w : World) (e : Ending) (w' : World) : Prop :=
  match numP bs bits with
  | none => e = .returned (.tuple #[.int .i64 0, .bool false]) ∧ w = w'
  | some (m, r) => ∃ A' n' c', e = .returned (.tuple #[.int .i64 m, .bool true]) ∧ KbAt w' g gt A' n' c' r room tot v ∧ Turned [g] w w' ∧ Sub A' A

set_option maxHeartbeats 400000 in
set_option maxRecDepth 100000 in
theorem knum_any (bits : Int) (g gt : Nat) (A : Option Addr) (n c : Nat) (bs : List UInt8) (room tot : Int) (v : Value) (w : World) (h : KbAt w g gt A n c bs room tot v) (hn : n ≤ 1073741824) :
    Calls Tryd.prog 37 #[.pointer (some ⟨g, 0, none⟩), .int .i64 bits] w (KnPost g gt A bs room tot v bits w) := by
  have H := hid h
  have hlen := h.len
  have hnc := h.nc
  have c0 := h.blk.cell 0
  have f0 := h.blk.frozen 0
  simp at c0
  obtain ⟨m, k, er, hR⟩ : ∃ m k er, getR bs bits = (m, k, er) := ⟨_, _, _, rfl⟩
  have HR := hid hR
  clear h hR
  go_enter Tryd.func37, Tryd.ntmps37
  go_wp2_with fail
  refine (get_all A n c bs bits w H.out.bytes (by omega)).mono ?_
  rw [HR.out]
  rintro e w1 ⟨rfl, rfl⟩
  by_cases her : er = 0
  · subst her
    have hk := getR_ok (l := bs) (bits := bits) (by rw [HR.out])
    rw [HR.out, hlen] at hk
    simp only at hk
    obtain ⟨hk1, hk2, hk3⟩ := hk
    have HL := hid hlen
    clear hlen
    have hki : (0 : Int) ≤ k := by omega
    have hkn : (k : Int) ≤ n := by omega
    have hkc : (n : Int) ≤ c := by omega
    go_wp2_with fail
    go_ret2
    unfold KnPost numP
    rw [HR.out, if_pos rfl]
    exact ⟨_, _, _, rfl, H.out.cut (H.out.bytes.off hk2 hnc) (by omega) (sub_offA _ _ _ _), (Turned.refl _ _).setCell (by simp) _, sub_offA _ _ _ _⟩
  · have her2 : (er != 0) = true := by simpa using her
    clear hlen
    go_wp2_with fail
    go_ret2
    unfold KnPost numP
    rw [HR.out, if_neg her]
    exact ⟨rfl, rfl⟩

theorem and128 : ∀ n : Nat, n < 256 → Go.bits .and .u8 (n : Int) 128 = if 128 ≤ n then 128 else 0 := by decide +kernel

/-- What text answers. -/
def KtPost (g gt : Nat) (A : Option Addr) (bs : List UInt8) (room tot : Int) (v : Value) (w : World) (e : Ending) (w' : World) : Prop :=
  match textD bs with
  | none => e = .returned (.tuple #[.string ⟨#[]⟩, .bool false]) ∧ Turned [g] w w'
  | some (s, r) => ∃ A' n' c', e = .returned (.tuple #[.string ⟨s.toArray⟩, .bool true]) ∧ KbAt w' g gt A' n' c' r room tot v ∧ Turned [g] w w' ∧ Sub A' A
theorem textD_none {bs : List UInt8} (h : numP bs 7 = none) : textD bs = none := by unfold textD; rw [h]
theorem textD_long {bs r : List UInt8} {n : Nat} (h : numP bs 7 = some (n, r)) (hb : 16384 < n ∨ r.length < n) : textD bs = none := by unfold textD; rw [h]; simp only; rw [if_pos hb]
theorem textD_raw {bs r : List UInt8} {n : Nat} (h : numP bs 7 = some (n, r)) (hb : ¬ (16384 < n ∨ r.length < n)) (hc : isCoded bs = false) : textD bs = some (r.take n, r.drop n) := by
  unfold textD
  rw [h]
  simp only
  rw [if_neg hb, hc]
  rfl
theorem textD_coded {bs r : List UInt8} {n : Nat} (h : numP bs 7 = some (n, r)) (hb : ¬ (16384 < n ∨ r.length < n)) (hc : isCoded bs = true) {t : List UInt8} {er : Nat} (hd : dec 16384 (bitsB (r.take n)) 0 0 [] = (t, er)) :
    textD bs = if er = 0 then some (t, r.drop n) else none := by
  unfold textD rawD
  rw [h]
  simp only
  rw [if_neg hb, hc, hd]
  simp only [if_true]
  by_cases he : er = 0
  · rw [if_pos he, if_pos he]
  · rw [if_neg he, if_neg he]

set_option maxHeartbeats 1000000 in
set_option maxRecDepth 100000 in
theorem ktext_any (g gt : Nat) (A : Option Addr) (n c : Nat) (bs : List UInt8) (room tot : Int) (v : Value) (w : World) (h : KbAt w g gt A n c bs room tot v) (hn : n ≤ 1073741824) :
    Calls Tryd.prog 50 #[.pointer (some ⟨g, 0, none⟩)] w (KtPost g gt A bs room tot v w) := by
  have H := hid h
  have hlen := h.len
  have hnc := h.nc
  have c0 := h.blk.cell 0
  have f0 := h.blk.frozen 0
  simp at c0
  have HN := hid (knum_any 7 g gt A n c bs room tot v w h hn)
  have HL := hid hlen
  rcases Nat.eq_zero_or_pos n with h0 | h0
  · subst h0
    have hbs : bs = [] := List.eq_nil_of_length_eq_zero hlen
    have HNN : Hid (numP bs 7 = none) := hid (by rw [hbs]; rfl)
    clear h hlen hbs
    go_enter Tryd.func50, Tryd.ntmps50
    go_wp2_with fail
    refine HN.out.mono ?_
    intro e w1 hp
    unfold KnPost at hp
    rw [HNN.out] at hp
    obtain ⟨rfl, rfl⟩ := hp
    go_wp2_with fail
    go_ret2
    unfold KtPost
    rw [textD_none HNN.out]
    exact ⟨rfl, Turned.refl _ _⟩
  · obtain ⟨b, o, x, rfl, hx, hc⟩ := h.bytes.at_ h0
    rw [Nat.add_zero] at hc
    have hc1 : w.cell? ⟨b, o, none⟩ = some (.int .u8 (x.toNat : Int)) := hc
    have hx1 := x.toNat_lt
    have hcd : isCoded bs = decide (128 ≤ x.toNat) := by
      rcases bs with _ | ⟨y, t⟩
      · cases hx
      · obtain rfl : y = x := by simpa using hx
        rfl
    have HCD := hid hcd
    have hand := and128 x.toNat hx1
    have hcx : 128 ≤ x.toNat ∨ ¬ 128 ≤ x.toNat := by omega
    have key : ∀ cb : Bool, (Go.bits .and .u8 (x.toNat : Int) 128 = if cb then 128 else 0) → isCoded bs = cb → Calls Tryd.prog 50 #[.pointer (some ⟨g, 0, none⟩)] w (KtPost g gt (some ⟨b, o, none⟩) bs room tot v w) := by
      intro cb hand hcb
      have HCB := hid hcb
      clear hcx hcd h hlen hcb hc hx HCD
      rcases cb with _ | _
      · simp only [Bool.false_eq_true, if_false] at hand
        go_enter Tryd.func50, Tryd.ntmps50
        go_wp2_with fail
        refine HN.out.mono ?_
        intro e w1 hp
        unfold KnPost at hp
        rcases hnp : numP bs 7 with _ | ⟨m, r⟩
        · have HNN := hid hnp
          rw [hnp] at hp
          obtain ⟨rfl, rfl⟩ := hp
          clear hnp
          go_wp2_with fail
          go_ret2
          unfold KtPost
          rw [textD_none HNN.out]
          exact ⟨rfl, Turned.refl _ _⟩
        · have HNN := hid hnp
          have hmx := (numP_ok hnp).2
          rw [hnp] at hp
          simp only at hp
          obtain ⟨A1, n1, c1, rfl, hk1, ht1, hs1⟩ := hp
          have HK1 := hid hk1
          have HT1 := hid ht1
          have HS1 := hid hs1
          have HL1 := hid hk1.len
          have hnc1 := hk1.nc
          have hn1n : n1 ≤ 1073741824 := by
            have := (numP_ok hnp).1
            have := hk1.len
            have := HL.out
            omega
          clear c0 hc1 f0
          have c0 := hk1.blk.cell 0
          have f0 := hk1.blk.frozen 0
          simp at c0
          clear hnp hk1 ht1 hs1
          by_cases hb1 : 16384 < m
          · go_wp2_with fail
            go_ret2
            unfold KtPost
            rw [textD_long HNN.out (.inl hb1)]
            exact ⟨rfl, HT1.out⟩
          by_cases hb2 : n1 < m
          · go_wp2_with fail
            go_ret2
            unfold KtPost
            rw [textD_long HNN.out (.inr (by rw [HL1.out]; exact hb2))]
            exact ⟨rfl, HT1.out⟩
          have HBAD := hid (show ¬ (16384 < m ∨ r.length < m) by rw [HL1.out]; omega)
          have hbt : Bs w1 A1 m (r.take m) := HK1.out.bytes.to (by omega)
          have hk2 : KbAt (w1.setCell ⟨g, 0, none⟩ (.slice (offA A1 m c1 1) (n1 - m) (c1 - m))) g gt (offA A1 m c1 1) (n1 - m) (c1 - m) (r.drop m) room tot v := HK1.out.cut (HK1.out.bytes.off (by omega) hnc1) (by omega) (sub_offA _ _ _ _)
          have ht2 : Turned [g] w1 (w1.setCell ⟨g, 0, none⟩ (.slice (offA A1 m c1 1) (n1 - m) (c1 - m))) := (Turned.refl _ _).setCell (by simp) _
          have hbt2 : Bs (w1.setCell ⟨g, 0, none⟩ (.slice (offA A1 m c1 1) (n1 - m) (c1 - m))) A1 m (r.take m) := hbt.turned ht2 HK1.out.off
          have HK2 := hid hk2
          have HT2 := hid (HT1.out.trans ht2 (fun b hb => .inl hb))
          have HBT2 := hid hbt2
          have HS2 := hid ((sub_offA A1 m c1 1).trans HS1.out)
          clear hbt hk2 ht2 hbt2
          have kc := run_str (P := Tryd.prog) (c := c1) HBT2.out 29 9 5 Tryd.underlying29 Tryd.underlying5 Tryd.underlying9
          go_wp2_with fail
          go_ret2
          unfold KtPost
          rw [textD_raw HNN.out HBAD.out HCB.out]
          exact ⟨_, _, _, rfl, HK2.out, HT2.out, HS2.out⟩
      · simp only [if_true] at hand
        go_enter Tryd.func50, Tryd.ntmps50
        go_wp2_with fail
        refine HN.out.mono ?_
        intro e w1 hp
        unfold KnPost at hp
        rcases hnp : numP bs 7 with _ | ⟨m, r⟩
        · have HNN := hid hnp
          rw [hnp] at hp
          obtain ⟨rfl, rfl⟩ := hp
          clear hnp
          go_wp2_with fail
          go_ret2
          unfold KtPost
          rw [textD_none HNN.out]
          exact ⟨rfl, Turned.refl _ _⟩
        · have HNN := hid hnp
          have hmx := (numP_ok hnp).2
          rw [hnp] at hp
          simp only at hp
          obtain ⟨A1, n1, c1, rfl, hk1, ht1, hs1⟩ := hp
          have HK1 := hid hk1
          have HT1 := hid ht1
          have HS1 := hid hs1
          have HL1 := hid hk1.len
          have hnc1 := hk1.nc
          have hn1n : n1 ≤ 1073741824 := by
            have := (numP_ok hnp).1
            have := hk1.len
            have := HL.out
            omega
          clear c0 hc1 f0
          have c0 := hk1.blk.cell 0
          have f0 := hk1.blk.frozen 0
          simp at c0
          clear hnp hk1 ht1 hs1
          by_cases hb1 : 16384 < m
          · go_wp2_with fail
            go_ret2
            unfold KtPost
            rw [textD_long HNN.out (.inl hb1)]
            exact ⟨rfl, HT1.out⟩
          by_cases hb2 : n1 < m
          · go_wp2_with fail
            go_ret2
            unfold KtPost
            rw [textD_long HNN.out (.inr (by rw [HL1.out]; exact hb2))]
            exact ⟨rfl, HT1.out⟩
          have HBAD := hid (show ¬ (16384 < m ∨ r.length < m) by rw [HL1.out]; omega)
          have hbt : Bs w1 A1 m (r.take m) := HK1.out.bytes.to (by omega)
          have hk2 : KbAt (w1.setCell ⟨g, 0, none⟩ (.slice (offA A1 m c1 1) (n1 - m) (c1 - m))) g gt (offA A1 m c1 1) (n1 - m) (c1 - m) (r.drop m) room tot v := HK1.out.cut (HK1.out.bytes.off (by omega) hnc1) (by omega) (sub_offA _ _ _ _)
          have ht2 : Turned [g] w1 (w1.setCell ⟨g, 0, none⟩ (.slice (offA A1 m c1 1) (n1 - m) (c1 - m))) := (Turned.refl _ _).setCell (by simp) _
          have hbt2 : Bs (w1.setCell ⟨g, 0, none⟩ (.slice (offA A1 m c1 1) (n1 - m) (c1 - m))) A1 m (r.take m) := hbt.turned ht2 HK1.out.off
          have HK2 := hid hk2
          have HT2 := hid (HT1.out.trans ht2 (fun b hb => .inl hb))
          have HBT2 := hid hbt2
          have HS2 := hid ((sub_offA A1 m c1 1).trans HS1.out)
          clear hbt hk2 ht2 hbt2
          obtain ⟨t, er, hd⟩ : ∃ t er, dec 16384 (bitsB (r.take m)) 0 0 [] = (t, er) := ⟨_, _, rfl⟩
          have HD := hid hd
          have HTC := hid (textD_coded HNN.out HBAD.out HCB.out hd)
          clear hd
          go_wp2_with fail
          generalize w1.setCell ⟨g, 0, none⟩ (.slice (offA A1 m c1 1) (n1 - m) (c1 - m)) = w2 at HK2 HT2 HBT2 ⊢
          refine (dec_calls A1 m c1 16384 (r.take m) t er w2 HBT2.out (by omega) HD.out).mono ?_
          rintro e w3 ⟨A3, c3, rfl, hb3, hbw3⟩
          have HB3 := hid hb3
          have HK3 := hid (HK2.out.below hbw3)
          have HT3 := hid (HT2.out.trans (Turned.of_below (F := []) hbw3) (fun b hb => by cases hb))
          clear hbw3 hb3
          by_cases her : er = 0
          · subst her
            have kc := run_str (P := Tryd.prog) (c := c3) HB3.out 29 9 5 Tryd.underlying29 Tryd.underlying5 Tryd.underlying9
            go_wp2_with fail
            go_ret2
            unfold KtPost
            rw [HTC.out, if_pos trivial]
            exact ⟨_, _, _, rfl, HK3.out, HT3.out, HS2.out⟩
          · have her2 : ((er : Int) != 0) = true := by simp; omega
            go_wp2_with fail
            go_ret2
            unfold KtPost
            rw [HTC.out, if_neg her]
            exact ⟨rfl, HT3.out⟩
    rcases hcx with hcx | hcx
    · exact key true (by rw [hand, if_pos hcx]; rfl) (by rw [hcd, decide_eq_true hcx])
    · exact key false (by rw [hand, if_neg hcx]; rfl) (by rw [hcd, decide_eq_false hcx])

/-- What at answers. -/
def KaPost (L : List Fd) (i : Nat) (w : World) (e : Ending) (w' : World) : Prop :=
  ∃ (f : Fd), e = .returned (.tuple #[f.val, .bool (atD L i).isSome]) ∧ (∀ f', atD L i = some f' → f = f') ∧ Below w.heap.size w w'

set_option maxHeartbeats 1000000 in
set_option maxRecDepth 100000 in
theorem kat_any (i : Nat) (B g gt : Nat) (F : List Nat) (most : Int) (L : List Fd) (A : Option Addr) (n c : Nat) (bs : List UInt8) (room tot : Int) (v : Value) (w : World) (h : KbAt w g gt A n c bs room tot v) (ht : Tb w B F gt most L) (hL : L.length ≤ 4096) (hi : i ≤ 2147483647) :
    Calls Tryd.prog 38 #[.pointer (some ⟨g, 0, none⟩), .int .i64 i] w (KaPost L i w) := by
  have H := hid h
  have HT := hid ht
  have c1 := h.blk.cell 1
  simp at c1
  clear h ht
  go_enter Tryd.func38, Tryd.ntmps38
  go_upto_region 1 with fail
  obtain ⟨wa, hwa⟩ : ∃ wa, w.alloc (.cells #[.string ⟨#[]⟩, .string ⟨#[]⟩, .bool false] 31) = wa := ⟨_, rfl⟩
  have hRa : Blk wa w.heap.size 31 #[.string ⟨#[]⟩, .string ⟨#[]⟩, .bool false] := by rw [← hwa]; exact Blk.new w _ _
  have hba : Below w.heap.size w wa := by rw [← hwa]; exact (Below.refl _ _).alloc (Nat.le_refl _) _
  have HR := hid hRa
  have HB := hid hba
  have d1 := below_keep hba _ _ c1
  rw [hwa]
  clear hRa hba hwa c1
  have HEND : Hid (∀ (w2 : World) (f : Fd), Below wa.heap.size wa w2 → Below w.heap.size w (((w2.setCell ⟨w.heap.size, 0, none⟩ (.string f.n)).setCell ⟨w.heap.size, 1, none⟩ (.string f.v)).setCell ⟨w.heap.size, 2, none⟩ (.bool f.x))) := hid (fun w2 f hb => by
    have ht : Turned [w.heap.size] w2 (((w2.setCell ⟨w.heap.size, 0, none⟩ (.string f.n)).setCell ⟨w.heap.size, 1, none⟩ (.string f.v)).setCell ⟨w.heap.size, 2, none⟩ (.bool f.x)) := (((Turned.refl _ _).setCell (by simp) _).setCell (by simp) _).setCell (by simp) _
    have hw := HB.out.trans (hb.mono HB.out.size)
    exact hw.trans (ht.below (by simp) hw.size))
  by_cases h61 : i ≤ 61
  · have h61i : (i : Int) ≤ 61 := by omega
    by_cases h1 : 1 ≤ i
    · have HA : Hid (atD L i = some ⟨⟨(tabF i).1.toArray⟩, ⟨(tabF i).2.toArray⟩, false⟩) := hid (by unfold atD; rw [if_pos h61, if_pos h1])
      have hg := get_yes i wa h1 h61
      unfold fdv sv at hg
      have HG := hid hg
      clear hg
      generalize tabF i = q at HA HG
      go_wp2_with fail
      refine (HG.out).mono ?_
      rintro e w2 ⟨rfl, hb2⟩
      have hR2 := HR.out.below hb2 HR.out.lt
      have k0 := hR2.cell 0
      have k1 := hR2.cell 1
      have k2 := hR2.cell 2
      have kf0 := hR2.frozen 0
      have kf1 := hR2.frozen 1
      have kf2 := hR2.frozen 2
      have HBZ := hid (HEND.out w2 ⟨⟨q.1.toArray⟩, ⟨q.2.toArray⟩, false⟩ hb2)
      have hB := ((hR2.set_ 0 (.string ⟨q.1.toArray⟩)).set_ 1 (.string ⟨q.2.toArray⟩)).set_ 2 (.bool false)
      simp at k0 k1 k2
      have HBB := hid hB
      clear hR2 hb2 d1 hB
      go_wp2_with fail
      clear k0 k1 k2 kf0 kf1 kf2
      have hB := HBB.out
      have hbz := HBZ.out
      clear HBB HBZ HEND
      generalize ((w2.setCell ⟨w.heap.size, 0, none⟩ (.string ⟨q.1.toArray⟩)).setCell ⟨w.heap.size, 1, none⟩ (.string ⟨q.2.toArray⟩)).setCell ⟨w.heap.size, 2, none⟩ (.bool false) = wz at hB hbz ⊢
      have k0 := hB.cell 0
      have k1 := hB.cell 1
      have k2 := hB.cell 2
      simp at k0 k1 k2
      refine bodyPost_ret (v := .tuple #[.agg #[.string ⟨q.1.toArray⟩, .string ⟨q.2.toArray⟩, .bool false], .bool true]) (by simp [results, Tryd.results38, go_sem, k0, k1, k2]) rfl ⟨⟨⟨q.1.toArray⟩, ⟨q.2.toArray⟩, false⟩, by rw [HA.out]; rfl, fun f' hf => by rw [HA.out] at hf; injection hf, hbz⟩
    · obtain rfl : i = 0 := by omega
      have HA : Hid (atD L 0 = none) := hid rfl
      go_wp2_with fail
      refine (get_no 0 wa (.inl (by omega))).mono ?_
      rintro e w2 ⟨rfl, hb2⟩
      have hR2 := HR.out.below hb2 HR.out.lt
      have k0 := hR2.cell 0
      have k1 := hR2.cell 1
      have k2 := hR2.cell 2
      have kf0 := hR2.frozen 0
      have kf1 := hR2.frozen 1
      have kf2 := hR2.frozen 2
      have HBZ := hid (HEND.out w2 ⟨ByteArray.empty, ByteArray.empty, false⟩ hb2)
      have hB := ((hR2.set_ 0 (.string ByteArray.empty)).set_ 1 (.string ByteArray.empty)).set_ 2 (.bool false)
      simp at k0 k1 k2
      have HBB := hid hB
      clear hR2 hb2 d1 hB
      go_wp2_with fail
      clear k0 k1 k2 kf0 kf1 kf2
      have hB := HBB.out
      have hbz := HBZ.out
      clear HBB HBZ HEND
      generalize ((w2.setCell ⟨w.heap.size, 0, none⟩ (.string ByteArray.empty)).setCell ⟨w.heap.size, 1, none⟩ (.string ByteArray.empty)).setCell ⟨w.heap.size, 2, none⟩ (.bool false) = wz at hB hbz ⊢
      have k0 := hB.cell 0
      have k1 := hB.cell 1
      have k2 := hB.cell 2
      simp at k0 k1 k2
      refine bodyPost_ret (v := .tuple #[.agg #[.string ByteArray.empty, .string ByteArray.empty, .bool false], .bool false]) (by simp [results, Tryd.results38, go_sem, k0, k1, k2]) rfl ⟨⟨ByteArray.empty, ByteArray.empty, false⟩, by rw [HA.out]; rfl, (fun (f' : Fd) (hf : atD L 0 = some f') => by rw [HA.out] at hf; cases hf), hbz⟩
  · have h61i : (61 : Int) < i := by omega
    have hw1 := IntWalk.i64_in ((i : Int) - 61) (by omega)
    have HA : Hid (atD L i = if (getF L ((i : Int) - 61)).2 then some (getF L ((i : Int) - 61)).1 else none) := hid (by unfold atD; rw [if_neg h61])
    have HG := hid (get_tb ((i : Int) - 61) (HT.out.below HB.out) (by omega))
    generalize (getF L ((i : Int) - 61)).1 = y at HA HG
    generalize (getF L ((i : Int) - 61)).2 = yb at HA HG
    go_wp2_with fail
    refine (HG.out).mono ?_
    rintro e w2 ⟨rfl, hb2⟩
    have hR2 := HR.out.below hb2 HR.out.lt
    have k0 := hR2.cell 0
    have k1 := hR2.cell 1
    have k2 := hR2.cell 2
    have kf0 := hR2.frozen 0
    have kf1 := hR2.frozen 1
    have kf2 := hR2.frozen 2
    have HBZ := hid (HEND.out w2 y hb2)
    have hB := ((hR2.set_ 0 (.string y.n)).set_ 1 (.string y.v)).set_ 2 (.bool y.x)
    simp at k0 k1 k2
    have HBB := hid hB
    clear hR2 hb2 d1 hB
    go_wp2_with fail
    clear k0 k1 k2 kf0 kf1 kf2
    have hB := HBB.out
    have hbz := HBZ.out
    clear HBB HBZ HEND
    generalize ((w2.setCell ⟨w.heap.size, 0, none⟩ (.string y.n)).setCell ⟨w.heap.size, 1, none⟩ (.string y.v)).setCell ⟨w.heap.size, 2, none⟩ (.bool y.x) = wz at hB hbz ⊢
    have k0 := hB.cell 0
    have k1 := hB.cell 1
    have k2 := hB.cell 2
    simp at k0 k1 k2
    refine bodyPost_ret (v := .tuple #[.agg #[.string y.n, .string y.v, .bool y.x], .bool yb]) (by simp [results, Tryd.results38, go_sem, k0, k1, k2]) rfl ⟨y, by rw [HA.out]; cases yb <;> rfl, fun f' hf => by rw [HA.out] at hf; cases yb with | false => cases hf | true => injection hf, hbz⟩
end Go.Proofs.YtdiejemhhcaicaaDoor

/- The decoder's literal, once (printed by gen_lit.py). Conditions: at most 2^30 bytes. -/
namespace Go.Proofs.YtdiejemhhcaicaaDoor
open Go.RowKit
attribute [local go_sem] kd kdS

/-- What literal answers. -/
def KlPost (L : List Fd) (g gt : Nat) (A : Option Addr) (bs : List UInt8) (room tot : Int) (v : Value) (bits : Int) (w : World) (e : Ending) (w' : World) : Prop :=
  match litD L bs bits with
  | none => ∃ f : Fd, e = .returned (.tuple #[f.val, .bool false]) ∧ Turned [g] w w'
  | some (f, r) => ∃ A' n' c', e = .returned (.tuple #[f.val, .bool true]) ∧ KbAt w' g gt A' n' c' r room tot v ∧ Turned [g] w w' ∧ Sub A' A
theorem nameD_ix_none {L : List Fd} {i : Nat} (h : 0 < i) (r : List UInt8) (ha : atD L i = none) : nameD L i r = none := by unfold nameD; rw [if_pos h, ha]
theorem nameD_ix_some {L : List Fd} {i : Nat} (h : 0 < i) (r : List UInt8) {f : Fd} (ha : atD L i = some f) : nameD L i r = some (f, r) := by unfold nameD; rw [if_pos h, ha]
theorem nameD_text_none {L : List Fd} {i : Nat} (h : ¬ 0 < i) {r : List UInt8} (ha : textD r = none) : nameD L i r = none := by unfold nameD; rw [if_neg h, ha]
theorem nameD_text_some {L : List Fd} {i : Nat} (h : ¬ 0 < i) {r s r1 : List UInt8} (ha : textD r = some (s, r1)) : nameD L i r = some (⟨⟨s.toArray⟩, ⟨#[]⟩, false⟩, r1) := by unfold nameD; rw [if_neg h, ha]

set_option maxHeartbeats 2000000 in
set_option maxRecDepth 100000 in
theorem klit_any (bits : Int) (B g gt : Nat) (F : List Nat) (most : Int) (L : List Fd) (A : Option Addr) (n c : Nat) (bs : List UInt8) (room tot : Int) (v : Value) (w : World) (h : KbAt w g gt A n c bs room tot v) (ht : Tb w B F gt most L) (hg : g ∉ F) (hL : TabOk most L) (hn : n ≤ 1073741824) :
    Calls Tryd.prog 36 #[.pointer (some ⟨g, 0, none⟩), .int .i64 bits] w (KlPost L g gt A bs room tot v bits w) := by
  have H := hid h
  have HT := hid ht
  have HLO := hid hL
  have HGN := hid hg
  have hgl := h.blk.lt
  have hLl := hL.len
  have HOL := hid (show ∀ ad, A = some ad → ad.block < w.heap.size from h.lt)
  have HBL := hid (show bs.length ≤ 1073741824 by have := h.len; omega)
  clear h ht hg hL
  go_enter Tryd.func36, Tryd.ntmps36
  go_upto_region 1 with fail
  obtain ⟨wa, hwa⟩ : ∃ wa, w.alloc (.cells #[.string ⟨#[]⟩, .string ⟨#[]⟩, .bool false] 31) = wa := ⟨_, rfl⟩
  have hRa : Blk wa w.heap.size 31 #[.string ⟨#[]⟩, .string ⟨#[]⟩, .bool false] := by rw [← hwa]; exact Blk.new w _ _
  have hba : Below w.heap.size w wa := by rw [← hwa]; exact (Below.refl _ _).alloc (Nat.le_refl _) _
  rw [hwa]
  obtain ⟨fr, hfr⟩ : ∃ fr, w.heap.size = fr := ⟨_, rfl⟩
  have HFR := hid (show w.heap.size ≤ fr by omega)
  have hgr : g < fr := by omega
  have HOR := hid (show Off A [fr] from fun ad e hm => by have := H.out.lt ad e; have := List.mem_singleton.1 hm; omega)
  have HK1 := hid (H.out.below hba)
  have HTB1 := hid (HT.out.below hba)
  have HT1 := hid (Turned.of_below (F := [g]) hba)
  rw [hfr] at hRa ⊢
  have HR1 := hid hRa
  clear hba hwa hfr hRa H HT
  have hrl := HR1.out.lt
  go_wp2_with fail
  refine (knum_any bits g gt A n c bs room tot v wa HK1.out hn).mono ?_
  intro e w2 hp
  unfold KnPost at hp
  rcases hnp : numP bs bits with _ | ⟨m, r⟩
  · have HLN : Hid (litD L bs bits = none) := hid (by unfold litD; rw [hnp])
    rw [hnp] at hp
    obtain ⟨rfl, rfl⟩ := hp
    have hR := HR1.out
    have y0 := hR.cell 0
    have y1 := hR.cell 1
    have y2 := hR.cell 2
    have yf0 := hR.frozen 0
    have yf1 := hR.frozen 1
    have yf2 := hR.frozen 2
    simp at y0 y1 y2
    clear hR hnp
    go_wp2_with fail
    clear y0 yf0 y1 yf1 y2 yf2
    have hz := ((HR1.out.set_ 0 (.string ⟨#[]⟩)).set_ 1 (.string ⟨#[]⟩)).set_ 2 (.bool false)
    have htz : Turned [fr] wa (((wa.setCell ⟨fr, 0, none⟩ (.string ⟨#[]⟩)).setCell ⟨fr, 1, none⟩ (.string ⟨#[]⟩)).setCell ⟨fr, 2, none⟩ (.bool false)) := (((Turned.refl _ _).setCell (by simp) _).setCell (by simp) _).setCell (by simp) _
    have htw : Turned [g] w (((wa.setCell ⟨fr, 0, none⟩ (.string ⟨#[]⟩)).setCell ⟨fr, 1, none⟩ (.string ⟨#[]⟩)).setCell ⟨fr, 2, none⟩ (.bool false)) := HT1.out.trans htz (fun b hb => .inr (by have := List.mem_singleton.1 hb; have := HFR.out; omega))
    generalize ((wa.setCell ⟨fr, 0, none⟩ (.string ⟨#[]⟩)).setCell ⟨fr, 1, none⟩ (.string ⟨#[]⟩)).setCell ⟨fr, 2, none⟩ (.bool false) = wz at hz htz htw ⊢
    have z0 := hz.cell 0
    have z1 := hz.cell 1
    have z2 := hz.cell 2
    simp at z0 z1 z2
    refine bodyPost_ret (v := .tuple #[.agg #[.string ⟨#[]⟩, .string ⟨#[]⟩, .bool false], .bool false]) (by simp [results, Tryd.results36, go_sem, z0, z1, z2]) rfl ?_
    unfold KlPost
    rw [HLN.out]
    exact ⟨⟨⟨#[]⟩, ⟨#[]⟩, false⟩, rfl, htw⟩
  · have HNN := hid hnp
    have hmx := (numP_ok hnp).2
    have HRL := hid (show r.length ≤ 1073741824 by have := (numP_ok hnp).1; have := HBL.out; omega)
    rw [hnp] at hp
    simp only at hp
    obtain ⟨A2, n2, c2, rfl, hk2, ht2, hs2⟩ := hp
    have HK2 := hid hk2
    have HS2 := hid hs2
    have HTB2 := hid (HTB1.out.turned ht2 (fun k hk hm => HGN.out (by have := List.mem_singleton.1 hm; subst this; exact hk)))
    have HR2 := hid (HR1.out.turned ht2 (by simp; omega))
    have HT2 := hid (HT1.out.trans ht2 (fun b hb => .inl hb))
    have hs2' := ht2.size
    clear hnp hk2 ht2 hs2 HK1 HTB1 HR1 HT1
    go_upto_region 5 with fail
    obtain ⟨w3, hw3⟩ : ∃ w3, w2.alloc (.cells #[.string ⟨#[]⟩, .string ⟨#[]⟩, .bool false] 31) = w3 := ⟨_, rfl⟩
    have hF3 : Blk w3 w2.heap.size 31 #[.string ⟨#[]⟩, .string ⟨#[]⟩, .bool false] := by rw [← hw3]; exact Blk.new w2 _ _
    have hb3 : Below w2.heap.size w2 w3 := by rw [← hw3]; exact (Below.refl _ _).alloc (Nat.le_refl _) _
    rw [hw3]
    obtain ⟨fb, hfb⟩ : ∃ fb, w2.heap.size = fb := ⟨_, rfl⟩
    have HFB := hid (show fr < fb by omega)
    have HGF := hid (show g < fr ∧ g < fb by omega)
    have hrb : fr ≠ fb := by omega
    have hbr : fb ≠ fr := by omega
    have HOB := hid (show Off A [fb] from fun ad e hm => by have := List.mem_singleton.1 hm; have h1 := HOL.out ad e; have := HFR.out; omega)
    have HK3 := hid (HK2.out.below hb3)
    have HTB3 := hid (HTB2.out.below hb3)
    have HR3 := hid (HR2.out.below hb3 HR2.out.lt)
    have HT3 := hid (HT2.out.trans (Turned.of_below (F := []) hb3) (fun b hb => by cases hb))
    rw [hfb] at hF3 ⊢
    have HF3 := hid hF3
    clear hb3 hw3 hfb hF3 HK2 HTB2 HR2 HT2 hs2'
    have hfl := HF3.out.lt
    have hr3 := HR3.out
    have y0 := hr3.cell 0
    have y1 := hr3.cell 1
    have y2 := hr3.cell 2
    have yf0 := hr3.frozen 0
    have yf1 := hr3.frozen 1
    have yf2 := hr3.frozen 2
    simp at y0 y1 y2
    clear hr3
    by_cases hm : 0 < m
    · have hmi : (0 : Int) < m := by omega
      go_wp2_with fail
      refine (kat_any m B g gt F most L A2 n2 c2 r room tot v w3 HK3.out HTB3.out hLl hmx).mono ?_
      rintro e w4 ⟨f, rfl, hf, hb4⟩
      have HK4 := hid (HK3.out.below hb4)
      have HR4 := hid (HR3.out.below hb4 HR3.out.lt)
      have hF4 := HF3.out.below hb4 HF3.out.lt
      have HT4 := hid (HT3.out.trans (Turned.of_below (F := []) hb4) (fun b hb => by cases hb))
      have HF4 := hid hF4
      have hr4 := HR4.out
      clear y0 yf0 y1 yf1 y2 yf2
      have k0 := hF4.cell 0
      have k1 := hF4.cell 1
      have k2 := hF4.cell 2
      have kf0 := hF4.frozen 0
      have kf1 := hF4.frozen 1
      have kf2 := hF4.frozen 2
      simp at k0 k1 k2
      have y0 := hr4.cell 0
      have y1 := hr4.cell 1
      have y2 := hr4.cell 2
      have yf0 := hr4.frozen 0
      have yf1 := hr4.frozen 1
      have yf2 := hr4.frozen 2
      simp at y0 y1 y2
      clear hF4 hr4 HK3 HTB3 HR3 HT3 HF3 hb4
      rcases hat : atD L m with _ | f1
      · have HLN : Hid (litD L bs bits = none) := hid (by unfold litD; rw [HNN.out]; simp only; rw [nameD_ix_none hm r hat])
        have HAT := hid hat
        have hsn : (atD L m).isSome = false := by rw [hat]; rfl
        clear hat hf
        go_wp2_with fail
        have ht5 : Turned [fb] w4 (((w4.setCell ⟨fb, 0, none⟩ (.string f.n)).setCell ⟨fb, 1, none⟩ (.string f.v)).setCell ⟨fb, 2, none⟩ (.bool f.x)) := (((Turned.refl _ _).setCell (by simp) _).setCell (by simp) _).setCell (by simp) _
        have HF5 : Hid (Blk (((w4.setCell ⟨fb, 0, none⟩ (.string f.n)).setCell ⟨fb, 1, none⟩ (.string f.v)).setCell ⟨fb, 2, none⟩ (.bool f.x)) fb 31 #[.string f.n, .string f.v, .bool f.x]) := hid (by simpa using ((HF4.out.set_ 0 (.string f.n)).set_ 1 (.string f.v)).set_ 2 (.bool f.x))
        have HR5 := hid (HR4.out.turned ht5 (by have := HFB.out; simp; omega))
        have HT5 := hid (HT4.out.trans ht5 (fun b hb => .inr (by have := List.mem_singleton.1 hb; have := HFB.out; have := HFR.out; omega)))
        clear ht5
        clear k0 kf0 k1 kf1 k2 kf2 y0 yf0 y1 yf1 y2 yf2
        generalize (((w4.setCell ⟨fb, 0, none⟩ (.string f.n)).setCell ⟨fb, 1, none⟩ (.string f.v)).setCell ⟨fb, 2, none⟩ (.bool f.x)) = w5 at HF5 HR5 HT5 ⊢
        have hz := ((HR5.out.set_ 0 (.string ⟨#[]⟩)).set_ 1 (.string ⟨#[]⟩)).set_ 2 (.bool false)
        have htz : Turned [fr] w5 (((w5.setCell ⟨fr, 0, none⟩ (.string ⟨#[]⟩)).setCell ⟨fr, 1, none⟩ (.string ⟨#[]⟩)).setCell ⟨fr, 2, none⟩ (.bool false)) := (((Turned.refl _ _).setCell (by simp) _).setCell (by simp) _).setCell (by simp) _
        have htw : Turned [g] w (((w5.setCell ⟨fr, 0, none⟩ (.string ⟨#[]⟩)).setCell ⟨fr, 1, none⟩ (.string ⟨#[]⟩)).setCell ⟨fr, 2, none⟩ (.bool false)) := HT5.out.trans htz (fun b hb => .inr (by have := List.mem_singleton.1 hb; have := HFR.out; omega))
        generalize ((w5.setCell ⟨fr, 0, none⟩ (.string ⟨#[]⟩)).setCell ⟨fr, 1, none⟩ (.string ⟨#[]⟩)).setCell ⟨fr, 2, none⟩ (.bool false) = wz at hz htz htw ⊢
        have z0 := hz.cell 0
        have z1 := hz.cell 1
        have z2 := hz.cell 2
        simp at z0 z1 z2
        refine bodyPost_ret (v := .tuple #[.agg #[.string ⟨#[]⟩, .string ⟨#[]⟩, .bool false], .bool false]) (by simp [results, Tryd.results36, go_sem, z0, z1, z2]) rfl ?_
        unfold KlPost
        rw [HLN.out]
        exact ⟨⟨⟨#[]⟩, ⟨#[]⟩, false⟩, rfl, htw⟩
      · obtain rfl : f = f1 := hf f1 hat
        have HNM : Hid (nameD L m r = some (f, r)) := hid (nameD_ix_some hm r hat)
        have hsn : (atD L m).isSome = true := by rw [hat]; rfl
        clear hat hf
        go_upto_region 10 with fail
        have ht5 : Turned [fb] w4 (((w4.setCell ⟨fb, 0, none⟩ (.string f.n)).setCell ⟨fb, 1, none⟩ (.string f.v)).setCell ⟨fb, 2, none⟩ (.bool f.x)) := (((Turned.refl _ _).setCell (by simp) _).setCell (by simp) _).setCell (by simp) _
        have HF5 : Hid (Blk (((w4.setCell ⟨fb, 0, none⟩ (.string f.n)).setCell ⟨fb, 1, none⟩ (.string f.v)).setCell ⟨fb, 2, none⟩ (.bool f.x)) fb 31 #[.string f.n, .string f.v, .bool f.x]) := hid (by simpa using ((HF4.out.set_ 0 (.string f.n)).set_ 1 (.string f.v)).set_ 2 (.bool f.x))
        have HR5 := hid (HR4.out.turned ht5 (by have := HFB.out; simp; omega))
        have HT5 := hid (HT4.out.trans ht5 (fun b hb => .inr (by have := List.mem_singleton.1 hb; have := HFB.out; have := HFR.out; omega)))
        have HK5 := hid (HK4.out.turned ht5 (by have := HGF.out; simp; omega) (HS2.out.off HOB.out))
        have HS5 := HS2
        clear ht5 hsn HK4 HR4 HT4 HF4
        clear k0 kf0 k1 kf1 k2 kf2 y0 yf0 y1 yf1 y2 yf2
        generalize (((w4.setCell ⟨fb, 0, none⟩ (.string f.n)).setCell ⟨fb, 1, none⟩ (.string f.v)).setCell ⟨fb, 2, none⟩ (.bool f.x)) = w5 at HF5 HR5 HT5 HK5 ⊢
        have hF5 := HF5.out
        have hr5 := HR5.out
        have k0 := hF5.cell 0
        have k1 := hF5.cell 1
        have k2 := hF5.cell 2
        have kf0 := hF5.frozen 0
        have kf1 := hF5.frozen 1
        have kf2 := hF5.frozen 2
        simp at k0 k1 k2
        have y0 := hr5.cell 0
        have y1 := hr5.cell 1
        have y2 := hr5.cell 2
        have yf0 := hr5.frozen 0
        have yf1 := hr5.frozen 1
        have yf2 := hr5.frozen 2
        simp at y0 y1 y2
        clear hF5 hr5
        go_wp2_with fail
        refine (ktext_any g gt A2 n2 c2 r room tot v w5 HK5.out (by have := HK5.out.len; have := HRL.out; omega)).mono ?_
        intro e w6 hp
        unfold KtPost at hp
        rcases htx : textD r with _ | ⟨s2, r2⟩
        · have HLN : Hid (litD L bs bits = none) := hid (by unfold litD; rw [HNN.out]; simp only; rw [HNM.out]; simp only; rw [htx])
          rw [htx] at hp
          obtain ⟨rfl, ht6⟩ := hp
          have hF6 := HF5.out.turned ht6 (by have := HGF.out; simp; omega)
          have HF6 := hid hF6
          have HR6 := hid (HR5.out.turned ht6 (by have := HGF.out; simp; omega))
          have HT6 := hid (HT5.out.trans ht6 (fun b hb => .inl hb))
          clear ht6 htx
          clear k0 kf0 k1 kf1 k2 kf2 y0 yf0 y1 yf1 y2 yf2
          have k0 := hF6.cell 0
          have k1 := hF6.cell 1
          have k2 := hF6.cell 2
          have kf0 := hF6.frozen 0
          have kf1 := hF6.frozen 1
          have kf2 := hF6.frozen 2
          simp at k0 k1 k2
          have hr6 := HR6.out
          have y0 := hr6.cell 0
          have y1 := hr6.cell 1
          have y2 := hr6.cell 2
          have yf0 := hr6.frozen 0
          have yf1 := hr6.frozen 1
          have yf2 := hr6.frozen 2
          simp at y0 y1 y2
          clear hF6 hr6
          go_wp2_with fail
          have hRb := HR6.out.turned (w' := (w6.setCell ⟨fb, 1, none⟩ (.string ⟨#[]⟩))) ((Turned.refl [fb] _).setCell (by simp) _) (by have := HFB.out; simp; omega)
          have HRb := hid hRb
          have HTb := hid (HT6.out.trans (w2 := (w6.setCell ⟨fb, 1, none⟩ (.string ⟨#[]⟩))) ((Turned.refl [fb] _).setCell (by simp) _) (fun b hb => .inr (by have := List.mem_singleton.1 hb; have := HFB.out; have := HFR.out; omega)))
          clear hRb
          clear k0 kf0 k1 kf1 k2 kf2 y0 yf0 y1 yf1 y2 yf2
          generalize (w6.setCell ⟨fb, 1, none⟩ (.string ⟨#[]⟩)) = wy at HRb HTb ⊢
          have hz := ((HRb.out.set_ 0 (.string f.n)).set_ 1 (.string ⟨#[]⟩)).set_ 2 (.bool f.x)
          have htz : Turned [fr] wy (((wy.setCell ⟨fr, 0, none⟩ (.string f.n)).setCell ⟨fr, 1, none⟩ (.string ⟨#[]⟩)).setCell ⟨fr, 2, none⟩ (.bool f.x)) := (((Turned.refl _ _).setCell (by simp) _).setCell (by simp) _).setCell (by simp) _
          have htw : Turned [g] w (((wy.setCell ⟨fr, 0, none⟩ (.string f.n)).setCell ⟨fr, 1, none⟩ (.string ⟨#[]⟩)).setCell ⟨fr, 2, none⟩ (.bool f.x)) := HTb.out.trans htz (fun b hb => .inr (by have := List.mem_singleton.1 hb; have := HFR.out; omega))
          generalize ((wy.setCell ⟨fr, 0, none⟩ (.string f.n)).setCell ⟨fr, 1, none⟩ (.string ⟨#[]⟩)).setCell ⟨fr, 2, none⟩ (.bool f.x) = wz at hz htz htw ⊢
          have z0 := hz.cell 0
          have z1 := hz.cell 1
          have z2 := hz.cell 2
          simp at z0 z1 z2
          refine bodyPost_ret (v := .tuple #[.agg #[.string f.n, .string ⟨#[]⟩, .bool f.x], .bool false]) (by simp [results, Tryd.results36, go_sem, z0, z1, z2]) rfl ?_
          unfold KlPost
          rw [HLN.out]
          exact ⟨⟨f.n, ⟨#[]⟩, f.x⟩, rfl, htw⟩
        · have HLS : Hid (litD L bs bits = some (⟨f.n, ⟨s2.toArray⟩, f.x⟩, r2)) := hid (by unfold litD; rw [HNN.out]; simp only; rw [HNM.out]; simp only; rw [htx])
          rw [htx] at hp
          simp only at hp
          obtain ⟨A6, n6, c6, rfl, hk6, ht6, hs6⟩ := hp
          have hF6 := HF5.out.turned ht6 (by have := HGF.out; simp; omega)
          have HF6 := hid hF6
          have HR6 := hid (HR5.out.turned ht6 (by have := HGF.out; simp; omega))
          have HT6 := hid (HT5.out.trans ht6 (fun b hb => .inl hb))
          have HK6 := hid hk6
          have HS6 := hid (hs6.trans HS5.out)
          clear ht6 htx hk6 hs6
          clear k0 kf0 k1 kf1 k2 kf2 y0 yf0 y1 yf1 y2 yf2
          have k0 := hF6.cell 0
          have k1 := hF6.cell 1
          have k2 := hF6.cell 2
          have kf0 := hF6.frozen 0
          have kf1 := hF6.frozen 1
          have kf2 := hF6.frozen 2
          simp at k0 k1 k2
          have hr6 := HR6.out
          have y0 := hr6.cell 0
          have y1 := hr6.cell 1
          have y2 := hr6.cell 2
          have yf0 := hr6.frozen 0
          have yf1 := hr6.frozen 1
          have yf2 := hr6.frozen 2
          simp at y0 y1 y2
          clear hF6 hr6
          go_wp2_with fail
          have hRb := HR6.out.turned (w' := (w6.setCell ⟨fb, 1, none⟩ (.string ⟨s2.toArray⟩))) ((Turned.refl [fb] _).setCell (by simp) _) (by have := HFB.out; simp; omega)
          have HRb := hid hRb
          have HTb := hid (HT6.out.trans (w2 := (w6.setCell ⟨fb, 1, none⟩ (.string ⟨s2.toArray⟩))) ((Turned.refl [fb] _).setCell (by simp) _) (fun b hb => .inr (by have := List.mem_singleton.1 hb; have := HFB.out; have := HFR.out; omega)))
          have HKb := hid (HK6.out.turned (w' := (w6.setCell ⟨fb, 1, none⟩ (.string ⟨s2.toArray⟩))) ((Turned.refl [fb] _).setCell (by simp) _) (by have := HGF.out; simp; omega) (HS6.out.off HOB.out))
          clear hRb
          clear k0 kf0 k1 kf1 k2 kf2 y0 yf0 y1 yf1 y2 yf2
          generalize (w6.setCell ⟨fb, 1, none⟩ (.string ⟨s2.toArray⟩)) = wy at HRb HTb HKb ⊢
          have hz := ((HRb.out.set_ 0 (.string f.n)).set_ 1 (.string ⟨s2.toArray⟩)).set_ 2 (.bool f.x)
          have htz : Turned [fr] wy (((wy.setCell ⟨fr, 0, none⟩ (.string f.n)).setCell ⟨fr, 1, none⟩ (.string ⟨s2.toArray⟩)).setCell ⟨fr, 2, none⟩ (.bool f.x)) := (((Turned.refl _ _).setCell (by simp) _).setCell (by simp) _).setCell (by simp) _
          have htw : Turned [g] w (((wy.setCell ⟨fr, 0, none⟩ (.string f.n)).setCell ⟨fr, 1, none⟩ (.string ⟨s2.toArray⟩)).setCell ⟨fr, 2, none⟩ (.bool f.x)) := HTb.out.trans htz (fun b hb => .inr (by have := List.mem_singleton.1 hb; have := HFR.out; omega))
          have hkz := HKb.out.turned htz (by have := HGF.out; simp; omega) (HS6.out.off HOR.out)
          generalize ((wy.setCell ⟨fr, 0, none⟩ (.string f.n)).setCell ⟨fr, 1, none⟩ (.string ⟨s2.toArray⟩)).setCell ⟨fr, 2, none⟩ (.bool f.x) = wz at hz htz htw hkz ⊢
          have z0 := hz.cell 0
          have z1 := hz.cell 1
          have z2 := hz.cell 2
          simp at z0 z1 z2
          refine bodyPost_ret (v := .tuple #[.agg #[.string f.n, .string ⟨s2.toArray⟩, .bool f.x], .bool true]) (by simp [results, Tryd.results36, go_sem, z0, z1, z2]) rfl ?_
          unfold KlPost
          rw [HLS.out]
          exact ⟨A6, n6, c6, rfl, hkz, htw, HS6.out⟩
    · have hmi : ¬ (0 : Int) < m := by omega
      go_wp2_with fail
      refine (ktext_any g gt A2 n2 c2 r room tot v w3 HK3.out (by have := HK3.out.len; have := HRL.out; omega)).mono ?_
      intro e w4 hp
      unfold KtPost at hp
      rcases htn : textD r with _ | ⟨s1, r1⟩
      · have HLN : Hid (litD L bs bits = none) := hid (by unfold litD; rw [HNN.out]; simp only; rw [nameD_text_none hm htn])
        rw [htn] at hp
        obtain ⟨rfl, ht4⟩ := hp
        have HR4 := hid (HR3.out.turned ht4 (by have := HGF.out; simp; omega))
        have hF4 := HF3.out.turned ht4 (by have := HGF.out; simp; omega)
        have HT4 := hid (HT3.out.trans ht4 (fun b hb => .inl hb))
        have HF4 := hid hF4
        have hr4 := HR4.out
        clear y0 yf0 y1 yf1 y2 yf2
        have k0 := hF4.cell 0
        have k1 := hF4.cell 1
        have k2 := hF4.cell 2
        have kf0 := hF4.frozen 0
        have kf1 := hF4.frozen 1
        have kf2 := hF4.frozen 2
        simp at k0 k1 k2
        have y0 := hr4.cell 0
        have y1 := hr4.cell 1
        have y2 := hr4.cell 2
        have yf0 := hr4.frozen 0
        have yf1 := hr4.frozen 1
        have yf2 := hr4.frozen 2
        simp at y0 y1 y2
        clear hF4 hr4 HK3 HTB3 HR3 HT3 HF3 ht4 htn
        go_wp2_with fail
        have ht5 : Turned [fb] w4 (w4.setCell ⟨fb, 0, none⟩ (.string ⟨#[]⟩)) := (Turned.refl _ _).setCell (by simp) _
        have HF5 : Hid (Blk (w4.setCell ⟨fb, 0, none⟩ (.string ⟨#[]⟩)) fb 31 #[.string ⟨#[]⟩, .string ⟨#[]⟩, .bool false]) := hid (by simpa using HF4.out.set_ 0 (.string ⟨#[]⟩))
        have HR5 := hid (HR4.out.turned ht5 (by have := HFB.out; simp; omega))
        have HT5 := hid (HT4.out.trans ht5 (fun b hb => .inr (by have := List.mem_singleton.1 hb; have := HFB.out; have := HFR.out; omega)))
        clear ht5
        clear k0 kf0 k1 kf1 k2 kf2 y0 yf0 y1 yf1 y2 yf2
        generalize (w4.setCell ⟨fb, 0, none⟩ (.string ⟨#[]⟩)) = w5 at HF5 HR5 HT5 ⊢
        have hz := ((HR5.out.set_ 0 (.string ⟨#[]⟩)).set_ 1 (.string ⟨#[]⟩)).set_ 2 (.bool false)
        have htz : Turned [fr] w5 (((w5.setCell ⟨fr, 0, none⟩ (.string ⟨#[]⟩)).setCell ⟨fr, 1, none⟩ (.string ⟨#[]⟩)).setCell ⟨fr, 2, none⟩ (.bool false)) := (((Turned.refl _ _).setCell (by simp) _).setCell (by simp) _).setCell (by simp) _
        have htw : Turned [g] w (((w5.setCell ⟨fr, 0, none⟩ (.string ⟨#[]⟩)).setCell ⟨fr, 1, none⟩ (.string ⟨#[]⟩)).setCell ⟨fr, 2, none⟩ (.bool false)) := HT5.out.trans htz (fun b hb => .inr (by have := List.mem_singleton.1 hb; have := HFR.out; omega))
        generalize ((w5.setCell ⟨fr, 0, none⟩ (.string ⟨#[]⟩)).setCell ⟨fr, 1, none⟩ (.string ⟨#[]⟩)).setCell ⟨fr, 2, none⟩ (.bool false) = wz at hz htz htw ⊢
        have z0 := hz.cell 0
        have z1 := hz.cell 1
        have z2 := hz.cell 2
        simp at z0 z1 z2
        refine bodyPost_ret (v := .tuple #[.agg #[.string ⟨#[]⟩, .string ⟨#[]⟩, .bool false], .bool false]) (by simp [results, Tryd.results36, go_sem, z0, z1, z2]) rfl ?_
        unfold KlPost
        rw [HLN.out]
        exact ⟨⟨⟨#[]⟩, ⟨#[]⟩, false⟩, rfl, htw⟩
      · have HNM : Hid (nameD L m r = some (⟨⟨s1.toArray⟩, ⟨#[]⟩, false⟩, r1)) := hid (nameD_text_some hm htn)
        have HRL := hid (show r1.length ≤ 1073741824 by have := (textD_ok htn).1; have := HRL.out; omega)
        rw [htn] at hp
        simp only at hp
        obtain ⟨A4, n4, c4, rfl, hk4, ht4, hs4⟩ := hp
        have HR4 := hid (HR3.out.turned ht4 (by have := HGF.out; simp; omega))
        have hF4 := HF3.out.turned ht4 (by have := HGF.out; simp; omega)
        have HT4 := hid (HT3.out.trans ht4 (fun b hb => .inl hb))
        have HF4 := hid hF4
        have HK4 := hid hk4
        have HS5 := hid (hs4.trans HS2.out)
        have hr4 := HR4.out
        clear y0 yf0 y1 yf1 y2 yf2
        have k0 := hF4.cell 0
        have k1 := hF4.cell 1
        have k2 := hF4.cell 2
        have kf0 := hF4.frozen 0
        have kf1 := hF4.frozen 1
        have kf2 := hF4.frozen 2
        simp at k0 k1 k2
        have y0 := hr4.cell 0
        have y1 := hr4.cell 1
        have y2 := hr4.cell 2
        have yf0 := hr4.frozen 0
        have yf1 := hr4.frozen 1
        have yf2 := hr4.frozen 2
        simp at y0 y1 y2
        clear hF4 hr4 HK3 HTB3 HR3 HT3 HF3 ht4 htn hk4 hs4
        go_upto_region 10 with fail
        have ht5 : Turned [fb] w4 (w4.setCell ⟨fb, 0, none⟩ (.string ⟨s1.toArray⟩)) := (Turned.refl _ _).setCell (by simp) _
        have HF5 : Hid (Blk (w4.setCell ⟨fb, 0, none⟩ (.string ⟨s1.toArray⟩)) fb 31 #[.string ⟨s1.toArray⟩, .string ⟨#[]⟩, .bool false]) := hid (by simpa using HF4.out.set_ 0 (.string ⟨s1.toArray⟩))
        have HR5 := hid (HR4.out.turned ht5 (by have := HFB.out; simp; omega))
        have HT5 := hid (HT4.out.trans ht5 (fun b hb => .inr (by have := List.mem_singleton.1 hb; have := HFB.out; have := HFR.out; omega)))
        have HK5 := hid (HK4.out.turned ht5 (by have := HGF.out; simp; omega) (HS5.out.off HOB.out))
        clear ht5 HK4 HR4 HT4 HF4
        clear k0 kf0 k1 kf1 k2 kf2 y0 yf0 y1 yf1 y2 yf2
        generalize (w4.setCell ⟨fb, 0, none⟩ (.string ⟨s1.toArray⟩)) = w5 at HF5 HR5 HT5 HK5 ⊢
        have hF5 := HF5.out
        have hr5 := HR5.out
        have k0 := hF5.cell 0
        have k1 := hF5.cell 1
        have k2 := hF5.cell 2
        have kf0 := hF5.frozen 0
        have kf1 := hF5.frozen 1
        have kf2 := hF5.frozen 2
        simp at k0 k1 k2
        have y0 := hr5.cell 0
        have y1 := hr5.cell 1
        have y2 := hr5.cell 2
        have yf0 := hr5.frozen 0
        have yf1 := hr5.frozen 1
        have yf2 := hr5.frozen 2
        simp at y0 y1 y2
        clear hF5 hr5
        go_wp2_with fail
        refine (ktext_any g gt A4 n4 c4 r1 room tot v w5 HK5.out (by have := HK5.out.len; have := HRL.out; omega)).mono ?_
        intro e w6 hp
        unfold KtPost at hp
        rcases htx : textD r1 with _ | ⟨s2, r2⟩
        · have HLN : Hid (litD L bs bits = none) := hid (by unfold litD; rw [HNN.out]; simp only; rw [HNM.out]; simp only; rw [htx])
          rw [htx] at hp
          obtain ⟨rfl, ht6⟩ := hp
          have hF6 := HF5.out.turned ht6 (by have := HGF.out; simp; omega)
          have HF6 := hid hF6
          have HR6 := hid (HR5.out.turned ht6 (by have := HGF.out; simp; omega))
          have HT6 := hid (HT5.out.trans ht6 (fun b hb => .inl hb))
          clear ht6 htx
          clear k0 kf0 k1 kf1 k2 kf2 y0 yf0 y1 yf1 y2 yf2
          have k0 := hF6.cell 0
          have k1 := hF6.cell 1
          have k2 := hF6.cell 2
          have kf0 := hF6.frozen 0
          have kf1 := hF6.frozen 1
          have kf2 := hF6.frozen 2
          simp at k0 k1 k2
          have hr6 := HR6.out
          have y0 := hr6.cell 0
          have y1 := hr6.cell 1
          have y2 := hr6.cell 2
          have yf0 := hr6.frozen 0
          have yf1 := hr6.frozen 1
          have yf2 := hr6.frozen 2
          simp at y0 y1 y2
          clear hF6 hr6
          go_wp2_with fail
          have hRb := HR6.out.turned (w' := (w6.setCell ⟨fb, 1, none⟩ (.string ⟨#[]⟩))) ((Turned.refl [fb] _).setCell (by simp) _) (by have := HFB.out; simp; omega)
          have HRb := hid hRb
          have HTb := hid (HT6.out.trans (w2 := (w6.setCell ⟨fb, 1, none⟩ (.string ⟨#[]⟩))) ((Turned.refl [fb] _).setCell (by simp) _) (fun b hb => .inr (by have := List.mem_singleton.1 hb; have := HFB.out; have := HFR.out; omega)))
          clear hRb
          clear k0 kf0 k1 kf1 k2 kf2 y0 yf0 y1 yf1 y2 yf2
          generalize (w6.setCell ⟨fb, 1, none⟩ (.string ⟨#[]⟩)) = wy at HRb HTb ⊢
          have hz := ((HRb.out.set_ 0 (.string ⟨s1.toArray⟩)).set_ 1 (.string ⟨#[]⟩)).set_ 2 (.bool false)
          have htz : Turned [fr] wy (((wy.setCell ⟨fr, 0, none⟩ (.string ⟨s1.toArray⟩)).setCell ⟨fr, 1, none⟩ (.string ⟨#[]⟩)).setCell ⟨fr, 2, none⟩ (.bool false)) := (((Turned.refl _ _).setCell (by simp) _).setCell (by simp) _).setCell (by simp) _
          have htw : Turned [g] w (((wy.setCell ⟨fr, 0, none⟩ (.string ⟨s1.toArray⟩)).setCell ⟨fr, 1, none⟩ (.string ⟨#[]⟩)).setCell ⟨fr, 2, none⟩ (.bool false)) := HTb.out.trans htz (fun b hb => .inr (by have := List.mem_singleton.1 hb; have := HFR.out; omega))
          generalize ((wy.setCell ⟨fr, 0, none⟩ (.string ⟨s1.toArray⟩)).setCell ⟨fr, 1, none⟩ (.string ⟨#[]⟩)).setCell ⟨fr, 2, none⟩ (.bool false) = wz at hz htz htw ⊢
          have z0 := hz.cell 0
          have z1 := hz.cell 1
          have z2 := hz.cell 2
          simp at z0 z1 z2
          refine bodyPost_ret (v := .tuple #[.agg #[.string ⟨s1.toArray⟩, .string ⟨#[]⟩, .bool false], .bool false]) (by simp [results, Tryd.results36, go_sem, z0, z1, z2]) rfl ?_
          unfold KlPost
          rw [HLN.out]
          exact ⟨⟨⟨s1.toArray⟩, ⟨#[]⟩, false⟩, rfl, htw⟩
        · have HLS : Hid (litD L bs bits = some (⟨⟨s1.toArray⟩, ⟨s2.toArray⟩, false⟩, r2)) := hid (by unfold litD; rw [HNN.out]; simp only; rw [HNM.out]; simp only; rw [htx])
          rw [htx] at hp
          simp only at hp
          obtain ⟨A6, n6, c6, rfl, hk6, ht6, hs6⟩ := hp
          have hF6 := HF5.out.turned ht6 (by have := HGF.out; simp; omega)
          have HF6 := hid hF6
          have HR6 := hid (HR5.out.turned ht6 (by have := HGF.out; simp; omega))
          have HT6 := hid (HT5.out.trans ht6 (fun b hb => .inl hb))
          have HK6 := hid hk6
          have HS6 := hid (hs6.trans HS5.out)
          clear ht6 htx hk6 hs6
          clear k0 kf0 k1 kf1 k2 kf2 y0 yf0 y1 yf1 y2 yf2
          have k0 := hF6.cell 0
          have k1 := hF6.cell 1
          have k2 := hF6.cell 2
          have kf0 := hF6.frozen 0
          have kf1 := hF6.frozen 1
          have kf2 := hF6.frozen 2
          simp at k0 k1 k2
          have hr6 := HR6.out
          have y0 := hr6.cell 0
          have y1 := hr6.cell 1
          have y2 := hr6.cell 2
          have yf0 := hr6.frozen 0
          have yf1 := hr6.frozen 1
          have yf2 := hr6.frozen 2
          simp at y0 y1 y2
          clear hF6 hr6
          go_wp2_with fail
          have hRb := HR6.out.turned (w' := (w6.setCell ⟨fb, 1, none⟩ (.string ⟨s2.toArray⟩))) ((Turned.refl [fb] _).setCell (by simp) _) (by have := HFB.out; simp; omega)
          have HRb := hid hRb
          have HTb := hid (HT6.out.trans (w2 := (w6.setCell ⟨fb, 1, none⟩ (.string ⟨s2.toArray⟩))) ((Turned.refl [fb] _).setCell (by simp) _) (fun b hb => .inr (by have := List.mem_singleton.1 hb; have := HFB.out; have := HFR.out; omega)))
          have HKb := hid (HK6.out.turned (w' := (w6.setCell ⟨fb, 1, none⟩ (.string ⟨s2.toArray⟩))) ((Turned.refl [fb] _).setCell (by simp) _) (by have := HGF.out; simp; omega) (HS6.out.off HOB.out))
          clear hRb
          clear k0 kf0 k1 kf1 k2 kf2 y0 yf0 y1 yf1 y2 yf2
          generalize (w6.setCell ⟨fb, 1, none⟩ (.string ⟨s2.toArray⟩)) = wy at HRb HTb HKb ⊢
          have hz := ((HRb.out.set_ 0 (.string ⟨s1.toArray⟩)).set_ 1 (.string ⟨s2.toArray⟩)).set_ 2 (.bool false)
          have htz : Turned [fr] wy (((wy.setCell ⟨fr, 0, none⟩ (.string ⟨s1.toArray⟩)).setCell ⟨fr, 1, none⟩ (.string ⟨s2.toArray⟩)).setCell ⟨fr, 2, none⟩ (.bool false)) := (((Turned.refl _ _).setCell (by simp) _).setCell (by simp) _).setCell (by simp) _
          have htw : Turned [g] w (((wy.setCell ⟨fr, 0, none⟩ (.string ⟨s1.toArray⟩)).setCell ⟨fr, 1, none⟩ (.string ⟨s2.toArray⟩)).setCell ⟨fr, 2, none⟩ (.bool false)) := HTb.out.trans htz (fun b hb => .inr (by have := List.mem_singleton.1 hb; have := HFR.out; omega))
          have hkz := HKb.out.turned htz (by have := HGF.out; simp; omega) (HS6.out.off HOR.out)
          generalize ((wy.setCell ⟨fr, 0, none⟩ (.string ⟨s1.toArray⟩)).setCell ⟨fr, 1, none⟩ (.string ⟨s2.toArray⟩)).setCell ⟨fr, 2, none⟩ (.bool false) = wz at hz htz htw hkz ⊢
          have z0 := hz.cell 0
          have z1 := hz.cell 1
          have z2 := hz.cell 2
          simp at z0 z1 z2
          refine bodyPost_ret (v := .tuple #[.agg #[.string ⟨s1.toArray⟩, .string ⟨s2.toArray⟩, .bool false], .bool true]) (by simp [results, Tryd.results36, go_sem, z0, z1, z2]) rfl ?_
          unfold KlPost
          rw [HLS.out]
          exact ⟨A6, n6, c6, rfl, hkz, htw, HS6.out⟩
end Go.Proofs.YtdiejemhhcaicaaDoor

/- The decoder's keep, once. Conditions: at most 2^40 bytes in all. -/
namespace Go.Proofs.YtdiejemhhcaicaaDoor
open Go.RowKit
attribute [local go_sem] kd kdS

theorem Turned.thenB {F : List Nat} {w w1 w2 : World} (h : Turned F w w1) (hb : Below w1.heap.size w1 w2) : Turned F w w2 := h.trans (Turned.of_below (F := []) hb) (fun b hb => by cases hb)
/-- What keep leaves. -/
def KkPost (C g gt : Nat) (A : Option Addr) (n c : Nat) (bs : List UInt8) (room tot : Int) (Al : Option Addr) (nl cl : Nat) (fs : List Fd) (f : Fd) (w : World) (e : Ending) (w' : World) : Prop :=
  ∃ Al' nl' cl', e = .returned (.tuple #[]) ∧ KbAt w' g gt A n c bs room (tot + (f.size : Nat)) (.slice Al' nl' cl') ∧ w'.ownsRow C 31 3 (.slice Al' nl' cl') nl' (flat (if tot + (f.size : Nat) ≤ room then fs ++ [f] else fs)) ∧
    Turned (g :: (Value.slice Al nl cl).ownBlock.toList) w w' ∧ (∀ k, (Value.slice Al' nl' cl').ownBlock = some k → (Value.slice Al nl cl).ownBlock = some k ∨ w.heap.size ≤ k)

set_option maxHeartbeats 1000000 in
set_option maxRecDepth 100000 in
theorem kkeep_any (C g gt : Nat) (A : Option Addr) (n c : Nat) (bs : List UInt8) (room tot : Int) (Al : Option Addr) (nl cl : Nat) (fs : List Fd) (f : Fd) (w : World) (h : KbAt w g gt A n c bs room tot (.slice Al nl cl)) (ho : w.ownsRow C 31 3 (.slice Al nl cl) nl (flat fs))
    (hA : Off A (Value.slice Al nl cl).ownBlock.toList) (hg : (Value.slice Al nl cl).ownBlock ≠ some g) (hf : f.size ≤ 1099511627776) (ht0 : 0 ≤ tot) (ht1 : tot ≤ 1099511627776) (hn : nl ≤ 1099511627776) (hC : C ≤ w.heap.size) :
    Calls Tryd.prog 40 #[.pointer (some ⟨g, 0, none⟩), f.val] w (KkPost C g gt A n c bs room tot Al nl cl fs f w) := by
  have H := hid h
  have HO := hid ho
  have HA := hid hA
  have HG := hid hg
  have hgl := h.blk.lt
  obtain ⟨i0, hi0, hz0, hz1, hz2⟩ := fd_parts
  have hi := hid hi0
  have hz := hid hz0
  have hsz := hid hz1
  have hby := hid hz2
  clear hi0 hz0 hz1 hz2 h ho hA hg
  go_enter Tryd.func40, Tryd.ntmps40
  go_upto_region 1 with fail
  obtain ⟨wa, hwa⟩ : ∃ wa, w.alloc (.cells #[.string f.n, .string f.v, .bool f.x] 31) = wa := ⟨_, rfl⟩
  have hFa : Blk wa w.heap.size 31 #[.string f.n, .string f.v, .bool f.x] := by rw [← hwa]; exact Blk.new w _ _
  have hba : Below w.heap.size w wa := by rw [← hwa]; exact (Below.refl _ _).alloc (Nat.le_refl _) _
  rw [hwa]
  obtain ⟨q, hq⟩ : ∃ q, w.heap.size = q := ⟨_, rfl⟩
  have hgq : g ≠ q := by omega
  have hqg : q ≠ g := by omega
  have HWQ := hid hq
  rw [hq] at hFa ⊢
  have HF := hid hFa
  have HB := hid hba
  have HKa := hid (H.out.below hba)
  have HOa := hid (own_below HO.out hba)
  have HQR := hid (show (Value.slice Al nl cl).ownBlock ≠ some q from fun e => by have := (own_row_lt HO.out q e).2; omega)
  clear hFa hba hwa hq
  have L0 : Hid (∀ w', Below wa.heap.size wa w' → (Instr.loadAt 3 (.pointer (some ⟨g, 3, none⟩))).run Tryd.prog w' = .ok (.int .i64 tot) w') := hid fun w' hw => by
    have z := (HKa.out.blk.below hw HKa.out.blk.lt).cell 3
    simp at z
    go_simp
  have L1 : Hid (∀ w', Below wa.heap.size wa w' → (Instr.loadAt 31 (.pointer (some ⟨q, 0, none⟩))).run Tryd.prog w' = .ok f.val w') := hid fun w' hw => by
    obtain ⟨z0, z1, z2⟩ := BoxAt.c (f := f) (HF.out.below hw HF.out.lt)
    go_simp
  have HSB := hid (show Below wa.heap.size wa wa.drew from (Below.refl _ _).drew)
  have hw1 := IntWalk.i64_in (tot + (f.size : Nat) : Int) (by omega)
  have HKS := hid (show ∀ w', Below wa.heap.size wa w' → w'.cell? ⟨g, 3, none⟩ = some (.int .i64 tot) ∧ w'.frozen? ⟨g, 3, none⟩ = false from fun w' hw => by
    have hz := HKa.out.blk.below hw HKa.out.blk.lt
    exact ⟨by have := hz.cell 3; simpa using this, hz.frozen 3⟩)
  go_wp2_with fail
  (refine wp_mixZ (Below wa.heap.size wa) rfl ?_ ?_ (HSB.out) ?_; (focus kernel_rfl); (focus kernel_rfl); intro KK hKK; simp only [List.dropLast_cons_cons, List.dropLast_singleton]; go_wp2_with (first
                                          | (first
    | ((with_reducible refine mixS_load L0.out ?_ ?_ ?_); (focus rfl); (focus rfl))
    | ((with_reducible refine mixS_load L1.out ?_ ?_ ?_); (focus rfl); (focus rfl))
    | (go_at_call 52; go_must (refine (size_any f _ (by omega)).mono ?_; rintro e w2 ⟨rfl, hb2⟩; have HS2 := hid (HSB.out.trans (hb2.mono HSB.out.size)); obtain ⟨k3, kf3⟩ := HKS.out _ HS2.out; clear hb2))
    | ((with_reducible refine And.intro ?_ ?_); (focus (first | (with_reducible exact HS2.out) | (with_reducible exact HSB.out))))
    | ((with_reducible refine mix_nil ?_); refine hKK _ _ HS2.out ?_; (with_reducible refine last_on ?_ ?_); (focus rfl); intro K hK; go_simp))
                                          | ((with_reducible refine mix_nil ?_); refine hKK _ _ (HSB.out) ?_; (with_reducible refine last_on ?_ ?_); (focus rfl); intro K hK; go_simp)
                                          | ((with_reducible refine mixS_on ?_ ?_); (focus rfl); intro K K' hK hK'; go_simp; (first | ((with_reducible refine hK _ _ ?_); clear hK hK' K K') | ((with_reducible refine hK' _ _ ?_); clear hK hK' K K') | skip))
                                          | ((with_reducible refine mixS_off ?_ ?_); (focus rfl); intro K hK; go_simp; (first | ((with_reducible refine hK _ _ ?_); clear hK K) | skip))
                                          | ((with_reducible refine mixS_step ?_); intro K K' hK hK'; go_simp; (first | ((with_reducible refine hK _ _ ?_); clear hK hK' K K') | ((with_reducible refine hK' _ _ ?_); clear hK hK' K K') | skip))))
  have ht3 : Turned [g] w2 (w2.setCell ⟨g, 3, none⟩ (.int .i64 (tot + (f.size : Nat)))) := (Turned.refl _ _).setCell (by simp) _
  have hk3 := (HKa.out.below HS2.out).blk.set_ 3 (.int .i64 (tot + (f.size : Nat)))
  have HK3 := hid (show KbAt (w2.setCell ⟨g, 3, none⟩ (.int .i64 (tot + (f.size : Nat)))) g gt A n c bs room (tot + (f.size : Nat)) (.slice Al nl cl) from ⟨by simpa using hk3, (HKa.out.below HS2.out).bytes.turned ht3 (HKa.out.off), HKa.out.nc, HKa.out.off, fun ad e => Nat.lt_of_lt_of_le ((HKa.out.below HS2.out).lt ad e) ht3.size⟩)
  have HO3 := hid (own_turned (own_below HOa.out HS2.out) ht3 (fun k hk hm => HG.out (by have := List.mem_singleton.1 hm; subst this; exact hk)))
  have HF3 := hid ((HF.out.below HS2.out HF.out.lt).turned ht3 (by simp; omega))
  have HT3 := hid (((Turned.of_below (F := [g]) HB.out).thenB HS2.out).trans ht3 (fun b hb => .inl hb))
  clear ht3 hk3 k3 kf3 L0 L1 HKS HS2 HSB hw1 HF HB HKa HOa HO H
  generalize w2.setCell ⟨g, 3, none⟩ (.int .i64 (tot + (f.size : Nat))) = w3 at HK3 HO3 HF3 HT3 ⊢
  have c2 := HK3.out.blk.cell 2
  have c3 := HK3.out.blk.cell 3
  simp at c2 c3
  by_cases hfit : tot + (f.size : Nat) ≤ room
  rotate_left
  · go_wp2_with fail
    (refine wp_mix ?_ ?_ ?_; (focus kernel_rfl); (focus kernel_rfl); intro KK hKK; go_wp2_with (first
          | (fail)
          | (with_reducible refine mix_nil ?_)
          | ((with_reducible refine mix_on ?_ ?_); (focus rfl); intro K hK; go_simp; (first | ((with_reducible refine hK _ _ ?_); clear hK K) | skip))
          | ((with_reducible refine mix_off ?_ ?_); (focus rfl); intro K hK; go_simp; (first | ((with_reducible refine hK _ _ ?_); clear hK K) | skip))
          | ((with_reducible refine mix_step ?_); intro K hK; go_simp; (first | ((with_reducible refine hK _ _ ?_); clear hK K) | skip))))
    go_end0
    have hd := (Below.refl w3.heap.size w3).drew
    refine ⟨Al, nl, cl, rfl, HK3.out.below hd, ?_, (HT3.out.mono (fun b hb => by have := List.mem_singleton.1 hb; simp [this])).thenB hd, fun k hk => .inl hk⟩
    rw [if_neg (by omega)]
    exact own_below HO3.out hd
  · go_upto_region 3 with ((refine wp_mix ?_ ?_ ?_; (focus kernel_rfl); (focus kernel_rfl); intro KK hKK; go_wp2_with (first
                                 | (fail)
                                 | (with_reducible refine mix_nil ?_)
                                 | ((with_reducible refine mix_on ?_ ?_); (focus rfl); intro K hK; go_simp; (first | ((with_reducible refine hK _ _ ?_); clear hK K) | skip))
                                 | ((with_reducible refine mix_off ?_ ?_); (focus rfl); intro K hK; go_simp; (first | ((with_reducible refine hK _ _ ?_); clear hK K) | skip))
                                 | ((with_reducible refine mix_step ?_); intro K hK; go_simp; (first | ((with_reducible refine hK _ _ ?_); clear hK K) | skip)))))
    have HFIT := hid hfit
    have hd := (Below.refl w3.heap.size w3).drew
    have HK4 := hid (HK3.out.below hd)
    have HO4 := hid (own_below HO3.out hd)
    have HF4 := hid (HF3.out.below hd HF3.out.lt)
    have HT4 := hid (HT3.out.thenB hd)
    have hs4 := hd.size
    clear hd HK3 HO3 HF3 HT3 c2 c3 hfit
    generalize w3.drew = w4 at HK4 HO4 HF4 HT4 hs4 ⊢
    have hge : ∀ b ∈ (Value.slice Al nl cl).ownBlock.toList, (Value.slice Al nl cl).ownBlock = some b := fun b hb => by simpa using hb
    have HGE := hid hge
    have HgR := hid (show g ∉ (Value.slice Al nl cl).ownBlock.toList from fun hm => HG.out (hge g hm))
    have HqR := hid (show q ∉ (Value.slice Al nl cl).ownBlock.toList from fun hm => HQR.out (hge q hm))
    have LS : Hid (∀ w', Turned (Value.slice Al nl cl).ownBlock.toList w4 w' → (Instr.loadAt 25 (.pointer (some ⟨g, 4, none⟩))).run Tryd.prog w' = .ok (.slice Al nl cl) w') := hid fun w' hw => by
      have z := (HK4.out.blk.turned hw HgR.out).cell 4
      simp at z
      clear hge
      go_simp
    have L1 : Hid (∀ w', Turned (Value.slice Al nl cl).ownBlock.toList w4 w' → (Instr.loadAt 31 (.pointer (some ⟨q, 0, none⟩))).run Tryd.prog w' = .ok f.val w') := hid fun w' hw => by
      obtain ⟨z0, z1, z2⟩ := BoxAt.c (f := f) (HF4.out.turned hw HqR.out)
      clear hge
      go_simp
    have HSB := hid (show Turned (Value.slice Al nl cl).ownBlock.toList w4 w4.drew from (Turned.refl _ _).drew)
    have hC4 : C ≤ w4.heap.size := by have := HT4.out.size; omega
    have hbd := (((Below.refl w4.heap.size w4).alloc (Nat.le_refl _) (.cells #[.string f.n, .string f.v, .bool f.x] 31)).drew)
    have HBD := hid hbd
    have HSA := hid ((Turned.refl (Value.slice Al nl cl).ownBlock.toList w4).thenB hbd)
    clear hge hbd
    go_wp2_with fail
    (refine wp_mixZ (Turned (Value.slice Al nl cl).ownBlock.toList w4) rfl ?_ ?_ (HSB.out) ?_; (focus kernel_rfl); (focus kernel_rfl); intro KK hKK; simp only [List.dropLast_cons_cons, List.dropLast_singleton]; go_wp2_with (first
                                                                       | (first
      | ((with_reducible refine mixS_load LS.out ?_ ?_ ?_); (focus rfl); (focus rfl))
      | ((with_reducible refine mixS_load L1.out ?_ ?_ ?_); (focus rfl); (focus rfl))
      | ((with_reducible refine at_mapp ?_); go_loud (refine mixS_app C 31 i0 _ 3 40 Tryd.underlying25 hi.out hz.out hsz.out hby.out rfl (by decide) _ nl _ (own_below HO4.out HBD.out) (some ⟨w4.heap.size, 0, none⟩) 1 1 [.string f.n, .string f.v, .bool f.x] (rd_newD (size := 3) rfl rfl) ?_ ?_ ?_ ?_ ?_ ?_ ?_ ?_; (focus rfl); (focus rfl); (focus (intro u hu; simp at hu; rcases hu with rfl | rfl | rfl <;> rfl)); (focus omega); (focus omega); (focus (simp; omega)); (focus rfl); intro A5 cs5 w5 ho5 hg5 hc5; have HS5 := hid (HSA.out.grown hg5 (fun k hk => .inl (by simp [hk]))); have HO5 := hid ho5; have HC5 := hid hc5; have hk5 := HK4.out.blk.turned HS5.out HgR.out; have HK5 := hid hk5; have r4 := hk5.cell 4; have rf4 := hk5.frozen 4; simp at r4; clear ho5 hg5 hc5 hk5; refine ⟨HS5.out, ?_⟩))
      | ((with_reducible refine And.intro ?_ ?_); (focus (first | (with_reducible exact HSB.out) | (exact HSA.out))))
      | ((with_reducible refine mix_nil ?_); refine hKK _ _ HS5.out ?_; (with_reducible refine last_on ?_ ?_); (focus rfl); intro K hK; go_simp))
                                                                       | ((with_reducible refine mix_nil ?_); refine hKK _ _ (HSB.out) ?_; (with_reducible refine last_on ?_ ?_); (focus rfl); intro K hK; go_simp)
                                                                       | ((with_reducible refine mixS_on ?_ ?_); (focus rfl); intro K K' hK hK'; go_simp; (first | ((with_reducible refine hK _ _ ?_); clear hK hK' K K') | ((with_reducible refine hK' _ _ ?_); clear hK hK' K K') | skip))
                                                                       | ((with_reducible refine mixS_off ?_ ?_); (focus rfl); intro K hK; go_simp; (first | ((with_reducible refine hK _ _ ?_); clear hK K) | skip))
                                                                       | ((with_reducible refine mixS_step ?_); intro K K' hK hK'; go_simp; (first | ((with_reducible refine hK _ _ ?_); clear hK hK' K K') | ((with_reducible refine hK' _ _ ?_); clear hK hK' K K') | skip))))
    go_end0
    have hz5 := HK5.out.set_ 4 (.slice A5 (nl + 1) cs5)
    have ht5 : Turned [g] w5 (w5.setCell ⟨g, 4, none⟩ (.slice A5 (nl + 1) cs5)) := (Turned.refl _ _).setCell (by simp) _
    have hfresh : ∀ k, (Value.slice A5 (nl + 1) cs5).ownBlock = some k → (Value.slice Al nl cl).ownBlock = some k ∨ w.heap.size ≤ k := fun k hk => by
      rcases HC5.out with e | e
      · exact .inl (e.symm.trans hk)
      · rw [e] at hk
        injection hk with hk
        have := HT4.out.size
        simp at hk
        exact .inr (by omega)
    refine ⟨A5, nl + 1, cs5, rfl, ⟨by simpa using hz5, (HK4.out.bytes.turned HS5.out HA.out).turned ht5 HK4.out.off, HK4.out.nc, HK4.out.off, fun ad e => Nat.lt_of_lt_of_le (HK4.out.lt ad e) (Nat.le_trans HS5.out.size ht5.size)⟩, ?_, ?_, hfresh⟩
    · rw [if_pos HFIT.out, flat_append]
      refine own_turned HO5.out ht5 (fun k hk hm => ?_)
      have hkg := List.mem_singleton.1 hm
      subst hkg
      rcases hfresh _ hk with h1 | h1
      · exact HG.out h1
      · omega
    · refine ((HT4.out.mono (fun b hb => by have := List.mem_singleton.1 hb; simp [this])).trans HS5.out (fun b hb => .inl (by simp [hb]))).trans ht5 (fun b hb => .inl (by have := List.mem_singleton.1 hb; simp [this]))
end Go.Proofs.YtdiejemhhcaicaaDoor

/- The decoder amid a block, in memory. No condition beyond each lemma's own. -/
namespace Go.Proofs.YtdiejemhhcaicaaDoor
open Go.RowKit

/-- The decoder amid a block: its block g, its table gt in the blocks F, its bytes in A, its fields' row, and the box fb of the field that is read; read began in w0. -/
structure RdS (w0 w : World) (B g gt fb : Nat) (F0 F : List Nat) (A : Option Addr) (n c : Nat) (Al : Option Addr) (nl cl : Nat) (fs : List Fd) (room : Int) (s : DSt) (f : Fd) : Prop where
  kb : KbAt w g gt A n c s.bs room (total s.acc : Nat) (.slice Al nl cl)
  tb : Tb w B F gt s.most s.L
  ok : TabOk s.most s.L
  row : w.ownsRow w0.heap.size 31 3 (.slice Al nl cl) nl (flat fs)
  fits : (total s.acc : Nat) ≤ room → fs = s.acc
  cnt : fs.length ≤ s.acc.length
  bnd : total s.acc + 32800 * s.bs.length ≤ 1099511627776
  num : s.acc.length + s.bs.length ≤ 1073741824
  gF : g ∉ F
  AF : Off A F
  rg : (Value.slice Al nl cl).ownBlock ≠ some g
  rF : ∀ k ∈ F, (Value.slice Al nl cl).ownBlock ≠ some k
  rA : Off A (Value.slice Al nl cl).ownBlock.toList
  box : BoxAt w fb f
  bg : fb ≠ g
  bF : fb ∉ F
  br : (Value.slice Al nl cl).ownBlock ≠ some fb
  bA : Off A [fb]
  tn : Turned (g :: F0) w0 w
  kF : ∀ k ∈ F, k ∈ F0 ∨ w0.heap.size ≤ k
  kR : ∀ k, (Value.slice Al nl cl).ownBlock = some k → w0.heap.size ≤ k
  fb0 : w0.heap.size ≤ fb
section
variable {w0 w w' : World} {B g gt fb : Nat} {F0 F F' : List Nat} {A A' : Option Addr} {n c n' c' : Nat} {Al Al' : Option Addr} {nl cl nl' cl' : Nat} {fs fs' : List Fd} {room : Int} {s : DSt} {f f' : Fd} {r : List UInt8} {most' : Int} {L' : List Fd}
theorem RdS.below (h : RdS w0 w B g gt fb F0 F A n c Al nl cl fs room s f) (hb : Below w.heap.size w w') : RdS w0 w' B g gt fb F0 F A n c Al nl cl fs room s f :=
  ⟨h.kb.below hb, h.tb.below hb, h.ok, own_below h.row hb, h.fits, h.cnt, h.bnd, h.num, h.gF, h.AF, h.rg, h.rF, h.rA, BoxAt.below h.box hb, h.bg, h.bF, h.br, h.bA, h.tn.thenB hb, h.kF, h.kR, h.fb0⟩
theorem RdS.len (h : RdS w0 w B g gt fb F0 F A n c Al nl cl fs room s f) : nl = fs.length := by
  have := h.row.1
  rw [flat_len] at this
  omega
/-- Bytes were read. -/
theorem RdS.read (h : RdS w0 w B g gt fb F0 F A n c Al nl cl fs room s f) (hk : KbAt w' g gt A' n' c' r room (total s.acc : Nat) (.slice Al nl cl)) (ht : Turned [g] w w') (hs : Sub A' A) (hr : r.length ≤ s.bs.length) : RdS w0 w' B g gt fb F0 F A' n' c' Al nl cl fs room ⟨r, s.most, s.L, s.told, s.acc⟩ f := by
  have h1 : ∀ k, k ≠ g → k ∉ [g] := fun k hk hm => hk (List.mem_singleton.1 hm)
  have hm : 32800 * r.length ≤ 32800 * s.bs.length := Nat.mul_le_mul_left _ hr
  refine ⟨hk, h.tb.turned ht (fun k hk => h1 k (fun e => h.gF (e ▸ hk))), h.ok, own_turned h.row ht (fun k hk => h1 k (fun e => h.rg (e ▸ hk))), h.fits, h.cnt, ?_, ?_, h.gF, hs.off h.AF, h.rg, h.rF, hs.off h.rA, Blk.turned h.box ht (h1 fb h.bg), h.bg, h.bF, h.br, hs.off h.bA, h.tn.trans ht (fun b hb => .inl (by have := List.mem_singleton.1 hb; simp [this])), h.kF, h.kR, h.fb0⟩
  · have := h.bnd
    dsimp only
    omega
  · have := h.num
    dsimp only
    omega
/-- The field's box was set. -/
theorem RdS.boxed (h : RdS w0 w B g gt fb F0 F A n c Al nl cl fs room s f) (hb : BoxAt w' fb f') (ht : Turned [fb] w w') : RdS w0 w' B g gt fb F0 F A n c Al nl cl fs room s f' := by
  have h1 : ∀ k, k ≠ fb → k ∉ [fb] := fun k hk hm => hk (List.mem_singleton.1 hm)
  exact ⟨h.kb.turned ht (h1 g (fun e => h.bg e.symm)) h.bA, h.tb.turned ht (fun k hk => h1 k (fun e => h.bF (e ▸ hk))), h.ok, own_turned h.row ht (fun k hk => h1 k (fun e => h.br (e ▸ hk))), h.fits, h.cnt, h.bnd, h.num, h.gF, h.AF, h.rg, h.rF, h.rA, hb, h.bg, h.bF, h.br, h.bA,
    h.tn.trans ht (fun b hb => .inr (by have := List.mem_singleton.1 hb; rw [this]; exact h.fb0)), h.kF, h.kR, h.fb0⟩
/-- The table was turned. -/
theorem RdS.tabbed (h : RdS w0 w B g gt fb F0 F A n c Al nl cl fs room s f) (hb : Tb w' B F' gt most' L') (ho : TabOk most' L') (ht : Turned F w w') (hk : ∀ k ∈ F', k ∈ F ∨ w.heap.size ≤ k) (told' : Nat) : RdS w0 w' B g gt fb F0 F' A n c Al nl cl fs room ⟨s.bs, most', L', told', s.acc⟩ f := by
  have hgl := h.kb.blk.lt
  have hfl := Blk.lt h.box
  have hz := h.tn.size
  refine ⟨h.kb.turned ht h.gF h.AF, hb, ho, own_turned h.row ht (fun k hk hm => h.rF k hm hk), h.fits, h.cnt, h.bnd, h.num, fun hm => ?_, fun ad e hm => ?_, h.rg, fun k hm e => ?_, h.rA, Blk.turned h.box ht h.bF, h.bg, fun hm => ?_, h.br, h.bA, h.tn.trans ht (fun b hb => ?_), fun k hm => ?_, h.kR, h.fb0⟩
  · rcases hk g hm with h1 | h1
    · exact h.gF h1
    · omega
  · rcases hk _ hm with h1 | h1
    · exact h.AF ad e h1
    · have := h.kb.lt ad e
      omega
  · rcases hk k hm with h1 | h1
    · exact h.rF k h1 e
    · have := (own_row_lt h.row k e).2
      omega
  · rcases hk fb hm with h1 | h1
    · exact h.bF h1
    · omega
  · rcases h.kF b hb with h1 | h1
    · exact .inl (by simp [h1])
    · exact .inr h1
  · rcases hk k hm with h1 | h1
    · exact h.kF k h1
    · exact .inr (by omega)
/-- A field was kept. -/
theorem RdS.kept (h : RdS w0 w B g gt fb F0 F A n c Al nl cl fs room s f) (hk : KbAt w' g gt A n c s.bs room ((total s.acc : Nat) + (f.size : Nat)) (.slice Al' nl' cl')) (ho : w'.ownsRow w0.heap.size 31 3 (.slice Al' nl' cl') nl' (flat (if ((total s.acc : Nat) : Int) + (f.size : Nat) ≤ room then fs ++ [f] else fs)))
    (ht : Turned (g :: (Value.slice Al nl cl).ownBlock.toList) w w') (hr : ∀ k, (Value.slice Al' nl' cl').ownBlock = some k → (Value.slice Al nl cl).ownBlock = some k ∨ w.heap.size ≤ k)
    (hb : total s.acc + f.size + 32800 * s.bs.length ≤ 1099511627776) (hn : s.acc.length + 1 + s.bs.length ≤ 1073741824) : ∃ fs', RdS w0 w' B g gt fb F0 F A n c Al' nl' cl' fs' room ⟨s.bs, s.most, s.L, s.told, s.acc ++ [f]⟩ f := by
  have h1 : ∀ k, k ≠ g → (Value.slice Al nl cl).ownBlock ≠ some k → k ∉ g :: (Value.slice Al nl cl).ownBlock.toList := fun k hk1 hk2 hm => by
    rcases List.mem_cons.1 hm with h | h
    · exact hk1 h
    · exact hk2 (by simpa using h)
  have hz := h.tn.size
  have hgl := h.kb.blk.lt
  have hfl := Blk.lt h.box
  refine ⟨_, ⟨?_, h.tb.turned ht (fun k hk => h1 k (fun e => h.gF (e ▸ hk)) (h.rF k hk)), h.ok, ho, fun hfit => ?_, ?_, ?_, ?_, h.gF, h.AF, fun e => ?_, fun k hk e => ?_, fun ad e hm => ?_, Blk.turned h.box ht (h1 fb h.bg h.br), h.bg, h.bF, fun e => ?_, h.bA, h.tn.trans ht (fun b hb => ?_), h.kF, fun k hk => ?_, h.fb0⟩⟩
  · have e : ((total (s.acc ++ [f]) : Nat) : Int) = (total s.acc : Nat) + (f.size : Nat) := by rw [total_snoc]; omega
    dsimp only
    rw [e]
    exact hk
  · dsimp only at hfit
    rw [total_snoc] at hfit
    rw [if_pos (by omega), h.fits (by omega)]
  · dsimp only
    have := h.cnt
    split
    · simp only [List.length_append, List.length_singleton]
      omega
    · simp only [List.length_append, List.length_singleton]
      omega
  · dsimp only
    rw [total_snoc]
    exact hb
  · dsimp only
    rw [List.length_append, List.length_singleton]
    exact hn
  · rcases hr g e with h2 | h2
    · exact h.rg h2
    · omega
  · rcases hr k e with h2 | h2
    · exact h.rF k hk h2
    · have := (h.tb.ge k hk).2
      omega
  · rcases hr ad.block (by simpa using hm) with h2 | h2
    · exact h.rA ad e (by simp [h2])
    · have := h.kb.lt ad e
      omega
  · rcases hr fb e with h2 | h2
    · exact h.br h2
    · omega
  · rcases List.mem_cons.1 hb with rfl | hb
    · exact .inl (by simp)
    · exact .inr (h.kR b (by simpa using hb))
  · rcases hr k hk with h2 | h2
    · exact h.kR k h2
    · omega
end
end Go.Proofs.YtdiejemhhcaicaaDoor

/- The decoder's read, once (printed by gen_read8.py). Condition: at most 2^24 bytes. -/
namespace Go.Proofs.YtdiejemhhcaicaaDoor
open Go.RowKit
attribute [local go_sem] kd kdS

/-- A block that is wrong: what is left of the table. -/
def RdX (w0 w : World) (B g gt : Nat) (F0 : List Nat) (s : DSt) : Prop := ∃ F, Tb w B F gt s.most s.L ∧ TabOk s.most s.L ∧ Turned (g :: F0) w0 w ∧ ∀ k ∈ F, k ∈ F0 ∨ w0.heap.size ≤ k
theorem RdS.dead {w0 w w' : World} {B g gt fb : Nat} {F0 F : List Nat} {A : Option Addr} {n c : Nat} {Al : Option Addr} {nl cl : Nat} {fs : List Fd} {room : Int} {s : DSt} {f : Fd} {G : List Nat} (h : RdS w0 w B g gt fb F0 F A n c Al nl cl fs room s f) (ht : Turned G w w') (hG : ∀ k ∈ G, k = g ∨ k = fb) : RdX w0 w' B g gt F0 s :=
  ⟨F, h.tb.turned ht (fun k hk hm => by
    rcases hG k hm with rfl | rfl
    · exact h.gF hk
    · exact h.bF hk), h.ok, h.tn.trans ht (fun b hb => by
    rcases hG b hb with rfl | rfl
    · exact .inl (by simp)
    · exact .inr h.fb0), h.kF⟩
/-- What read answers. -/
def ReadPost (w0 : World) (B g gt : Nat) (F0 : List Nat) (room : Int) (s0 : DSt) (e : Ending) (w' : World) : Prop :=
  ((decR s0).2 = false ∧ e = .returned (.bool false) ∧ RdX w0 w' B g gt F0 (decR s0).1) ∨
  ((decR s0).2 = true ∧ e = .returned (.bool true) ∧ ∃ (fb : Nat) (F : List Nat) (A : Option Addr) (n c : Nat) (Al : Option Addr) (nl cl : Nat) (fs : List Fd) (f : Fd), RdS w0 w' B g gt fb F0 F A n c Al nl cl fs room (decR s0).1 f)
/-- How the block goes on at a label. -/
def headOk (lab : Nat) (bs : List UInt8) : Prop :=
  lab = 0 ∨ ∃ b r, bs = b :: r ∧ ((lab = 1 ∧ 128 ≤ b.toNat) ∨ (lab = 2 ∧ b.toNat < 128 ∧ 64 ≤ b.toNat) ∨ (lab = 3 ∧ b.toNat < 64 ∧ 32 ≤ b.toNat))
def JN (w0 : World) (B g gt fb : Nat) (F0 : List Nat) (room : Int) (s0 : DSt) (lab : Nat) (a' : Act) (w' : World) : Prop :=
  ∃ (F : List Nat) (A : Option Addr) (n c : Nat) (Al : Option Addr) (nl cl : Nat) (fs : List Fd) (s : DSt) (f : Fd) (v5 v8 : Value),
    (∃ us : Nat → Value, a' = { tmps := #[.pointer (some ⟨g, 0, none⟩), us 1, us 2, .pointer (some ⟨fb, 0, none⟩), us 4, v5, us 6, .int .i64 (s.told : Nat), v8, us 9, us 10, us 11, us 12, us 13, us 14, us 15, us 16, us 17, us 18, us 19, us 20, us 21, us 22, us 23, us 24, us 25, us 26, us 27, us 28, us 29, us 30, us 31, us 32, us 33, us 34, us 35, us 36, us 37, us 38, us 39, us 40, us 41, us 42, us 43, us 44, us 45, us 46, us 47, us 48, us 49, us 50, us 51, us 52, us 53, us 54, us 55, us 56, us 57, us 58, us 59, us 60, us 61, us 62, us 63, us 64, us 65, us 66, us 67, us 68, us 69, us 70, us 71, us 72, us 73, us 74, us 75, us 76, us 77, us 78, us 79, us 80, us 81, us 82, us 83, us 84, us 85, us 86, us 87, us 88, us 89, us 90, us 91], defers := [] }) ∧ v8 = .bool (!s.acc.isEmpty) ∧ s.told ≤ 2 ∧ RdS w0 w' B g gt fb F0 F A n c Al nl cl fs room s f ∧ decR s0 = decR s ∧ headOk lab s.bs
def JF (w0 : World) (B g gt fb : Nat) (F0 : List Nat) (room : Int) (s0 : DSt) (a' : Act) (w' : World) : Prop :=
  (∃ (v8 : Value) (told : Nat), (∃ us : Nat → Value, a' = { tmps := #[.pointer (some ⟨g, 0, none⟩), us 1, us 2, .pointer (some ⟨fb, 0, none⟩), us 4, .bool false, us 6, .int .i64 (told : Nat), v8, us 9, us 10, us 11, us 12, us 13, us 14, us 15, us 16, us 17, us 18, us 19, us 20, us 21, us 22, us 23, us 24, us 25, us 26, us 27, us 28, us 29, us 30, us 31, us 32, us 33, us 34, us 35, us 36, us 37, us 38, us 39, us 40, us 41, us 42, us 43, us 44, us 45, us 46, us 47, us 48, us 49, us 50, us 51, us 52, us 53, us 54, us 55, us 56, us 57, us 58, us 59, us 60, us 61, us 62, us 63, us 64, us 65, us 66, us 67, us 68, us 69, us 70, us 71, us 72, us 73, us 74, us 75, us 76, us 77, us 78, us 79, us 80, us 81, us 82, us 83, us 84, us 85, us 86, us 87, us 88, us 89, us 90, us 91], defers := [] }) ∧ (decR s0).2 = false ∧ RdX w0 w' B g gt F0 (decR s0).1) ∨
  (∃ (F : List Nat) (A : Option Addr) (n c : Nat) (Al : Option Addr) (nl cl : Nat) (fs : List Fd) (s : DSt) (f : Fd) (v8 : Value),
    (∃ us : Nat → Value, a' = { tmps := #[.pointer (some ⟨g, 0, none⟩), us 1, us 2, .pointer (some ⟨fb, 0, none⟩), us 4, .bool true, us 6, .int .i64 (s.told : Nat), v8, us 9, us 10, us 11, us 12, us 13, us 14, us 15, us 16, us 17, us 18, us 19, us 20, us 21, us 22, us 23, us 24, us 25, us 26, us 27, us 28, us 29, us 30, us 31, us 32, us 33, us 34, us 35, us 36, us 37, us 38, us 39, us 40, us 41, us 42, us 43, us 44, us 45, us 46, us 47, us 48, us 49, us 50, us 51, us 52, us 53, us 54, us 55, us 56, us 57, us 58, us 59, us 60, us 61, us 62, us 63, us 64, us 65, us 66, us 67, us 68, us 69, us 70, us 71, us 72, us 73, us 74, us 75, us 76, us 77, us 78, us 79, us 80, us 81, us 82, us 83, us 84, us 85, us 86, us 87, us 88, us 89, us 90, us 91], defers := [] }) ∧ s.told ≤ 2 ∧ RdS w0 w' B g gt fb F0 F A n c Al nl cl fs room s f ∧ decR s0 = decR ⟨s.bs, s.most, s.L, s.told, s.acc ++ [f]⟩ ∧ total s.acc + f.size + 32800 * s.bs.length ≤ 1099511627776 ∧ s.acc.length + 1 + s.bs.length ≤ 1073741824)
def JR (w0 : World) (B g gt fb : Nat) (F0 : List Nat) (room : Int) (s0 : DSt) (lab : Nat) (a' : Act) (w' : World) : Prop :=
  (lab < 4 ∧ JN w0 B g gt fb F0 room s0 lab a' w') ∨ (lab = 4 ∧ JF w0 B g gt fb F0 room s0 a' w')
def lenB (g : Nat) (w : World) : Nat := match w.cell? ⟨g, 0, none⟩ with | some (.slice _ n _) => n | _ => 0
def muR (g lab : Nat) (a : Act) (w : World) : Nat :=
  if lab = 4 then (match a.tmps.getD 5 undef with | .bool false => 0 | _ => 3 * lenB g w + 2) else if lab = 0 then 3 * lenB g w + 1 else 3 * lenB g w
theorem lenB_of {w0 w : World} {B g gt fb : Nat} {F0 F : List Nat} {A : Option Addr} {n c : Nat} {Al : Option Addr} {nl cl : Nat} {fs : List Fd} {room : Int} {s : DSt} {f : Fd} (h : RdS w0 w B g gt fb F0 F A n c Al nl cl fs room s f) : lenB g w = s.bs.length := by
  have h0 : w.cell? ⟨g, 0, none⟩ = some (.slice A n c) := by have := h.kb.blk.cell 0; simpa using this
  unfold lenB
  rw [h0, h.kb.len]
theorem stepD_known {s : DSt} {b : UInt8} {t : List UInt8} (hb : s.bs = b :: t) (h : 128 ≤ b.toNat) : stepD s = match numP s.bs 7 with | none => none | some (n, r) => match atD s.L n with | none => none | some f => some ⟨r, s.most, s.L, s.told, s.acc ++ [f]⟩ := by
  unfold stepD
  split
  · rename_i e
    rw [hb] at e
    cases e
  · rename_i b' t' e
    rw [hb] at e
    injection e with e1 e2
    subst e1 e2
    rw [if_pos h]
    all_goals rfl
theorem stepD_added {s : DSt} {b : UInt8} {t : List UInt8} (hb : s.bs = b :: t) (h : b.toNat < 128) (h2 : 64 ≤ b.toNat) : stepD s = match litD s.L s.bs 6 with | none => none | some (f, r) => some ⟨r, s.most, addL s.most s.L f, s.told, s.acc ++ [f]⟩ := by
  unfold stepD
  split
  · rename_i e
    rw [hb] at e
    cases e
  · rename_i b' t' e
    rw [hb] at e
    injection e with e1 e2
    subst e1 e2
    rw [if_neg (by omega), if_pos h2]
    all_goals rfl
theorem stepD_limit {s : DSt} {b : UInt8} {t : List UInt8} (hb : s.bs = b :: t) (h : b.toNat < 64) (h2 : 32 ≤ b.toNat) : stepD s = match numP s.bs 5 with | none => none | some (n, r) => if s.acc ≠ [] ∨ 2 < s.told + 1 ∨ 4096 < n then none else some ⟨r, n, shr n s.L, s.told + 1, s.acc⟩ := by
  unfold stepD
  split
  · rename_i e
    rw [hb] at e
    cases e
  · rename_i b' t' e
    rw [hb] at e
    injection e with e1 e2
    subst e1 e2
    rw [if_neg (by omega), if_neg (by omega), if_pos h2]
    all_goals rfl
theorem stepD_plain {s : DSt} {b : UInt8} {t : List UInt8} (hb : s.bs = b :: t) (h : b.toNat < 32) : stepD s = match litD s.L s.bs 4 with | none => none | some (f, r) => some ⟨r, s.most, s.L, s.told, s.acc ++ [⟨f.n, f.v, decide (16 ≤ b.toNat)⟩]⟩ := by
  unfold stepD
  split
  · rename_i e
    rw [hb] at e
    cases e
  · rename_i b' t' e
    rw [hb] at e
    injection e with e1 e2
    subst e1 e2
    rw [if_neg (by omega), if_neg (by omega), if_neg (by omega)]
    all_goals rfl
theorem decR_dead {s0 s : DSt} {b : UInt8} {t : List UInt8} (h : decR s0 = decR s) (hb : s.bs = b :: t) (hs : stepD s = none) : decR s0 = (s, false) := by
  rw [h]
  exact decR_none (by rw [hb]; simp) hs

theorem Tb.mem_ {w : World} {B g : Nat} {F : List Nat} {most : Int} {l : List Fd} (h : Tb w B F g most l) : g ∈ F := by
  obtain ⟨A, n, c, _, rfl⟩ := h
  simp

set_option maxHeartbeats 4000000 in
set_option maxRecDepth 100000 in
theorem kread_any (B g gt : Nat) (F0 : List Nat) (A : Option Addr) (n c : Nat) (bs : List UInt8) (room : Int) (most : Int) (L : List Fd) (w : World) (h : KbAt w g gt A n c bs room 0 (.slice none 0 0)) (ht : Tb w B F0 gt most L) (hg : g ∉ F0) (hA : Off A F0) (hL : TabOk most L) (hn : n ≤ 16777216) :
    Calls Tryd.prog 25 #[.pointer (some ⟨g, 0, none⟩)] w (ReadPost w B g gt F0 room (startD bs most L)) := by
  have H := hid h
  have HT := hid ht
  have HG := hid hg
  have HA := hid hA
  have HL := hid hL
  have hgl := h.blk.lt
  have hlen := h.len
  have HLEN := hid hlen
  clear h ht hg hA hL hlen
  generalize hs0 : startD bs most L = s0
  have HS0 := hid hs0
  clear hs0
  go_enter Tryd.func25, Tryd.ntmps25
  go_upto_region 1 with fail
  obtain ⟨fb, hfb⟩ : ∃ fb, w.heap.size = fb := ⟨_, rfl⟩
  have HFB := hid hfb
  clear hfb
  refine wp_scope_fall (JR w B g gt fb F0 room s0) (muR g) ?_ ?_
  · go_upto_region 7 with fail
    have hfb := HFB.out
    rw [hfb]
    obtain ⟨wr, hwr⟩ : ∃ wr, w.alloc (.cells #[.string ⟨#[]⟩, .string ⟨#[]⟩, .bool false] 31) = wr := ⟨_, rfl⟩
    have hF : Blk wr fb 31 #[.string ⟨#[]⟩, .string ⟨#[]⟩, .bool false] := by rw [← hwr, ← hfb]; exact Blk.new w _ _
    have hb : Below w.heap.size w wr := by rw [← hwr]; exact (Below.refl _ _).alloc (Nat.le_refl _) _
    rw [hwr]
    have hS : RdS w wr B g gt fb F0 F0 A n c none 0 0 [] room s0 ⟨⟨#[]⟩, ⟨#[]⟩, false⟩ := by
      rw [← HS0.out]
      refine ⟨H.out.below hb, HT.out.below hb, HL.out, World.ownsRow_nil _ _ _ _, fun _ => rfl, Nat.le_refl _, ?_, ?_, HG.out, HA.out, by simp [Value.ownBlock], (fun k _ => by simp [Value.ownBlock]), (fun ad _ hm => by cases hm), hF, by omega, fun hm => ?_, by simp [Value.ownBlock], fun ad e hm => ?_, Turned.of_below hb, fun k hk => .inl hk, (fun k hk => by cases hk), by omega⟩
      · have := HLEN.out
        simp only [startD, total, List.map_nil, List.sum_nil]
        omega
      · have := HLEN.out
        simp only [startD, List.length_nil]
        omega
      · have := (HT.out.ge fb hm).2
        omega
      · have := H.out.lt ad e
        have := List.mem_singleton.1 hm
        omega
    have HSi := hid hS
    clear hF hb hwr hS hfb
    refine wp_label ?_
    rename_i hK0
    refine hK0 _ _ ?_
    clear hK0
    refine by_frame (J := fun a' => JR w B g gt fb F0 room s0 0 a' wr) _ (show JR w B g gt fb F0 room s0 0 _ wr from .inl ⟨by decide, F0, A, n, c, none, 0, 0, [], s0, _, _, .bool false, by rw [← HS0.out]; exact frame_some _ rfl, by rw [← HS0.out]; rfl, by rw [← HS0.out]; exact Nat.zero_le _, HSi.out, rfl, .inl rfl⟩) ?_
    clear HSi
    rintro a' (⟨_, F, A, n, c, Al, nl, cl, fs, s, f, v5, v8, ⟨us, rfl⟩, h8, htl, hS, hd, _⟩ | ⟨h, _⟩)
    rotate_left
    · exact absurd h (by decide)
    have HS := hid hS
    have HD := hid hd
    have H8 := hid h8
    have HTL := hid htl
    clear htl hS hd h8 H HT HG HA HL HLEN hgl hn
    have c0 := HS.out.kb.blk.cell 0
    have hlen := HS.out.kb.len
    simp at c0
    rcases hbs : s.bs with _ | ⟨b, t⟩
    · have hn0 : n = 0 := by rw [← hlen, hbs]; rfl
      have HRET := hid (show ReadPost w B g gt F0 room s0 (.returned (.bool true)) wr from .inr ⟨by rw [HD.out, decR_nil hbs], rfl, fb, F, A, n, c, Al, nl, cl, fs, f, by rw [HD.out, decR_nil hbs]; exact HS.out⟩)
      subst hn0
      clear hlen hbs
      go_wp2_with fail
      simp only [jumps]
      refine bodyPost_ret (v := .bool true) (by simp [results, Tryd.results25, go_sem]) rfl ?_
      exact HRET.out
    · have HBS := hid hbs
      have hnp : 0 < n := by rw [← hlen, hbs]; simp
      obtain ⟨bb, oo, x, hAe, hx, hcx⟩ := HS.out.kb.bytes.at_ (i := 0) hnp
      subst hAe
      rw [hbs] at hx
      obtain rfl : b = x := by simpa using hx
      rw [Nat.add_zero] at hcx
      have hc1 : wr.cell? ⟨bb, oo, none⟩ = some (.int .u8 (b.toNat : Int)) := hcx
      have hb256 := b.toNat_lt
      have HNP := hid (show n ≤ 1073741824 by have := HS.out.num; rw [hlen] at this; omega)
      clear hlen hbs hx hcx
      by_cases h1 : 128 ≤ b.toNat
      · have h1i : (128 : Int) ≤ (b.toNat : Int) := by omega
        go_wp2_with fail
        go_step3
        exact (show JR w B g gt fb F0 room s0 1 _ _ from .inl ⟨by decide, F, _, n, c, Al, nl, cl, fs, s, f, _, v8, frame_some _ rfl, H8.out, HTL.out, HS.out, HD.out, .inr ⟨b, t, HBS.out, .inl ⟨rfl, h1⟩⟩⟩)
      by_cases h2 : 64 ≤ b.toNat
      · have h1i : (b.toNat : Int) < 128 := by omega
        have h2i : (64 : Int) ≤ (b.toNat : Int) := by omega
        go_wp2_with fail
        go_step3
        exact (show JR w B g gt fb F0 room s0 2 _ _ from .inl ⟨by decide, F, _, n, c, Al, nl, cl, fs, s, f, _, v8, frame_some _ rfl, H8.out, HTL.out, HS.out, HD.out, .inr ⟨b, t, HBS.out, .inr (.inl ⟨rfl, by omega, h2⟩)⟩⟩)
      by_cases h3 : 32 ≤ b.toNat
      · have h1i : (b.toNat : Int) < 64 := by omega
        have h3i : (32 : Int) ≤ (b.toNat : Int) := by omega
        go_wp2_with fail
        go_step3
        exact (show JR w B g gt fb F0 room s0 3 _ _ from .inl ⟨by decide, F, _, n, c, Al, nl, cl, fs, s, f, _, v8, frame_some _ rfl, H8.out, HTL.out, HS.out, HD.out, .inr ⟨b, t, HBS.out, .inr (.inr ⟨rfl, by omega, h3⟩)⟩⟩)
      have h1i : (b.toNat : Int) < 32 := by omega
      have HST := hid (stepD_plain HBS.out (by omega))
      go_wp2_with fail
      refine (klit_any 4 B g gt F s.most s.L _ n c s.bs room (total s.acc : Nat) (.slice Al nl cl) wr HS.out.kb HS.out.tb HS.out.gF HS.out.ok HNP.out).mono ?_
      intro e w2 hp
      unfold KlPost at hp
      rcases hl : litD s.L s.bs 4 with _ | ⟨f2, r⟩
      · have HDE := hid (decR_dead HD.out HBS.out (by rw [HST.out, hl]))
        rw [hl] at hp
        obtain ⟨f3, rfl, ht2⟩ := hp
        have hF2 := Blk.turned HS.out.box ht2 (fun hm => HS.out.bg (List.mem_singleton.1 hm))
        have HT2 := hid ht2
        have k0 := hF2.cell 0
        have k1 := hF2.cell 1
        have k2 := hF2.cell 2
        have kf0 := hF2.frozen 0
        have kf1 := hF2.frozen 1
        have kf2 := hF2.frozen 2
        simp at k0 k1 k2
        clear hF2 ht2 hl c0 hc1
        go_wp2_with fail
        clear k0 kf0 k1 kf1 k2 kf2
        have HX := hid (show RdX w ((((w2.setCell ⟨fb, 0, none⟩ (.string f3.n)).setCell ⟨fb, 1, none⟩ (.string f3.v)).setCell ⟨fb, 2, none⟩ (.bool f3.x)).setCell ⟨fb, 2, none⟩ (.bool (decide (16 ≤ (b.toNat : Int))))) B g gt F0 s from HS.out.dead (G := [g, fb]) ((HT2.out.mono (fun b hb => by have := List.mem_singleton.1 hb; simp [this])).trans (G := [fb]) (((((Turned.refl _ _).setCell (by simp) _).setCell (by simp) _).setCell (by simp) _).setCell (by simp) _) (fun b hb => .inl (by have := List.mem_singleton.1 hb; simp [this]))) (fun k hk => by simpa using hk))
        go_step3
        exact (show JR w B g gt fb F0 room s0 4 _ _ from .inr ⟨rfl, .inl ⟨v8, s.told, frame_some _ rfl, by rw [HDE.out], by rw [HDE.out]; exact HX.out⟩⟩)
      · have hok := litD_ok (by have := HS.out.ok.2.2.1; have := HS.out.ok.2.1; omega) HS.out.ok.2.2.2 hl
        have HOK := hid hok
        have HDE : Hid (decR s0 = decR ⟨r, s.most, s.L, s.told, s.acc ++ [⟨f2.n, f2.v, decide (16 ≤ b.toNat)⟩]⟩) := hid (by rw [HD.out]; exact decR_some (by rw [HST.out, hl]))
        rw [hl] at hp
        simp only at hp
        obtain ⟨A2, n2, c2, rfl, hk2, ht2, hs2⟩ := hp
        have HS2 := hid (HS.out.read hk2 ht2 hs2 (by have := hok.1; omega))
        have hF2 := HS2.out.box
        unfold BoxAt at hF2
        have k0 := hF2.cell 0
        have k1 := hF2.cell 1
        have k2 := hF2.cell 2
        have kf0 := hF2.frozen 0
        have kf1 := hF2.frozen 1
        have kf2 := hF2.frozen 2
        simp at k0 k1 k2
        clear hF2 ht2 hl hk2 hs2 hok c0 hc1
        go_wp2_with fail
        clear k0 kf0 k1 kf1 k2 kf2
        have HB3 : Hid (BoxAt ((((w2.setCell ⟨fb, 0, none⟩ (.string f2.n)).setCell ⟨fb, 1, none⟩ (.string f2.v)).setCell ⟨fb, 2, none⟩ (.bool f2.x)).setCell ⟨fb, 2, none⟩ (.bool (decide (16 ≤ (b.toNat : Int))))) fb ⟨f2.n, f2.v, decide (16 ≤ b.toNat)⟩) := hid (by
          have hz := (((Blk.set_ HS2.out.box 0 (.string f2.n)).set_ 1 (.string f2.v)).set_ 2 (.bool f2.x)).set_ 2 (.bool (decide (16 ≤ (b.toNat : Int))))
          unfold BoxAt
          have e : decide (16 ≤ (b.toNat : Int)) = decide (16 ≤ b.toNat) := by by_cases h : 16 ≤ b.toNat <;> simp [h] <;> omega
          simpa [e] using hz)
        have HT3 : Hid (Turned [fb] w2 ((((w2.setCell ⟨fb, 0, none⟩ (.string f2.n)).setCell ⟨fb, 1, none⟩ (.string f2.v)).setCell ⟨fb, 2, none⟩ (.bool f2.x)).setCell ⟨fb, 2, none⟩ (.bool (decide (16 ≤ (b.toNat : Int)))))) := hid (((((Turned.refl _ _).setCell (by simp) _).setCell (by simp) _).setCell (by simp) _).setCell (by simp) _)
        have HS3 := hid (HS2.out.boxed HB3.out HT3.out)
        have HSZ := hid (show total s.acc + Fd.size ⟨f2.n, f2.v, decide (16 ≤ b.toNat)⟩ + 32800 * r.length ≤ 1099511627776 ∧ s.acc.length + 1 + r.length ≤ 1073741824 by
          have h1 := HS.out.bnd
          have h2 := HS.out.num
          have h3 := HOK.out.1
          have h4 := HOK.out.2.1
          have h5 : 32800 * (r.length + 1) ≤ 32800 * s.bs.length := Nat.mul_le_mul_left _ h3
          simp only [Fd.size] at h4 ⊢
          omega)
        go_step3
        exact (show JR w B g gt fb F0 room s0 4 _ _ from .inr ⟨rfl, .inr ⟨F, A2, n2, c2, Al, nl, cl, fs, ⟨r, s.most, s.L, s.told, s.acc⟩, ⟨f2.n, f2.v, decide (16 ≤ b.toNat)⟩, v8, frame_some _ rfl, HTL.out, HS3.out, HDE.out, HSZ.out⟩⟩)
  · rintro lab a' wr (⟨hlab, F, A, n, c, Al, nl, cl, fs, s, f, v5, v8, ⟨us, rfl⟩, h8, htl, hS, hd, hhd⟩ | ⟨rfl, hF⟩)
    · have HS := hid hS
      have HD := hid hd
      have H8 := hid h8
      have HTL := hid htl
      clear htl hS hd h8 H HT HG HA HL HLEN hgl hn
      rcases (show lab = 0 ∨ lab = 1 ∨ lab = 2 ∨ lab = 3 by omega) with rfl | rfl | rfl | rfl
      · clear hhd
        refine ⟨_, rfl, ?_⟩
        have c0 := HS.out.kb.blk.cell 0
        have hlen := HS.out.kb.len
        simp at c0
        rcases hbs : s.bs with _ | ⟨b, t⟩
        · have hn0 : n = 0 := by rw [← hlen, hbs]; rfl
          have HRET := hid (show ReadPost w B g gt F0 room s0 (.returned (.bool true)) wr from .inr ⟨by rw [HD.out, decR_nil hbs], rfl, fb, F, A, n, c, Al, nl, cl, fs, f, by rw [HD.out, decR_nil hbs]; exact HS.out⟩)
          subst hn0
          clear hlen hbs
          go_wp2_with fail
          simp only [jumps]
          refine bodyPost_ret (v := .bool true) (by simp [results, Tryd.results25, go_sem]) rfl ?_
          exact HRET.out
        · have HBS := hid hbs
          have hnp : 0 < n := by rw [← hlen, hbs]; simp
          obtain ⟨bb, oo, x, hAe, hx, hcx⟩ := HS.out.kb.bytes.at_ (i := 0) hnp
          subst hAe
          rw [hbs] at hx
          obtain rfl : b = x := by simpa using hx
          rw [Nat.add_zero] at hcx
          have hc1 : wr.cell? ⟨bb, oo, none⟩ = some (.int .u8 (b.toNat : Int)) := hcx
          have hb256 := b.toNat_lt
          have HNP := hid (show n ≤ 1073741824 by have := HS.out.num; rw [hlen] at this; omega)
          clear hlen hbs hx hcx
          by_cases h1 : 128 ≤ b.toNat
          · have h1i : (128 : Int) ≤ (b.toNat : Int) := by omega
            go_wp2_with fail
            go_step3
            refine ⟨(show JR w B g gt fb F0 room s0 1 _ _ from .inl ⟨by decide, F, _, n, c, Al, nl, cl, fs, s, f, _, v8, frame_some _ rfl, H8.out, HTL.out, HS.out, HD.out, .inr ⟨b, t, HBS.out, .inl ⟨rfl, h1⟩⟩⟩), ?_⟩
            simp [muR]
          by_cases h2 : 64 ≤ b.toNat
          · have h1i : (b.toNat : Int) < 128 := by omega
            have h2i : (64 : Int) ≤ (b.toNat : Int) := by omega
            go_wp2_with fail
            go_step3
            refine ⟨(show JR w B g gt fb F0 room s0 2 _ _ from .inl ⟨by decide, F, _, n, c, Al, nl, cl, fs, s, f, _, v8, frame_some _ rfl, H8.out, HTL.out, HS.out, HD.out, .inr ⟨b, t, HBS.out, .inr (.inl ⟨rfl, by omega, h2⟩)⟩⟩), ?_⟩
            simp [muR]
          by_cases h3 : 32 ≤ b.toNat
          · have h1i : (b.toNat : Int) < 64 := by omega
            have h3i : (32 : Int) ≤ (b.toNat : Int) := by omega
            go_wp2_with fail
            go_step3
            refine ⟨(show JR w B g gt fb F0 room s0 3 _ _ from .inl ⟨by decide, F, _, n, c, Al, nl, cl, fs, s, f, _, v8, frame_some _ rfl, H8.out, HTL.out, HS.out, HD.out, .inr ⟨b, t, HBS.out, .inr (.inr ⟨rfl, by omega, h3⟩)⟩⟩), ?_⟩
            simp [muR]
          have h1i : (b.toNat : Int) < 32 := by omega
          have HST := hid (stepD_plain HBS.out (by omega))
          go_wp2_with fail
          refine (klit_any 4 B g gt F s.most s.L _ n c s.bs room (total s.acc : Nat) (.slice Al nl cl) wr HS.out.kb HS.out.tb HS.out.gF HS.out.ok HNP.out).mono ?_
          intro e w2 hp
          unfold KlPost at hp
          rcases hl : litD s.L s.bs 4 with _ | ⟨f2, r⟩
          · have HDE := hid (decR_dead HD.out HBS.out (by rw [HST.out, hl]))
            rw [hl] at hp
            obtain ⟨f3, rfl, ht2⟩ := hp
            have hF2 := Blk.turned HS.out.box ht2 (fun hm => HS.out.bg (List.mem_singleton.1 hm))
            have HT2 := hid ht2
            have k0 := hF2.cell 0
            have k1 := hF2.cell 1
            have k2 := hF2.cell 2
            have kf0 := hF2.frozen 0
            have kf1 := hF2.frozen 1
            have kf2 := hF2.frozen 2
            simp at k0 k1 k2
            clear hF2 ht2 hl c0 hc1
            go_wp2_with fail
            clear k0 kf0 k1 kf1 k2 kf2
            have HX := hid (show RdX w ((((w2.setCell ⟨fb, 0, none⟩ (.string f3.n)).setCell ⟨fb, 1, none⟩ (.string f3.v)).setCell ⟨fb, 2, none⟩ (.bool f3.x)).setCell ⟨fb, 2, none⟩ (.bool (decide (16 ≤ (b.toNat : Int))))) B g gt F0 s from HS.out.dead (G := [g, fb]) ((HT2.out.mono (fun b hb => by have := List.mem_singleton.1 hb; simp [this])).trans (G := [fb]) (((((Turned.refl _ _).setCell (by simp) _).setCell (by simp) _).setCell (by simp) _).setCell (by simp) _) (fun b hb => .inl (by have := List.mem_singleton.1 hb; simp [this]))) (fun k hk => by simpa using hk))
            go_step3
            refine ⟨(show JR w B g gt fb F0 room s0 4 _ _ from .inr ⟨rfl, .inl ⟨v8, s.told, frame_some _ rfl, by rw [HDE.out], by rw [HDE.out]; exact HX.out⟩⟩), ?_⟩
            simp only [muR, lenB_of HS.out, HBS.out, List.length_cons]
            simp
          · have hok := litD_ok (by have := HS.out.ok.2.2.1; have := HS.out.ok.2.1; omega) HS.out.ok.2.2.2 hl
            have HOK := hid hok
            have HDE : Hid (decR s0 = decR ⟨r, s.most, s.L, s.told, s.acc ++ [⟨f2.n, f2.v, decide (16 ≤ b.toNat)⟩]⟩) := hid (by rw [HD.out]; exact decR_some (by rw [HST.out, hl]))
            rw [hl] at hp
            simp only at hp
            obtain ⟨A2, n2, c2, rfl, hk2, ht2, hs2⟩ := hp
            have HS2 := hid (HS.out.read hk2 ht2 hs2 (by have := hok.1; omega))
            have hF2 := HS2.out.box
            unfold BoxAt at hF2
            have k0 := hF2.cell 0
            have k1 := hF2.cell 1
            have k2 := hF2.cell 2
            have kf0 := hF2.frozen 0
            have kf1 := hF2.frozen 1
            have kf2 := hF2.frozen 2
            simp at k0 k1 k2
            clear hF2 ht2 hl hk2 hs2 hok c0 hc1
            go_wp2_with fail
            clear k0 kf0 k1 kf1 k2 kf2
            have HB3 : Hid (BoxAt ((((w2.setCell ⟨fb, 0, none⟩ (.string f2.n)).setCell ⟨fb, 1, none⟩ (.string f2.v)).setCell ⟨fb, 2, none⟩ (.bool f2.x)).setCell ⟨fb, 2, none⟩ (.bool (decide (16 ≤ (b.toNat : Int))))) fb ⟨f2.n, f2.v, decide (16 ≤ b.toNat)⟩) := hid (by
              have hz := (((Blk.set_ HS2.out.box 0 (.string f2.n)).set_ 1 (.string f2.v)).set_ 2 (.bool f2.x)).set_ 2 (.bool (decide (16 ≤ (b.toNat : Int))))
              unfold BoxAt
              have e : decide (16 ≤ (b.toNat : Int)) = decide (16 ≤ b.toNat) := by by_cases h : 16 ≤ b.toNat <;> simp [h] <;> omega
              simpa [e] using hz)
            have HT3 : Hid (Turned [fb] w2 ((((w2.setCell ⟨fb, 0, none⟩ (.string f2.n)).setCell ⟨fb, 1, none⟩ (.string f2.v)).setCell ⟨fb, 2, none⟩ (.bool f2.x)).setCell ⟨fb, 2, none⟩ (.bool (decide (16 ≤ (b.toNat : Int)))))) := hid (((((Turned.refl _ _).setCell (by simp) _).setCell (by simp) _).setCell (by simp) _).setCell (by simp) _)
            have HS3 := hid (HS2.out.boxed HB3.out HT3.out)
            have HSZ := hid (show total s.acc + Fd.size ⟨f2.n, f2.v, decide (16 ≤ b.toNat)⟩ + 32800 * r.length ≤ 1099511627776 ∧ s.acc.length + 1 + r.length ≤ 1073741824 by
              have h1 := HS.out.bnd
              have h2 := HS.out.num
              have h3 := HOK.out.1
              have h4 := HOK.out.2.1
              have h5 : 32800 * (r.length + 1) ≤ 32800 * s.bs.length := Nat.mul_le_mul_left _ h3
              simp only [Fd.size] at h4 ⊢
              omega)
            go_step3
            refine ⟨(show JR w B g gt fb F0 room s0 4 _ _ from .inr ⟨rfl, .inr ⟨F, A2, n2, c2, Al, nl, cl, fs, ⟨r, s.most, s.L, s.told, s.acc⟩, ⟨f2.n, f2.v, decide (16 ≤ b.toNat)⟩, v8, frame_some _ rfl, HTL.out, HS3.out, HDE.out, HSZ.out⟩⟩), ?_⟩
            simp only [muR, lenB_of HS3.out, lenB_of HS.out, HBS.out, List.length_cons]
            have := HOK.out.1
            rw [HBS.out] at this
            simp at this ⊢
            omega
      · have hhd := hhd.resolve_left (by decide)
        refine ⟨_, rfl, ?_⟩
        obtain ⟨b, t, hbs, hh⟩ := hhd
        have HST := hid (stepD_known hbs (by omega))
        have HBS := hid hbs
        have hnn : n ≤ 1073741824 := by have := HS.out.num; have := HS.out.kb.len; omega
        clear hh hbs
        go_wp2_with fail
        refine (knum_any 7 g gt A n c s.bs room (total s.acc : Nat) (.slice Al nl cl) wr HS.out.kb hnn).mono ?_
        intro e w2 hp
        unfold KnPost at hp
        rcases hnp : numP s.bs 7 with _ | ⟨m, r⟩
        · have HDE := hid (decR_dead HD.out HBS.out (by rw [HST.out, hnp]))
          rw [hnp] at hp
          obtain ⟨rfl, rfl⟩ := hp
          have HX := hid (show RdX w wr B g gt F0 s from HS.out.dead (G := []) (Turned.refl _ _) (fun k hk => by cases hk))
          clear hnp
          go_wp2_with fail
          go_step3
          refine ⟨(show JR w B g gt fb F0 room s0 4 _ _ from .inr ⟨rfl, .inl ⟨v8, s.told, frame_some _ rfl, by rw [HDE.out], by rw [HDE.out]; exact HX.out⟩⟩), ?_⟩
          simp only [muR, lenB_of HS.out, HBS.out, List.length_cons]
          simp
        · have hok := numP_ok hnp
          have HOK := hid hok
          have hm2 := hok.2
          rw [hnp] at hp
          simp only at hp
          obtain ⟨A2, n2, c2, rfl, hk2, ht2, hs2⟩ := hp
          have HS2 := hid (HS.out.read hk2 ht2 hs2 (by have := hok.1; omega))
          have HNP := hid hnp
          have hLl := HS.out.ok.len
          clear hnp hok hk2 ht2 hs2
          go_wp2_with fail
          refine (kat_any m B g gt F s.most s.L A2 n2 c2 r room (total s.acc : Nat) (.slice Al nl cl) w2 HS2.out.kb HS2.out.tb hLl hm2).mono ?_
          rintro e w3 ⟨f2, rfl, hf2, hb3⟩
          have HS3 := hid (HS2.out.below hb3)
          have hF3 := HS3.out.box
          unfold BoxAt at hF3
          have k0 := hF3.cell 0
          have k1 := hF3.cell 1
          have k2 := hF3.cell 2
          have kf0 := hF3.frozen 0
          have kf1 := hF3.frozen 1
          have kf2 := hF3.frozen 2
          simp at k0 k1 k2
          clear hF3 hb3
          rcases hat : atD s.L m with _ | f3
          · have HDE := hid (decR_dead HD.out HBS.out (by rw [HST.out, HNP.out]; simp only; rw [hat]))
            have hsn : (atD s.L m).isSome = false := by rw [hat]; rfl
            clear hat hf2
            go_wp2_with fail
            have HX := hid (show RdX w (((w3.setCell ⟨fb, 0, none⟩ (.string f2.n)).setCell ⟨fb, 1, none⟩ (.string f2.v)).setCell ⟨fb, 2, none⟩ (.bool f2.x)) B g gt F0 s from HS3.out.dead (s := ⟨r, s.most, s.L, s.told, s.acc⟩) (G := [fb]) ((((Turned.refl _ _).setCell (by simp) _).setCell (by simp) _).setCell (by simp) _) (fun k hk => .inr (List.mem_singleton.1 hk)))
            go_step3
            refine ⟨(show JR w B g gt fb F0 room s0 4 _ _ from .inr ⟨rfl, .inl ⟨v8, s.told, frame_some _ rfl, by rw [HDE.out], by rw [HDE.out]; exact HX.out⟩⟩), ?_⟩
            simp only [muR, lenB_of HS.out, HBS.out, List.length_cons]
            simp
          · obtain rfl : f2 = f3 := hf2 f3 hat
            have HDE : Hid (decR s0 = decR ⟨r, s.most, s.L, s.told, s.acc ++ [f2]⟩) := hid (by rw [HD.out]; exact decR_some (by rw [HST.out, HNP.out]; simp only; rw [hat]))
            have hfz := atD_small (M := 4096) (by have := HS.out.ok.2.2.1; have := HS.out.ok.2.1; omega) (by omega) hat
            have hsn : (atD s.L m).isSome = true := by rw [hat]; rfl
            have HFZ := hid hfz
            clear hat hf2 hfz
            go_wp2_with fail
            have HB3 : Hid (BoxAt (((w3.setCell ⟨fb, 0, none⟩ (.string f2.n)).setCell ⟨fb, 1, none⟩ (.string f2.v)).setCell ⟨fb, 2, none⟩ (.bool f2.x)) fb f2) := hid (by
              have hz := ((Blk.set_ HS3.out.box 0 (.string f2.n)).set_ 1 (.string f2.v)).set_ 2 (.bool f2.x)
              unfold BoxAt
              simpa using hz)
            have HT3 : Hid (Turned [fb] w3 (((w3.setCell ⟨fb, 0, none⟩ (.string f2.n)).setCell ⟨fb, 1, none⟩ (.string f2.v)).setCell ⟨fb, 2, none⟩ (.bool f2.x))) := hid ((((Turned.refl _ _).setCell (by simp) _).setCell (by simp) _).setCell (by simp) _)
            have HS4 := hid (HS3.out.boxed HB3.out HT3.out)
            have HSZ := hid (show total s.acc + f2.size + 32800 * r.length ≤ 1099511627776 ∧ s.acc.length + 1 + r.length ≤ 1073741824 by
              have h1 := HS.out.bnd
              have h2 := HS.out.num
              have h3 := HOK.out.1
              have h4 := HFZ.out
              have h5 : 32800 * (r.length + 1) ≤ 32800 * s.bs.length := Nat.mul_le_mul_left _ h3
              omega)
            go_step3
            refine ⟨(show JR w B g gt fb F0 room s0 4 _ _ from .inr ⟨rfl, .inr ⟨F, A2, n2, c2, Al, nl, cl, fs, ⟨r, s.most, s.L, s.told, s.acc⟩, f2, v8, frame_some _ rfl, HTL.out, HS4.out, HDE.out, HSZ.out⟩⟩), ?_⟩
            simp only [muR, lenB_of HS4.out, lenB_of HS.out, HBS.out, List.length_cons]
            have := HOK.out.1
            rw [HBS.out] at this
            simp at this ⊢
            omega
      · have hhd := hhd.resolve_left (by decide)
        refine ⟨_, rfl, ?_⟩
        obtain ⟨b, t, hbs, hh⟩ := hhd
        have HST := hid (stepD_added hbs (by omega) (by omega))
        have HBS := hid hbs
        have HNP := hid (show n ≤ 1073741824 by have := HS.out.num; have := HS.out.kb.len; omega)
        have c0 := HS.out.kb.blk.cell 0
        have hc1 := c0
        clear hh hbs
        go_wp2_with fail
        refine (klit_any 6 B g gt F s.most s.L A n c s.bs room (total s.acc : Nat) (.slice Al nl cl) wr HS.out.kb HS.out.tb HS.out.gF HS.out.ok HNP.out).mono ?_
        intro e w2 hp
        unfold KlPost at hp
        rcases hl : litD s.L s.bs 6 with _ | ⟨f2, r⟩
        · have HDE := hid (decR_dead HD.out HBS.out (by rw [HST.out, hl]))
          rw [hl] at hp
          obtain ⟨f3, rfl, ht2⟩ := hp
          have hF2 := Blk.turned HS.out.box ht2 (fun hm => HS.out.bg (List.mem_singleton.1 hm))
          have HT2 := hid ht2
          have k0 := hF2.cell 0
          have k1 := hF2.cell 1
          have k2 := hF2.cell 2
          have kf0 := hF2.frozen 0
          have kf1 := hF2.frozen 1
          have kf2 := hF2.frozen 2
          simp at k0 k1 k2
          clear hF2 ht2 hl c0 hc1
          go_wp2_with fail
          clear k0 kf0 k1 kf1 k2 kf2
          have HX := hid (show RdX w (((w2.setCell ⟨fb, 0, none⟩ (.string f3.n)).setCell ⟨fb, 1, none⟩ (.string f3.v)).setCell ⟨fb, 2, none⟩ (.bool f3.x)) B g gt F0 s from HS.out.dead (G := [g, fb]) ((HT2.out.mono (fun b hb => by have := List.mem_singleton.1 hb; simp [this])).trans (G := [fb]) ((((Turned.refl _ _).setCell (by simp) _).setCell (by simp) _).setCell (by simp) _) (fun b hb => .inl (by have := List.mem_singleton.1 hb; simp [this]))) (fun k hk => by simpa using hk))
          go_step3
          refine ⟨(show JR w B g gt fb F0 room s0 4 _ _ from .inr ⟨rfl, .inl ⟨v8, s.told, frame_some _ rfl, by rw [HDE.out], by rw [HDE.out]; exact HX.out⟩⟩), ?_⟩
          simp only [muR, lenB_of HS.out, HBS.out, List.length_cons]
          simp
        · have hok := litD_ok (by have := HS.out.ok.2.2.1; have := HS.out.ok.2.1; omega) HS.out.ok.2.2.2 hl
          have HOK := hid hok
          have HDE : Hid (decR s0 = decR ⟨r, s.most, addL s.most s.L f2, s.told, s.acc ++ [f2]⟩) := hid (by rw [HD.out]; exact decR_some (by rw [HST.out, hl]))
          rw [hl] at hp
          simp only at hp
          obtain ⟨A2, n2, c2, rfl, hk2, ht2, hs2⟩ := hp
          have HS2 := hid (HS.out.read hk2 ht2 hs2 (by have := hok.1; omega))
          have hF2 := HS2.out.box
          unfold BoxAt at hF2
          have k0 := hF2.cell 0
          have k1 := hF2.cell 1
          have k2 := hF2.cell 2
          have kf0 := hF2.frozen 0
          have kf1 := hF2.frozen 1
          have kf2 := hF2.frozen 2
          simp at k0 k1 k2
          have hgfb := HS2.out.bg
          have c1 := HS2.out.kb.blk.cell 1
          simp at c1
          clear hF2 ht2 hl hk2 hs2 hok c0 hc1
          go_upto_region 19 with fail
          clear k0 kf0 k1 kf1 k2 kf2
          have HB3 : Hid (BoxAt (((w2.setCell ⟨fb, 0, none⟩ (.string f2.n)).setCell ⟨fb, 1, none⟩ (.string f2.v)).setCell ⟨fb, 2, none⟩ (.bool f2.x)) fb f2) := hid (by
            have hz := (((Blk.set_ HS2.out.box 0 (.string f2.n)).set_ 1 (.string f2.v)).set_ 2 (.bool f2.x))
            unfold BoxAt
            skip
            simpa using hz)
          have HT3 : Hid (Turned [fb] w2 (((w2.setCell ⟨fb, 0, none⟩ (.string f2.n)).setCell ⟨fb, 1, none⟩ (.string f2.v)).setCell ⟨fb, 2, none⟩ (.bool f2.x))) := hid ((((Turned.refl _ _).setCell (by simp) _).setCell (by simp) _).setCell (by simp) _)
          have HS3 := hid (HS2.out.boxed HB3.out HT3.out)
          have HSZ := hid (show total s.acc + Fd.size f2 + 32800 * r.length ≤ 1099511627776 ∧ s.acc.length + 1 + r.length ≤ 1073741824 by
            have h1 := HS.out.bnd
            have h2 := HS.out.num
            have h3 := HOK.out.1
            have h4 := HOK.out.2.1
            have h5 : 32800 * (r.length + 1) ≤ 32800 * s.bs.length := Nat.mul_le_mul_left _ h3
            simp only [Fd.size] at h4 ⊢
            omega)
          clear HT3 HB3
          generalize ((w2.setCell ⟨fb, 0, none⟩ (.string f2.n)).setCell ⟨fb, 1, none⟩ (.string f2.v)).setCell ⟨fb, 2, none⟩ (.bool f2.x) = w3 at HS3 ⊢
          have HADD := hid (add_tb f2 (HS3.out.tb.below (Below.refl w3.heap.size w3).drew) (by have := HS3.out.ok.2.2.1; have := HS3.out.ok.2.1; dsimp only at *; omega) (by have := HOK.out.2.1; omega) (by have := HS3.out.ok.len; dsimp only at *; omega) (by have := (HS3.out.tb.ge gt (Tb.mem_ HS3.out.tb)).1; have := (HS3.out.tb.ge gt (Tb.mem_ HS3.out.tb)).2; simp; omega) (by have := HS3.out.ok.1; exact this) (by have := HS3.out.ok.2.1; dsimp only at *; omega))
          obtain ⟨k0, k1, k2⟩ := BoxAt.c HS3.out.box
          have c1 := HS3.out.kb.blk.cell 1
          simp at c1
          go_wp2_with fail
          (refine wp_mix ?_ ?_ ?_; (focus kernel_rfl); (focus kernel_rfl); intro KK hKK; go_wp2_with (first
                | (go_at_call 39; go_must (refine HADD.out.mono ?_); rintro e w5 ⟨F5, rfl, h5, ht5, hk5⟩; have HS5 := hid ((HS3.out.below (Below.refl w3.heap.size w3).drew).tabbed h5 (HS3.out.ok.add f2) ht5 hk5 s.told); clear h5 ht5 hk5)
                | (with_reducible refine mix_nil ?_)
                | ((with_reducible refine mix_on ?_ ?_); (focus rfl); intro K hK; go_simp; (first | ((with_reducible refine hK _ _ ?_); clear hK K) | skip))
                | ((with_reducible refine mix_off ?_ ?_); (focus rfl); intro K hK; go_simp; (first | ((with_reducible refine hK _ _ ?_); clear hK K) | skip))
                | ((with_reducible refine mix_step ?_); intro K hK; go_simp; (first | ((with_reducible refine hK _ _ ?_); clear hK K) | skip))))
          go_step3
          refine ⟨(show JR w B g gt fb F0 room s0 4 _ _ from .inr ⟨rfl, .inr ⟨F5, A2, n2, c2, Al, nl, cl, fs, ⟨r, s.most, addL s.most s.L f2, s.told, s.acc⟩, f2, v8, frame_some _ rfl, HTL.out, HS5.out, HDE.out, HSZ.out⟩⟩), ?_⟩
          simp only [muR, lenB_of HS5.out, lenB_of HS.out, HBS.out, List.length_cons]
          have := HOK.out.1
          rw [HBS.out] at this
          simp at this ⊢
          omega
      · have hhd := hhd.resolve_left (by decide)
        refine ⟨_, rfl, ?_⟩
        obtain ⟨b, t, hbs, hh⟩ := hhd
        have HST := hid (stepD_limit hbs (by omega) (by omega))
        have HBS := hid hbs
        have hnn : n ≤ 1073741824 := by have := HS.out.num; have := HS.out.kb.len; omega
        have htl : s.told ≤ 2 := HTL.out
        clear hh hbs
        go_wp2_with fail
        refine (knum_any 5 g gt A n c s.bs room (total s.acc : Nat) (.slice Al nl cl) wr HS.out.kb hnn).mono ?_
        intro e w2 hp
        unfold KnPost at hp
        rcases hnp : numP s.bs 5 with _ | ⟨m, r⟩
        · have HDE := hid (decR_dead HD.out HBS.out (by rw [HST.out, hnp]))
          rw [hnp] at hp
          obtain ⟨rfl, rfl⟩ := hp
          have HX := hid (show RdX w wr B g gt F0 s from HS.out.dead (G := []) (Turned.refl _ _) (fun k hk => by cases hk))
          clear hnp
          go_wp2_with fail
          simp only [jumps]
          refine bodyPost_ret (v := .bool false) (by simp [results, Tryd.results25, go_sem]) rfl ?_
          exact .inl ⟨by rw [HDE.out], rfl, by rw [HDE.out]; exact HX.out⟩
        · have hok := numP_ok hnp
          have HOK := hid hok
          rw [hnp] at hp
          simp only at hp
          obtain ⟨A2, n2, c2, rfl, hk2, ht2, hs2⟩ := hp
          have HS2 := hid (HS.out.read hk2 ht2 hs2 (by have := hok.1; omega))
          have HSN : Hid (stepD s = if s.acc ≠ [] ∨ 2 < s.told + 1 ∨ 4096 < m then none else some ⟨r, m, shr m s.L, s.told + 1, s.acc⟩) := hid (by rw [HST.out, hnp])
          have c1 := HS2.out.kb.blk.cell 1
          simp at c1
          clear hnp hok hk2 ht2 hs2
          have HX2 := hid (show RdX w w2 B g gt F0 s from HS2.out.dead (s := ⟨r, s.most, s.L, s.told, s.acc⟩) (G := []) (Turned.refl _ _) (fun k hk => by cases hk))
          by_cases ha : s.acc = []
          rotate_left
          · have HDE := hid (decR_dead HD.out HBS.out (by rw [HSN.out, if_pos (.inl ha)]))
            have h8t : v8 = .bool true := by rw [H8.out]; cases hq : s.acc with | nil => exact absurd hq ha | cons => rfl
            subst h8t
            clear ha
            go_wp2_with fail
            simp only [jumps]
            refine bodyPost_ret (v := .bool false) (by simp [results, Tryd.results25, go_sem]) rfl ?_
            exact .inl ⟨by rw [HDE.out], rfl, by rw [HDE.out]; exact HX2.out⟩
          have h8f : v8 = .bool false := by rw [H8.out, ha]; rfl
          subst h8f
          have HAC := hid ha
          clear ha
          by_cases ht3 : 2 < s.told + 1
          · have HDE := hid (decR_dead HD.out HBS.out (by rw [HSN.out, if_pos (.inr (.inl ht3))]))
            have ht3i : (2 : Int) < (s.told : Int) + 1 := by omega
            go_wp2_with fail
            simp only [jumps]
            refine bodyPost_ret (v := .bool false) (by simp [results, Tryd.results25, go_sem]) rfl ?_
            exact .inl ⟨by rw [HDE.out], rfl, by rw [HDE.out]; exact HX2.out⟩
          have HLIM := hid (limit_tb (m : Int) HS2.out.tb (by have := HS2.out.ok.2.2.1; have := HS2.out.ok.2.1; dsimp only at *; omega) (by have := HS2.out.ok.len; dsimp only at *; omega) (by have := HS2.out.tb.ge gt (Tb.mem_ HS2.out.tb); omega))
          by_cases hm : 4096 < m
          · have HDE := hid (decR_dead HD.out HBS.out (by rw [HSN.out, if_pos (.inr (.inr hm))]))
            go_wp2_with fail
            refine HLIM.out.mono ?_
            intro e w5 hp5
            unfold LimTb at hp5
            rw [if_pos (.inr (by omega))] at hp5
            obtain ⟨F5, rfl, h5, ht5, hk5⟩ := hp5
            have HX5 := hid (show RdX w w5 B g gt F0 s from (HS2.out.tabbed h5 HS2.out.ok ht5 hk5 s.told).dead (s := ⟨r, s.most, s.L, s.told, s.acc⟩) (G := []) (Turned.refl _ _) (fun k hk => by cases hk))
            clear h5 ht5 hk5
            go_wp2_with fail
            simp only [jumps]
            refine bodyPost_ret (v := .bool false) (by simp [results, Tryd.results25, go_sem]) rfl ?_
            exact .inl ⟨by rw [HDE.out], rfl, by rw [HDE.out]; exact HX5.out⟩
          · have HDE : Hid (decR s0 = decR ⟨r, m, shr m s.L, s.told + 1, s.acc⟩) := hid (by rw [HD.out]; exact decR_some (by rw [HSN.out, if_neg (by rintro (h | h | h); (· exact h HAC.out); (· exact ht3 h); exact hm h)]))
            go_wp2_with fail
            refine HLIM.out.mono ?_
            intro e w5 hp5
            unfold LimTb at hp5
            rw [if_neg (by omega)] at hp5
            obtain ⟨F5, rfl, h5, ht5, hk5⟩ := hp5
            have HS5 := hid (HS2.out.tabbed h5 (HS2.out.ok.lim (by omega) (by omega)) ht5 hk5 (s.told + 1))
            clear h5 ht5 hk5
            go_wp2_with fail
            go_step3
            refine ⟨(show JR w B g gt fb F0 room s0 0 _ _ from .inl ⟨by decide, F5, A2, n2, c2, Al, nl, cl, fs, ⟨r, m, shr m s.L, s.told + 1, s.acc⟩, f, _, .bool false, frame_some _ rfl, by dsimp only; rw [HAC.out]; rfl, by dsimp only; omega, HS5.out, HDE.out, .inl rfl⟩), ?_⟩
            simp only [muR, lenB_of HS5.out, lenB_of HS.out, HBS.out, List.length_cons]
            have := HOK.out.1
            rw [HBS.out] at this
            simp at this ⊢
            omega
    · clear H HT HG HA HL HLEN hgl hn
      rcases hF with ⟨v8, told, ⟨us, rfl⟩, hdf, hx⟩ | ⟨F, A, n, c, Al, nl, cl, fs, s, f, v8, ⟨us, rfl⟩, htl, hS, hd, hz1, hz2⟩
      · have HX := hid hx
        have HDF := hid hdf
        clear hx hdf
        refine ⟨_, rfl, ?_⟩
        go_wp2_with fail
        simp only [jumps]
        refine bodyPost_ret (v := .bool false) (by simp [results, Tryd.results25, go_sem]) rfl ?_
        exact .inl ⟨HDF.out, rfl, HX.out⟩
      · have HS := hid hS
        have HTL := hid htl
        have HD := hid hd
        have HZ := hid (And.intro hz1 hz2)
        have hnl := hS.len
        have hcn := hS.cnt
        have hnum := hS.num
        have hbn := hS.bnd
        obtain ⟨k0, k1, k2⟩ := BoxAt.c hS.box
        have hws := hS.tn.size
        clear htl hS hd
        refine ⟨_, rfl, ?_⟩
        go_wp2_with fail
        refine (kkeep_any w.heap.size g gt A n c s.bs room (total s.acc : Nat) Al nl cl fs f wr HS.out.kb HS.out.row HS.out.rA HS.out.rg (by omega) (by omega) (by omega) (by omega) hws).mono ?_
        rintro e w3 ⟨Al3, nl3, cl3, rfl, hk3, ho3, ht3, hr3⟩
        obtain ⟨fs3, hS3⟩ := HS.out.kept hk3 ho3 ht3 hr3 HZ.out.1 HZ.out.2
        have HS3 := hid hS3
        clear hk3 ho3 ht3 hr3 hS3 k0 k1 k2
        go_wp2_with fail
        go_step3
        refine ⟨(show JR w B g gt fb F0 room s0 0 _ _ from .inl ⟨by decide, F, A, n, c, Al3, nl3, cl3, fs3, ⟨s.bs, s.most, s.L, s.told, s.acc ++ [f]⟩, f, _, .bool true, frame_some _ rfl, by simp, HTL.out, HS3.out, HD.out, .inl rfl⟩), ?_⟩
        simp only [muR, lenB_of HS3.out, lenB_of HS.out]
        simp
end Go.Proofs.YtdiejemhhcaicaaDoor

/- The decoder: New, Table, Dead and Decode, each once. Condition: at most 2^24 bytes a block. -/
namespace Go.Proofs.YtdiejemhhcaicaaDoor
open Go.RowKit
attribute [local go_sem] kd kdS

set_option maxHeartbeats 400000 in
set_option maxRecDepth 100000 in
theorem bclone_any (A : Option Addr) (n c : Nat) (l : List UInt8) (w : World) (h : Bs w A n l) (hn : n ≤ 70368744177664) :
    Calls Tryd.prog 24 #[.slice A n c] w fun e w' => ∃ A' c', e = .returned (.slice A' n c') ∧ w'.ownsRow w.heap.size 5 1 (.slice A' n c') n (l.map bv) ∧ Below w.heap.size w w' := by
  obtain ⟨i0, hi0, hz0, hz1, hz2⟩ := info_parts u8_info
  have hi := hid hi0
  have hz := hid hz0
  have hsz := hid hz1
  have hby := hid hz2
  clear hi0 hz0 hz1 hz2
  have hl := World.ownsRow_lit (base := w.heap.size) (e := 5) (size := 1) w #[] 0 (Nat.le_refl _) (by decide) rfl
  have HL := hid hl
  clear hl
  have qE : ∀ (w : World) (a : Option Addr) (n c n' c' : Nat), (binOp .eql 29 (.slice a n c) (.slice none n' c')).run Tryd.prog w = .ok (.bool a.isNone) w := fun w a n c n' c' => Lib.run_eql_slice_nil w _ _ a n c n' c' Tryd.underlying29
  rcases A with _ | ad
  · obtain ⟨rfl, hl⟩ := Rd.none_zero h
    clear h
    rw [hl]
    go_enter Tryd.func24, Tryd.ntmps24
    go_wp2_with fail
    go_ret
    exact ⟨none, 0, rfl, World.ownsRow_nil _ _ _ _, Below.refl _ _⟩
  · have H := hid h
    clear h
    go_enter Tryd.func24, Tryd.ntmps24
    go_wp2_with (at_builtin; refine wpList_app _ rfl _ _ _ rfl w.heap.size 5 i0 _ 1 1 Tryd.underlying29 hi.out hz.out hsz.out hby.out rfl (by omega) _ 0 _ rfl HL.out _ n c (l.map bv) rfl (H.out.below ((Below.refl _ _).alloc (Nat.le_refl _) _)) (bv_one l) (by omega) (by omega) (by simp) ?_; intro A' c' w' hown hg hat; have HO := hid hown; have HG := hid hg; clear hown hg hat)
    go_ret
    refine ⟨A', c', rfl, by simpa using HO.out, below_app ((Below.refl _ _).alloc (Nat.le_refl _) _) HL.out HG.out (Nat.le_refl _) (by simp)⟩

/-- A decoder in block gd, its table in gt; the table's blocks are F. -/
structure DecAt (w : World) (B : Nat) (F : List Nat) (gd gt : Nat) (dead : Bool) (most : Int) (L : List Fd) : Prop where
  blk : Blk w gd 52 #[.pointer (some ⟨gt, 0, none⟩), .bool dead]
  tb : Tb w B F gt most L
  base : B ≤ gd
  ne : gd ∉ F
  ok : TabOk most L
section
variable {w w' : World} {B : Nat} {F F' : List Nat} {gd gt : Nat} {dead dead' : Bool} {most most' : Int} {L L' : List Fd}
theorem DecAt.below (h : DecAt w B F gd gt dead most L) (hb : Below w.heap.size w w') : DecAt w' B F gd gt dead most L :=
  ⟨h.blk.below hb h.blk.lt, h.tb.below hb, h.base, h.ne, h.ok⟩
theorem DecAt.turned {G : List Nat} (h : DecAt w B F gd gt dead most L) (ht : Turned G w w') (hd : ∀ k ∈ gd :: F, k ∉ G) : DecAt w' B F gd gt dead most L :=
  ⟨h.blk.turned ht (hd gd (by simp)), h.tb.turned ht (fun k hk => hd k (by simp [hk])), h.base, h.ne, h.ok⟩
theorem DecAt.ge_ (h : DecAt w B F gd gt dead most L) : ∀ k ∈ gd :: F, B ≤ k ∧ k < w.heap.size := by
  intro k hk
  rcases List.mem_cons.1 hk with rfl | hk
  · exact ⟨h.base, h.blk.lt⟩
  · exact h.tb.ge k hk
end

set_option maxHeartbeats 400000 in
set_option maxRecDepth 100000 in
theorem decTable_any (B : Nat) (F : List Nat) (gd gt : Nat) (dead : Bool) (most : Int) (L : List Fd) (w : World) (h : DecAt w B F gd gt dead most L) :
    Calls Tryd.prog 17 #[.pointer (some ⟨gd, 0, none⟩)] w fun e w' => e = .returned (.pointer (some ⟨gt, 0, none⟩)) ∧ w = w' := by
  have h0 := h.blk.cell 0
  simp at h0
  clear h
  go_enter Tryd.func17, Tryd.ntmps17
  go_wp2_with fail
  go_ret
  exact ⟨rfl, rfl⟩

set_option maxHeartbeats 400000 in
set_option maxRecDepth 100000 in
theorem decDead_any (B : Nat) (F : List Nat) (gd gt : Nat) (dead : Bool) (most : Int) (L : List Fd) (w : World) (h : DecAt w B F gd gt dead most L) :
    Calls Tryd.prog 12 #[.pointer (some ⟨gd, 0, none⟩)] w fun e w' => e = .returned (.bool dead) ∧ w = w' := by
  have h0 := h.blk.cell 1
  simp at h0
  clear h
  go_enter Tryd.func12, Tryd.ntmps12
  go_wp2_with fail
  go_ret
  exact ⟨rfl, rfl⟩

/-- What New answers. -/
def DecNew (w : World) (e : Ending) (w' : World) : Prop :=
  ∃ F gd gt, e = .returned (.pointer (some ⟨gd, 0, none⟩)) ∧ DecAt w' w.heap.size F gd gt false 4096 [] ∧ Below w.heap.size w w'
set_option maxHeartbeats 400000 in
set_option maxRecDepth 100000 in
theorem decNew_any (w : World) : Calls Tryd.prog 9 #[] w (DecNew w) := by
  go_enter Tryd.func9, Tryd.ntmps9
  go_wp2_with fail
  refine (new_tb 4096 w).mono ?_
  intro e w1 hp
  unfold NewTb at hp
  rw [if_neg (by omega)] at hp
  obtain ⟨F, rfl, h1, hb1⟩ := hp
  have H1 := hid h1
  have HB1 := hid hb1
  clear h1 hb1
  go_wp2_with fail
  go_ret
  have hb2 : Below w1.heap.size w1 (w1.alloc (.cells #[.pointer (some ⟨w.heap.size, 0, none⟩), .bool false] 52)) := (Below.refl _ _).alloc (Nat.le_refl _) _
  exact ⟨F, w1.heap.size, w.heap.size, rfl, ⟨Blk.new w1 _ _, H1.out.below hb2, HB1.out.size, fun hm => by have := (H1.out.ge _ hm).2; omega, by omega, by omega, by simp [total], fun f hf => by cases hf⟩, HB1.out.trans (hb2.mono HB1.out.size)⟩

/-- What a block's decoding answers, and what it leaves: dead, limit, table. -/
def decO (bs : List UInt8) (room : Int) (dead : Bool) (most : Int) (L : List Fd) : List Fd × Int :=
  if dead = true then ([], 5) else if (decR (startD bs most L)).2 = false then ([], 2) else if room < (total (decR (startD bs most L)).1.acc : Nat) then ([], 3) else ((decR (startD bs most L)).1.acc, 0)
def decT (bs : List UInt8) (dead : Bool) (most : Int) (L : List Fd) : Bool × Int × List Fd :=
  if dead = true then (true, most, L) else (!(decR (startD bs most L)).2, (decR (startD bs most L)).1.most, (decR (startD bs most L)).1.L)
def DecodePost (bs : List UInt8) (room : Int) (B : Nat) (F : List Nat) (gd gt : Nat) (dead : Bool) (most : Int) (L : List Fd) (w : World) (e : Ending) (w' : World) : Prop :=
  ∃ A' n' c' F', e = .returned (.tuple #[.slice A' n' c', .int .i64 (decO bs room dead most L).2]) ∧ w'.ownsRow w.heap.size 31 3 (.slice A' n' c') n' (flat (decO bs room dead most L).1) ∧
    DecAt w' B F' gd gt (decT bs dead most L).1 (decT bs dead most L).2.1 (decT bs dead most L).2.2 ∧ Turned (gd :: F) w w' ∧ (∀ k ∈ F', k ∈ F ∨ w.heap.size ≤ k) ∧ ∀ k ∈ gd :: F', (Value.slice A' n' c').ownBlock ≠ some k

set_option maxHeartbeats 1000000 in
set_option maxRecDepth 100000 in
theorem decode_dead (room : Int) (B : Nat) (F : List Nat) (gd gt : Nat) (most : Int) (L : List Fd) (A : Option Addr) (n c : Nat) (bs : List UInt8) (w : World) (h : DecAt w B F gd gt true most L) :
    Calls Tryd.prog 10 #[.pointer (some ⟨gd, 0, none⟩), .slice A n c, .int .i64 room] w (DecodePost bs room B F gd gt true most L w) := by
  have H := hid h
  have h0 := h.blk.cell 1
  simp at h0
  clear h
  go_enter Tryd.func10, Tryd.ntmps10
  go_wp2_with fail
  go_ret2
  unfold DecodePost decO decT
  simp only [if_true]
  exact ⟨none, 0, 0, F, rfl, World.ownsRow_nil _ _ _ _, H.out, Turned.refl _ _, fun k hk => .inl hk, fun k _ e => by cases e⟩

set_option maxHeartbeats 1000000 in
set_option maxRecDepth 100000 in
theorem decode_live (room : Int) (B : Nat) (F : List Nat) (gd gt : Nat) (most : Int) (L : List Fd) (A : Option Addr) (n c : Nat) (bs : List UInt8) (w : World) (h : DecAt w B F gd gt false most L) (hA : Bs w A n bs) (hn : n ≤ 16777216) :
    Calls Tryd.prog 10 #[.pointer (some ⟨gd, 0, none⟩), .slice A n c, .int .i64 room] w (DecodePost bs room B F gd gt false most L w) := by
  have H := hid h
  have HA := hid hA
  have h0 := h.blk.cell 0
  have h1 := h.blk.cell 1
  simp at h0 h1
  clear h hA
  have L0 : Hid (∀ w', Below w.heap.size w w' → (Instr.loadAt 43 (.pointer (some ⟨gd, 0, none⟩))).run Tryd.prog w' = .ok (.pointer (some ⟨gt, 0, none⟩)) w') := hid fun w' hw => by
    have z := below_keep hw _ _ h0
    clear h0 h1
    go_simp
  have HSB := hid (show Below w.heap.size w w.drew from (Below.refl _ _).drew)
  go_enter Tryd.func10, Tryd.ntmps10
  go_upto_region 3 with fail
  clear h0 h1
  (refine wp_mixC (Below w.heap.size w) ?_ ?_ (HSB.out) ?_; (focus kernel_rfl); (focus kernel_rfl); intro KK hKK; go_wp2_with (first
                                        | (first
    | ((with_reducible refine mixS_load L0.out ?_ ?_ ?_); (focus rfl); (focus rfl))
    | (go_at_call 24; go_must (refine (bclone_any A n c bs _ (HA.out.below HSB.out) (by omega)).mono ?_; rintro e w1 ⟨A1, c1, rfl, ho1, hb1⟩; have HO1 := hid ho1; have HB1 := hid (HSB.out.trans (hb1.mono HSB.out.size)); clear ho1 hb1))
    | ((with_reducible refine And.intro ?_ ?_); (focus (first | (with_reducible exact HSB.out) | (with_reducible exact HB1.out) | (exact HB1.out.alloc HB1.out.size _)))))
                                        | (with_reducible refine mix_nil ?_)
                                        | ((with_reducible refine mixS_on ?_ ?_); (focus rfl); intro K K' hK hK'; go_simp; (first | ((with_reducible refine hK _ _ ?_); clear hK hK' K K') | ((with_reducible refine hK' _ _ ?_); clear hK hK' K K') | skip))
                                        | ((with_reducible refine mixS_off ?_ ?_); (focus rfl); intro K hK; go_simp; (first | ((with_reducible refine hK _ _ ?_); clear hK K) | skip))
                                        | ((with_reducible refine mixS_step ?_); intro K K' hK hK'; go_simp; (first | ((with_reducible refine hK _ _ ?_); clear hK hK' K K') | ((with_reducible refine hK' _ _ ?_); clear hK hK' K K') | skip))))
  have hsz1 := HB1.out.size
  have hgl := H.out.blk.lt
  have hb2 : Below w1.heap.size w1 (w1.alloc (.cells #[.slice A1 n c1, .pointer (some ⟨gt, 0, none⟩), .int .i64 room, .int .i64 0, .slice none 0 0] 56)) := (Below.refl _ _).alloc (Nat.le_refl _) _
  have hblk := Blk.new w1 56 #[.slice A1 n c1, .pointer (some ⟨gt, 0, none⟩), .int .i64 room, .int .i64 0, .slice none 0 0]
  have hw2 := hblk.lt
  generalize w1.alloc (.cells #[.slice A1 n c1, .pointer (some ⟨gt, 0, none⟩), .int .i64 room, .int .i64 0, .slice none 0 0] 56) = w2 at hb2 hblk hw2 ⊢
  have hA1 : ∀ ad, A1 = some ad → w.heap.size ≤ ad.block ∧ ad.block < w1.heap.size := fun ad e => own_row_lt HO1.out ad.block (by rw [e]; rfl)
  have HKB := hid (show KbAt w2 w1.heap.size gt A1 n c1 bs room 0 (.slice none 0 0) from ⟨hblk, (Bs.of_own HO1.out).below hb2, own_le HO1.out, fun ad e hm => by have := hA1 ad e; have := List.mem_singleton.1 hm; omega, fun ad e => by have := (hA1 ad e).2; omega⟩)
  have HTB := hid ((H.out.tb.below HB1.out).below hb2)
  have HGF := hid (show w1.heap.size ∉ F from fun hm => by have := (H.out.tb.ge _ hm).2; omega)
  have HAF := hid (show Off A1 F from fun ad e hm => by have := (hA1 ad e).1; have := (H.out.tb.ge _ hm).2; omega)
  have HB2 := hid (HB1.out.trans (hb2.mono HB1.out.size))
  have HW1 := hid (show w.heap.size ≤ w1.heap.size ∧ w1.heap.size < w2.heap.size by omega)
  clear hb2 hblk hA1 hsz1 hw2
  obtain ⟨g, hg⟩ : ∃ g, w1.heap.size = g := ⟨_, rfl⟩
  rw [hg] at HKB HGF HW1 ⊢
  clear hg HO1 HB1 L0 HSB
  have HGD := hid (show gd < g by have := HW1.out; omega)
  refine (kread_any B g gt F A1 n c1 bs room most L w2 HKB.out HTB.out HGF.out HAF.out H.out.ok hn).mono ?_
  intro e w3 hp
  obtain ⟨r, hr⟩ : ∃ r, decR (startD bs most L) = r := ⟨_, rfl⟩
  have HO : Hid (decO bs room false most L = if r.2 = false then ([], 2) else if room < (total r.1.acc : Nat) then ([], 3) else (r.1.acc, 0)) := hid (by unfold decO; rw [hr]; simp)
  have HTT : Hid (decT bs false most L = (!r.2, r.1.most, r.1.L)) := hid (by unfold decT; rw [hr]; simp)
  unfold ReadPost at hp
  rw [hr] at hp
  clear hr
  have hd2 : gd ∉ g :: F := fun hm => by
    rcases List.mem_cons.1 hm with h | h
    · have := HGD.out; omega
    · exact H.out.ne h
  have HD2 := hid hd2
  clear hd2
  have HTW : ∀ w' : World, Turned (g :: F) w2 w' → Turned (gd :: F) w w' := fun w' ht => ((Turned.of_below HB2.out).mono (F := []) (by simp)).trans ht (fun b hb => by
    rcases List.mem_cons.1 hb with rfl | hb
    · exact .inr HW1.out.1
    · exact .inl (by simp [hb]))
  have HTW := hid HTW
  rcases hp with ⟨hr2, rfl, F3, h3, ho3, ht3, hk3⟩ | ⟨hr2, rfl, fb, F3, A3, n3, c3, Al, nl, cl, fs, f, hS⟩
  · have hB3 := (H.out.blk.below HB2.out H.out.blk.lt).turned ht3 HD2.out
    have HB3 := hid hB3
    have k1 := hB3.cell 1
    have kf1 := hB3.frozen 1
    simp at k1
    have H3 := hid h3
    have HO3 := hid ho3
    have HT3 := hid ht3
    have HK3 := hid hk3
    have HR2 := hid hr2
    clear hB3 h3 ho3 ht3 hk3 hr2
    go_wp2_with fail
    go_ret2
    have hz := HB3.out.set_ 1 (.bool true)
    have ht4 : Turned [gd] w3 (w3.setCell ⟨gd, 1, none⟩ (.bool true)) := (Turned.refl _ _).setCell (by simp) _
    have hne : gd ∉ F3 := fun hm => by
      rcases HK3.out gd hm with h | h
      · exact H.out.ne h
      · have := HW1.out; have := HGD.out; omega
    unfold DecodePost
    rw [HO.out, HTT.out, HR2.out]
    refine ⟨none, 0, 0, F3, rfl, World.ownsRow_nil _ _ _ _, ⟨by simpa using hz, H3.out.turned ht4 (fun k hk hm => hne (by have := List.mem_singleton.1 hm; subst this; exact hk)), H.out.base, hne, HO3.out⟩, (HTW.out w3 HT3.out).trans ht4 (fun b hb => .inl (by have := List.mem_singleton.1 hb; simp [this])), fun k hk => ?_, fun k _ e => by cases e⟩
    rcases HK3.out k hk with h | h
    · exact .inl h
    · exact .inr (by have := HW1.out; omega)
  · have HS := hid hS
    have HR2 := hid hr2
    have k3 := hS.kb.blk.cell 3
    have k4 := hS.kb.blk.cell 4
    simp at k3 k4
    clear hS hr2
    have HDD : Hid (DecAt w3 B F3 gd gt false r.1.most r.1.L) := hid (by
      refine ⟨(H.out.blk.below HB2.out H.out.blk.lt).turned HS.out.tn HD2.out, HS.out.tb, H.out.base, fun hm => ?_, HS.out.ok⟩
      rcases HS.out.kF gd hm with h | h
      · exact H.out.ne h
      · have := HW1.out; have := HGD.out; omega)
    have HKK : Hid (∀ k ∈ F3, k ∈ F ∨ w.heap.size ≤ k) := hid (fun k hk => by
      rcases HS.out.kF k hk with h | h
      · exact .inl h
      · exact .inr (by have := HW1.out; omega))
    by_cases hfit : room < (total r.1.acc : Nat)
    · go_wp2_with fail
      go_ret2
      unfold DecodePost
      rw [HO.out, HTT.out, HR2.out, if_neg (by simp), if_pos hfit]
      exact ⟨none, 0, 0, F3, rfl, World.ownsRow_nil _ _ _ _, HDD.out, HTW.out w3 HS.out.tn, HKK.out, fun k _ e => by cases e⟩
    · have HFIT := hid hfit
      clear hfit
      have hfit2 : ((total r.1.acc : Nat) : Int) ≤ room := by have := HFIT.out; omega
      go_wp2_with fail
      go_ret2
      unfold DecodePost
      rw [HO.out, HTT.out, HR2.out, if_neg (by simp), if_neg (by have := HFIT.out; omega)]
      have hfs := HS.out.fits hfit2
      have hrow := HS.out.row.mono (base' := w.heap.size) (by have := HW1.out; omega)
      rw [hfs] at hrow
      refine ⟨Al, nl, cl, F3, rfl, hrow, HDD.out, HTW.out w3 HS.out.tn, HKK.out, fun k hk e => ?_⟩
      rcases List.mem_cons.1 hk with rfl | hk
      · have := HS.out.kR _ e
        have := HW1.out; have := HGD.out
        omega
      · exact HS.out.rF k hk e
theorem decode_any (room : Int) (B : Nat) (F : List Nat) (gd gt : Nat) (dead : Bool) (most : Int) (L : List Fd) (A : Option Addr) (n c : Nat) (bs : List UInt8) (w : World) (h : DecAt w B F gd gt dead most L) (hA : Bs w A n bs) (hn : n ≤ 16777216) :
    Calls Tryd.prog 10 #[.pointer (some ⟨gd, 0, none⟩), .slice A n c, .int .i64 room] w (DecodePost bs room B F gd gt dead most L w) := by
  cases dead with
  | true => exact decode_dead room B F gd gt most L A n c bs w h
  | false => exact decode_live room B F gd gt most L A n c bs w h hA hn
end Go.Proofs.YtdiejemhhcaicaaDoor

/- A decoder in a law's walk: its state beside blocks that are kept; blocks of one index. No condition. -/
namespace Go.Proofs.YtdiejemhhcaicaaDoor
open Go.RowKit

/-- A decoder that was made in the walk from w on; the blocks K are none of its. -/
structure DecI (w wr : World) (B : Nat) (F : List Nat) (gd gt : Nat) (dead : Bool) (most : Int) (L : List Fd) (K : List Nat) : Prop where
  dec : DecAt wr B F gd gt dead most L
  kept : ∀ k ∈ K, k ∉ gd :: F ∧ k < wr.heap.size
  out : Below w.heap.size w wr
  wB : w.heap.size ≤ B
section
variable {w wr w' : World} {B : Nat} {F F' : List Nat} {gd gt : Nat} {dead dead' : Bool} {most most' : Int} {L L' : List Fd} {K : List Nat} {A : Option Addr} {m c : Nat} {e : Ending} {bs : List UInt8} {room : Int}
theorem DecI.below (h : DecI w wr B F gd gt dead most L K) (hb : Below wr.heap.size wr w') : DecI w w' B F gd gt dead most L K :=
  ⟨h.dec.below hb, fun k hk => ⟨(h.kept k hk).1, Nat.lt_of_lt_of_le (h.kept k hk).2 hb.size⟩, h.out.trans (hb.mono h.out.size), h.wB⟩
theorem DecI.keep (h : DecI w wr B F gd gt dead most L K) {k : Nat} (hk : k ∉ gd :: F) (hl : k < wr.heap.size) : DecI w wr B F gd gt dead most L (k :: K) :=
  ⟨h.dec, fun q hq => by
    rcases List.mem_cons.1 hq with rfl | hq
    · exact ⟨hk, hl⟩
    · exact h.kept q hq, h.out, h.wB⟩
/-- A block that was made since is kept. -/
theorem DecI.fresh (h : DecI w wr B F gd gt dead most L K) (hb : Below wr.heap.size wr w') {k : Nat} (hk : wr.heap.size ≤ k) (hl : k < w'.heap.size) : DecI w w' B F gd gt dead most L (k :: K) :=
  (h.below hb).keep (fun hm => by have := (h.dec.ge_ k hm).2; omega) hl
theorem DecI.set_ (h : DecI w wr B F gd gt dead most L K) {p : Addr} (hp : p.block ∈ K) (hw : w.heap.size ≤ p.block) (u : Value) : DecI w (wr.setCell p u) B F gd gt dead most L K := by
  have ht : Turned [p.block] wr (wr.setCell p u) := (Turned.refl _ _).setCell (by simp) _
  exact ⟨h.dec.turned ht (fun k hk hm => (h.kept _ hp).1 (by have := List.mem_singleton.1 hm; subst this; exact hk)), fun k hk => ⟨(h.kept k hk).1, Nat.lt_of_lt_of_le (h.kept k hk).2 ht.size⟩, h.out.setCell hw u, h.wB⟩
theorem DecI.turned (h : DecI w wr B F gd gt dead most L K) (he : DecAt w' B F' gd gt dead' most' L') (ht : Turned (gd :: F) wr w') (hk : ∀ k ∈ F', k ∈ F ∨ wr.heap.size ≤ k) : DecI w w' B F' gd gt dead' most' L' K := by
  refine ⟨he, fun k hk' => ⟨fun hm => ?_, Nat.lt_of_lt_of_le (h.kept k hk').2 ht.size⟩, h.out.trans (ht.below (fun b hb => Nat.le_trans h.wB (h.dec.ge_ b hb).1) h.out.size), h.wB⟩
  rcases List.mem_cons.1 hm with rfl | hm
  · exact (h.kept _ hk').1 (by simp)
  · rcases hk k hm with h1 | h1
    · exact (h.kept k hk').1 (by simp [h1])
    · have := (h.kept k hk').2
      omega
theorem DecI.hB (h : DecI w wr B F gd gt dead most L K) : B ≤ wr.heap.size := by
  have := h.dec.ge_ gd (by simp)
  omega
theorem DecI.cell (h : DecI w wr B F gd gt dead most L K) (ht : Turned (gd :: F) wr w') {p : Addr} {u : Value} (hc : wr.cell? p = some u) (hk : p.block ∈ K) : w'.cell? p = some u := ht.cell hc (h.kept _ hk).1
theorem DecI.blk (h : DecI w wr B F gd gt dead most L K) (ht : Turned (gd :: F) wr w') {k : Nat} {t : TypeId} {cs : Array Value} (hb : Blk wr k t cs) (hk : k ∈ K) : Blk w' k t cs := hb.turned ht (h.kept k hk).1
/-- Behind a Decode. -/
theorem DecI.decoded (h : DecI w wr B F gd gt dead most L K) (hp : DecodePost bs room B F gd gt dead most L wr e w') :
    ∃ A' n' c' F', e = .returned (.tuple #[.slice A' n' c', .int .i64 (decO bs room dead most L).2]) ∧ w'.ownsRow wr.heap.size 31 3 (.slice A' n' c') n' (flat (decO bs room dead most L).1) ∧
      DecI w w' B F' gd gt (decT bs dead most L).1 (decT bs dead most L).2.1 (decT bs dead most L).2.2 K ∧ Turned (gd :: F) wr w' ∧ ∀ k ∈ gd :: F', (Value.slice A' n' c').ownBlock ≠ some k := by
  obtain ⟨A', n', c', F', he, ho, hd, ht, hk, hr⟩ := hp
  exact ⟨A', n', c', F', he, ho, h.turned hd ht hk, ht, hr⟩
end
theorem numP_one (i : Nat) (h : i < 127) : numP [UInt8.ofNat (128 + i)] 7 = some (i, []) := by
  have : ∀ i, i < 127 → numP [UInt8.ofNat (128 + i)] 7 = some (i, []) := by decide +kernel
  exact this i h
/-- A block of one index. -/
theorem dec_index (i : Nat) (h : i < 127) (most : Int) (L : List Fd) : decR (startD [UInt8.ofNat (128 + i)] most L) = match atD L i with | none => (startD [UInt8.ofNat (128 + i)] most L, false) | some f => (⟨[], most, L, 0, [f]⟩, true) := by
  have hb : 128 ≤ (UInt8.ofNat (128 + i)).toNat := by rw [UInt8.toNat_ofNat']; omega
  have hs := stepD_known (s := startD [UInt8.ofNat (128 + i)] most L) rfl hb
  rw [show (startD [UInt8.ofNat (128 + i)] most L).bs = [UInt8.ofNat (128 + i)] from rfl, numP_one i h] at hs
  simp only at hs
  rcases ha : atD L i with _ | f
  · rw [show (startD [UInt8.ofNat (128 + i)] most L).L = L from rfl, ha] at hs
    exact decR_none (by simp [startD]) hs
  · rw [show (startD [UInt8.ofNat (128 + i)] most L).L = L from rfl, ha] at hs
    rw [decR_some hs]
    exact decR_nil rfl
theorem decO_ok {bs : List UInt8} {most : Int} {L : List Fd} {s : DSt} (h : decR (startD bs most L) = (s, true)) {room : Int} (hr : (total s.acc : Nat) ≤ room) : decO bs room false most L = (s.acc, 0) ∧ decT bs false most L = (false, s.most, s.L) := by
  unfold decO decT
  rw [h]
  simp only [Bool.false_eq_true, if_false, Bool.true_eq_false]
  exact ⟨if_neg (by omega), rfl⟩
theorem decO_bad {bs : List UInt8} {most : Int} {L : List Fd} {s : DSt} (h : decR (startD bs most L) = (s, false)) (room : Int) : decO bs room false most L = ([], 2) ∧ decT bs false most L = (true, s.most, s.L) := by
  unfold decO decT
  rw [h]
  simp
theorem decO_dead (bs : List UInt8) (room most : Int) (L : List Fd) : decO bs room true most L = ([], 5) ∧ decT bs true most L = (true, most, L) := by
  unfold decO decT
  simp
end Go.Proofs.YtdiejemhhcaicaaDoor

/- first, the chapter's example: it answers true. No condition. -/
namespace Go.Proofs.YtdiejemhhcaicaaDoor
open Go.RowKit
attribute [local go_sem] kd kdS

def fdM : Fd := ⟨⟨#[58, 109, 101, 116, 104, 111, 100]⟩, ⟨#[71, 69, 84]⟩, false⟩
theorem tabM : tabF 2 = ([58, 109, 101, 116, 104, 111, 100], [71, 69, 84]) := by decide +kernel
theorem at_M (L : List Fd) : atD L 2 = some fdM := by
  unfold atD
  rw [if_pos (by omega), if_pos (by omega), tabM]
  rfl
theorem dec_M (most : Int) (L : List Fd) : decR (startD [130] most L) = (⟨[], most, L, 0, [fdM]⟩, true) := by
  have h := dec_index 2 (by omega) most L
  rw [at_M] at h
  exact h
theorem one_field {w : World} {B : Nat} {A : Option Addr} {m c : Nat} {f : Fd} (h : w.ownsRow B 31 3 (.slice A m c) m (flat [f])) :
    m = 1 ∧ ∃ b o, A = some ⟨b, o, none⟩ ∧ w.cell? ⟨b, o, none⟩ = some (.string f.n) ∧ w.cell? ⟨b, o + 1, none⟩ = some (.string f.v) ∧ w.cell? ⟨b, o + 2, none⟩ = some (.bool f.x) := by
  have hF : Fs w A m [f] := Rd.of_own h
  have hm : 1 = m := hF.len
  obtain ⟨b, o, g, hA, hg, c0, c1, c2⟩ := hF.at_ (i := 0) (by omega)
  obtain rfl : f = g := by simpa using hg
  exact ⟨hm.symm, b, o, hA, by simpa using c0, by simpa using c1, by simpa using c2⟩

set_option maxHeartbeats 1000000 in
set_option maxRecDepth 100000 in
theorem first8_any (w : World) : Calls Tryd.prog 8 #[] w fun e w' => e = .returned (.bool true) ∧ Below w.heap.size w w' := by
  go_enter Tryd.func8, Tryd.ntmps8
  go_wp2_with fail
  refine (decNew_any w).mono ?_
  rintro e w1 ⟨F, gd, gt, rfl, h1, hb1⟩
  have HI1 := hid (show DecI w w1 w.heap.size F gd gt false 4096 [] [] from ⟨h1, (fun k hk => by cases hk), hb1, Nat.le_refl _⟩)
  clear h1 hb1
  go_wp2_with fail
  have hs : Bs (w1.alloc (.cells #[.int .u8 130] 5)) (some ⟨w1.heap.size, 0, none⟩) 1 [130] := rd_new rfl rfl
  have hb2 : Below w1.heap.size w1 (w1.alloc (.cells #[.int .u8 130] 5)) := (Below.refl _ _).alloc (Nat.le_refl _) _
  generalize w1.alloc (.cells #[.int .u8 130] 5) = wa at hs hb2 ⊢
  have HS := hid hs
  have HA := hid (HI1.out.below hb2)
  clear hs hb2 HI1
  generalize w1.heap.size = bx at HS ⊢
  refine (decode_any 1000 w.heap.size F gd gt false 4096 [] (some ⟨bx, 0, none⟩) 1 1 [130] wa HA.out.dec HS.out (by omega)).mono ?_
  intro e w3 hp
  obtain ⟨k1, k2⟩ := decO_ok (dec_M 4096 []) (room := 1000) (by decide)
  obtain ⟨A3, n3, c3, F3, rfl, ho, hi, ht, hr⟩ := HA.out.decoded hp
  rw [k1] at ho
  rw [k2] at hi
  rw [k1]
  obtain ⟨rfl, b, o, rfl, c0, c1, c2⟩ := one_field ho
  have HI3 := hid hi
  clear hp k1 k2 ho hi ht hr HA HS c2
  have d0 : w3.cell? ⟨b, o, none⟩ = some (.string ⟨#[58, 109, 101, 116, 104, 111, 100]⟩) := c0
  have d1 : w3.cell? ⟨b, o + 1, none⟩ = some (.string ⟨#[71, 69, 84]⟩) := c1
  clear c0 c1
  go_wp2_with (go_at_call 12; go_must (refine (decDead_any _ F3 gd gt _ _ _ w3 HI3.out.dec).mono ?_; rintro e w4 ⟨rfl, rfl⟩))
  go_ret
  exact ⟨rfl, HI3.out.out⟩
end Go.Proofs.YtdiejemhhcaicaaDoor
