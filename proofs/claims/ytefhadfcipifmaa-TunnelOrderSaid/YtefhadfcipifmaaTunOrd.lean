/- What holds while TunnelOrder runs: four rows of the caller's own beside a tunnel, and what they and the tunnel hold. Each lemma names its own conditions. -/
import Derived.Test.YtefhadfcipifmaaTunOp
import Derived.Test.YtefhadfcipifmaaTunI
import Derived.Test.YtefhadfcipifmaaBegins
namespace Go.Proofs.Ytefhadfcipifmaa
open Go.RowKit

/-- No block is the own block of both. -/
def Apart (v v' : Value) : Prop := ∀ b, v.ownBlock = some b → v'.ownBlock ≠ some b
theorem Apart.symm {v v' : Value} (h : Apart v v') : Apart v' v := fun b h1 h2 => h b h2 h1
theorem apart_nil (v : Value) : Apart (.slice none 0 0) v := fun b hb => by simp [Value.ownBlock] at hb

/-- A row of ours. -/
structure Rw (W w : World) (K : List Nat) (V : Value) (n : Nat) (l : List UInt8) : Prop where
  own : w.ownsRow W.heap.size 5 1 V n (l.map bv)
  mem : ∀ b, V.ownBlock = some b → b ∈ K
theorem Rw.len {W w : World} {K : List Nat} {V : Value} {n : Nat} {l : List UInt8} (h : Rw W w K V n l) : l.length = n := by
  have := h.own.1
  simpa using this
theorem Rw.kept {W w w' : World} {K : List Nat} {V : Value} {n : Nat} {l : List UInt8} (h : Rw W w K V n l) (hk : Kept K w w') : Rw W w' K V n l := ⟨hk.own h.own h.mem, h.mem⟩
theorem Rw.below {W w w' : World} {K : List Nat} {V : Value} {n : Nat} {l : List UInt8} (h : Rw W w K V n l) (hb : Below w.heap.size w w') : Rw W w' K V n l := ⟨own_below h.own hb, h.mem⟩
theorem Rw.mono {W w : World} {K K' : List Nat} {V : Value} {n : Nat} {l : List UInt8} (h : Rw W w K V n l) (hK : ∀ b ∈ K, b ∈ K') : Rw W w K' V n l := ⟨h.own, fun b hb => hK b (h.mem b hb)⟩
theorem Rw.nil (W w : World) (K : List Nat) : Rw W w K (.slice none 0 0) 0 [] := ⟨World.ownsRow_nil _ _ _ _, fun b hb => by simp [Value.ownBlock] at hb⟩

/-- Four rows beside a tunnel. -/
structure OI (W w : World) (tb : Nat) (σ : TV) (K : List Nat) (A : Value) (am : Nat) (al : List UInt8) (B : Value) (bm : Nat) (bl : List UInt8) (C : Value) (cm : Nat) (cl : List UInt8) (D : Value) (dm : Nat) (dl : List UInt8) : Prop where
  ti : TI W w tb σ K
  a : Rw W w K A am al
  b : Rw W w K B bm bl
  c : Rw W w K C cm cl
  d : Rw W w K D dm dl
  ab : Apart A B
  ac : Apart A C
  ad : Apart A D
  bc : Apart B C
  bd : Apart B D
  cd : Apart C D

/-- The round's own copy of a call. -/
structure CP (w : World) (K : List Nat) (ob : Nat) (x : Tc) : Prop where
  blk : Blk w ob 50 x.cells.toArray
  mem : ob ∈ K
section
variable {w w' : World} {K K' : List Nat} {ob : Nat} {x : Tc}
theorem CP.c (h : CP w K ob x) : w.cell? ⟨ob, 0, none⟩ = some (.int .i64 x.k) ∧ w.cell? ⟨ob, 1, none⟩ = some (.int .i64 x.f) ∧ w.cell? ⟨ob, 3, none⟩ = some (.slice x.A x.n x.c) ∧ w.cell? ⟨ob, 5, none⟩ = some (.bool x.en) :=
  ⟨h.blk.cell 0, h.blk.cell 1, h.blk.cell 3, h.blk.cell 5⟩
theorem CP.kept (h : CP w K ob x) (hk : Kept K w w') : CP w' K ob x := by
  obtain ⟨F, ht, hF⟩ := hk
  exact ⟨h.blk.turned ht (hF _ h.mem), h.mem⟩
theorem CP.below (h : CP w K ob x) (hb : Below w.heap.size w w') : CP w' K ob x := ⟨h.blk.below hb h.blk.lt, h.mem⟩
theorem CP.mono (h : CP w K ob x) (hK : ∀ b ∈ K, b ∈ K') : CP w K' ob x := ⟨h.blk, hK _ h.mem⟩
theorem CP.app {W : World} {V : Value} {n : Nat} {l : List UInt8} (h : CP w K ob x) (hr : Rw W w K V n l) (hg : w.grownBy w' V.ownBlock) : CP w' K ob x :=
  ⟨h.blk.grown hg (fun e => h.blk.own_ne hr.own (by decide) e.symm), h.mem⟩
end

section
variable {W w w' : World} {tb : Nat} {σ σ' : TV} {K K' : List Nat} {A B C D : Value} {am bm cm dm : Nat} {al bl cl dl : List UInt8}
theorem OI.kept (h : OI W w tb σ K A am al B bm bl C cm cl D dm dl) (ht : TI W w' tb σ' K) (hk : Kept K w w') : OI W w' tb σ' K A am al B bm bl C cm cl D dm dl :=
  ⟨ht, h.a.kept hk, h.b.kept hk, h.c.kept hk, h.d.kept hk, h.ab, h.ac, h.ad, h.bc, h.bd, h.cd⟩
theorem OI.below (h : OI W w tb σ K A am al B bm bl C cm cl D dm dl) (hb : Below w.heap.size w w') : OI W w' tb σ K A am al B bm bl C cm cl D dm dl :=
  ⟨h.ti.below hb, h.a.below hb, h.b.below hb, h.c.below hb, h.d.below hb, h.ab, h.ac, h.ad, h.bc, h.bd, h.cd⟩
theorem OI.low (h : OI W w tb σ K A am al B bm bl C cm cl D dm dl) : Below W.heap.size W w := h.ti.low
/-- A new block joins. -/
theorem OI.add (h : OI W w tb σ K A am al B bm bl C cm cl D dm dl) (hb : Below w.heap.size w w') {ob : Nat} (h1 : w.heap.size ≤ ob) (h2 : ob < w'.heap.size) : OI W w' tb σ (ob :: K) A am al B bm bl C cm cl D dm dl := by
  have h' := h.below hb
  have hK : ∀ b ∈ K, b ∈ ob :: K := fun b hb => List.mem_cons_of_mem _ hb
  exact ⟨h.ti.add (.inl (Turned.of_below hb)) h1 h2, h'.a.mono hK, h'.b.mono hK, h'.c.mono hK, h'.d.mono hK, h.ab, h.ac, h.ad, h.bc, h.bd, h.cd⟩
/-- The first and the second change places, and so on. -/
theorem OI.swap (h : OI W w tb σ K A am al B bm bl C cm cl D dm dl) : OI W w tb σ K B bm bl A am al C cm cl D dm dl :=
  ⟨h.ti, h.b, h.a, h.c, h.d, h.ab.symm, h.bc, h.bd, h.ac, h.ad, h.cd⟩
theorem OI.swap3 (h : OI W w tb σ K A am al B bm bl C cm cl D dm dl) : OI W w tb σ K C cm cl B bm bl A am al D dm dl :=
  ⟨h.ti, h.c, h.b, h.a, h.d, h.bc.symm, h.ac.symm, h.cd, h.ab.symm, h.bd, h.ad⟩
theorem OI.swap4 (h : OI W w tb σ K A am al B bm bl C cm cl D dm dl) : OI W w tb σ K D dm dl B bm bl C cm cl A am al :=
  ⟨h.ti, h.d, h.b, h.c, h.a, h.bd.symm, h.cd.symm, h.ad.symm, h.bc, h.ab.symm, h.ac.symm⟩
/-- An append onto the first. -/
theorem OI.app (h : OI W w tb σ K A am al B bm bl C cm cl D dm dl) {A' : Value} {m : Nat} {xs : List UInt8} (ho : w'.ownsRow W.heap.size 5 1 A' (am + m) (al.map bv ++ xs.map bv)) (hg : w.grownBy w' A.ownBlock) (hc : A'.ownBlock = A.ownBlock ∨ A'.ownBlock = some w.heap.size) :
    ∃ K', (∀ b ∈ K, b ∈ K') ∧ OI W w' tb σ K' A' (am + m) (al ++ xs) B bm bl C cm cl D dm dl ∧ ∀ {ob x}, CP w K ob x → CP w' K' ob x := by
  rw [← List.map_append] at ho
  have hT : Turned A.ownBlock.toList w w' := Turned.grown (Turned.refl _ _) hg (fun q hq => .inl (by simp [hq]))
  have hF : ∀ b ∈ A.ownBlock.toList, b ∈ K := fun b hb => h.a.mem b (by simpa using hb)
  have hW : ∀ b ∈ A.ownBlock.toList, W.heap.size ≤ b := fun b hb => (h.a.own.lt b (by simpa using hb)).1
  have kept : ∀ {V : Value} {n : Nat} {l : List UInt8}, Rw W w K V n l → Apart A V → Rw W w' K V n l := fun hr ha => ⟨own_turned hr.own hT (fun q hq hm => ha q (by simpa using hm) hq), hr.mem⟩
  have new : ∀ {V : Value} {n : Nat} {l : List UInt8}, Rw W w K V n l → Apart A V → Apart A' V := fun hr ha q h1 h2 => by
    rcases hc with e | e
    · exact ha q (e.symm.trans h1) h2
    · have := (hr.own.lt q h2).2
      rw [e] at h1
      injection h1 with h1
      omega
  rcases hc with e | e
  · exact ⟨K, fun b hb => hb, ⟨h.ti.turned hT hF hW, ⟨ho, fun b hb => h.a.mem b (e ▸ hb)⟩, kept h.b h.ab, kept h.c h.ac, kept h.d h.ad, new h.b h.ab, new h.c h.ac, new h.d h.ad, h.bc, h.bd, h.cd⟩, fun hp => hp.app h.a hg⟩
  · have hK : ∀ b ∈ K, b ∈ w.heap.size :: K := fun b hb => List.mem_cons_of_mem _ hb
    have hlt := (ho.lt _ e).2
    refine ⟨w.heap.size :: K, hK, ⟨h.ti.add (.inr ⟨_, hT, hF, hW⟩) (Nat.le_refl _) hlt, ⟨ho, fun b hb => ?_⟩, (kept h.b h.ab).mono hK, (kept h.c h.ac).mono hK, (kept h.d h.ad).mono hK, new h.b h.ab, new h.c h.ac, new h.d h.ad, h.bc, h.bd, h.cd⟩, fun hp => (hp.app h.a hg).mono hK⟩
    rw [e] at hb
    injection hb with hb
    rw [← hb]
    exact List.mem_cons_self
end

/-! What the rows and the tunnel hold. -/
structure OL (bf : Int) (σ : TV) (il ol cl sl : List UInt8) (sh : Nat) (ov eo en : Bool) : Prop where
  st : σ.st = if ov then 4 else 3
  bf : σ.bf = bf
  en : σ.ended = en
  eo : σ.came = eo
  sh : sh = if σ.shut then 1 else 0
  ku : σ.ku = ol.length
  kd : σ.kd = sl.length
  pu : σ.pu ≤ ol.length
  pd : σ.pd ≤ sl.length
  up : ∃ u, ol ++ u = il ∧ σ.up = if ov then [] else u
  dn : ∃ u, sl ++ u = cl ∧ σ.dn = if ov then [] else u
section
variable {bf : Int} {σ : TV} {il ol cl sl : List UInt8} {sh : Nat} {ov eo en : Bool}
theorem OL.few (h : OL bf σ il ol cl sl sh ov eo en) (h1 : il.length ≤ 200000) (h2 : cl.length ≤ 200000) (h3 : 0 ≤ bf) (h4 : bf ≤ 65535) : σ.Few := by
  obtain ⟨u, e1, _⟩ := h.up
  obtain ⟨v, e2, _⟩ := h.dn
  have q1 := congrArg List.length e1
  have q2 := congrArg List.length e2
  rw [List.length_append] at q1 q2
  have := h.pu
  have := h.pd
  have := h.ku
  have := h.kd
  have := h.bf
  refine ⟨?_, ?_, ?_, ?_, ?_, ?_⟩ <;> omega
theorem OL.acc (h : OL bf σ il ol cl sl sh false eo false) (l : List UInt8) (e : Bool) (k : Nat) : OL bf (accV σ l e k) (il ++ l.take k) ol cl sl sh false eo e := by
  obtain ⟨u, e1, e2⟩ := h.up
  exact ⟨h.st, h.bf, rfl, h.eo, h.sh, h.ku, h.kd, h.pu, h.pd, ⟨u ++ l.take k, by rw [← List.append_assoc, e1], by show σ.up ++ _ = _; rw [e2]; rfl⟩, h.dn⟩
theorem OL.write (h : OL bf σ il ol cl sl sh false eo en) (k : Nat) (hk : k ≤ σ.up.length) : OL bf (wrV σ k 0) il (ol ++ σ.up.take k) cl sl (sh + if wrS σ k then 1 else 0) false eo en := by
  obtain ⟨u, e1, e2⟩ := h.up
  have e2 : σ.up = u := e2
  have hl : (ol ++ σ.up.take k).length = ol.length + k := by rw [List.length_append, List.length_take, Nat.min_eq_left hk]
  have hsh := h.sh
  have hku := h.ku
  have hkd := h.kd
  have hpu := h.pu
  have hpd := h.pd
  have hs : wrS σ k = true → σ.shut = false := by
    intro hw
    unfold wrS at hw
    rcases hb : σ.shut with _ | _
    · rfl
    · rw [hb] at hw
      simp at hw
  have hsh2 : sh + (if wrS σ k then 1 else 0) = if (σ.shut || wrS σ k) then 1 else 0 := by
    rcases hw : wrS σ k with _ | _
    · rw [Bool.or_false]; simpa using hsh
    · rw [hs hw] at hsh ⊢
      simp [hsh]
  unfold wrV movV
  by_cases h0 : k + 0 = 0
  · rw [if_pos h0]
    exact ⟨h.st, h.bf, h.en, h.eo, hsh2, by rw [hl]; show σ.ku = _; omega, hkd, by rw [hl]; show σ.pu + k ≤ _; omega, hpd, ⟨u.drop k, by rw [e2, List.append_assoc, List.take_append_drop]; exact e1, by show σ.up.drop k = _; rw [e2]; rfl⟩, h.dn⟩
  · rw [if_neg h0]
    exact ⟨h.st, h.bf, h.en, h.eo, hsh2, by rw [hl]; show σ.ku + k = _; omega, hkd, by rw [hl]; show σ.pu + k ≤ _; omega, hpd, ⟨u.drop k, by rw [e2, List.append_assoc, List.take_append_drop]; exact e1, by show σ.up.drop k = _; rw [e2]; rfl⟩, h.dn⟩
theorem OL.del (h : OL bf σ il ol cl sl sh false false en) (l : List UInt8) (k : Nat) : OL bf (delV σ l k 0) il ol (cl ++ l.take k) sl sh false false en := by
  obtain ⟨u, e1, e2⟩ := h.dn
  exact ⟨h.st, h.bf, h.en, h.eo, h.sh, h.ku, h.kd, h.pu, h.pd, h.up, ⟨u ++ l.take k, by rw [← List.append_assoc, e1], by show σ.dn ++ _ = _; rw [e2]; rfl⟩⟩
theorem OL.eof (h : OL bf σ il ol cl sl sh false false en) : OL bf { σ with came := true } il ol cl sl sh false true en :=
  ⟨h.st, h.bf, h.en, rfl, h.sh, h.ku, h.kd, h.pu, h.pd, h.up, h.dn⟩
theorem OL.sent (h : OL bf σ il ol cl sl sh false eo en) (k : Nat) (hk : k ≤ σ.dn.length) (e : Bool) : OL bf (sentV σ k e 0) il ol cl (sl ++ σ.dn.take k) sh false eo en := by
  obtain ⟨u, e1, e2⟩ := h.dn
  have e2 : σ.dn = u := e2
  have hl : (sl ++ σ.dn.take k).length = sl.length + k := by rw [List.length_append, List.length_take, Nat.min_eq_left hk]
  have hku := h.ku
  have hkd := h.kd
  have hpu := h.pu
  have hpd := h.pd
  unfold sentV movV
  by_cases h0 : 0 + k = 0
  · rw [if_pos h0]
    exact ⟨h.st, h.bf, h.en, h.eo, h.sh, hku, by rw [hl]; show σ.kd = _; omega, hpu, by rw [hl]; show σ.pd + k ≤ _; omega, h.up, ⟨u.drop k, by rw [e2, List.append_assoc, List.take_append_drop]; exact e1, by show σ.dn.drop k = _; rw [e2]; rfl⟩⟩
  · rw [if_neg h0]
    exact ⟨h.st, h.bf, h.en, h.eo, h.sh, hku, by rw [hl]; show σ.kd + k = _; omega, hpu, by rw [hl]; show σ.pd + k ≤ _; omega, h.up, ⟨u.drop k, by rw [e2, List.append_assoc, List.take_append_drop]; exact e1, by show σ.dn.drop k = _; rw [e2]; rfl⟩⟩
theorem OL.close (h : OL bf σ il ol cl sl sh ov eo en) : OL bf (shutV σ) il ol cl sl sh true eo en := by
  obtain ⟨u, e1, _⟩ := h.up
  obtain ⟨v, e2, _⟩ := h.dn
  exact ⟨rfl, h.bf, h.en, h.eo, h.sh, h.ku, h.kd, h.pu, h.pd, ⟨u, e1, rfl⟩, ⟨v, e2, rfl⟩⟩
theorem OL.app0 (h : OL bf σ il ol cl sl sh ov eo en) (l : List UInt8) : OL bf σ (il ++ l.take 0) ol (cl ++ l.take 0) sl sh ov eo en := by
  rw [List.take_zero, List.append_nil, List.append_nil]
  exact h
theorem OL.lens (h : OL bf σ il ol cl sl sh ov eo en) : ol.length ≤ il.length ∧ sl.length ≤ cl.length ∧ sh ≤ 1 ∧ (ov = false → σ.up.length = il.length - ol.length ∧ σ.dn.length = cl.length - sl.length) ∧ (ov = true → σ.up.length = 0 ∧ σ.dn.length = 0) := by
  obtain ⟨u, e1, e3⟩ := h.up
  obtain ⟨v, e2, e4⟩ := h.dn
  have q1 := congrArg List.length e1
  have q2 := congrArg List.length e2
  rw [List.length_append] at q1 q2
  have hs := h.sh
  refine ⟨by omega, by omega, by split at hs <;> omega, fun e => ?_, fun e => ?_⟩
  · subst e
    simp at e3 e4
    subst e3 e4
    omega
  · subst e
    simp at e3 e4
    simp [e3, e4]
theorem OL.begins (h : OL bf σ il ol cl sl sh ov eo en) : (decide (ol.length ≤ il.length) && (il.take ol.length == ol)) = true ∧ (decide (sl.length ≤ cl.length) && (cl.take sl.length == sl)) = true := by
  obtain ⟨h1, h2, _⟩ := h.lens
  obtain ⟨u, e1, e3⟩ := h.up
  obtain ⟨v, e2, e4⟩ := h.dn
  rw [decide_eq_true h1, decide_eq_true h2, ← e1, ← e2, List.take_left, List.take_left]
  simp
end

theorem TI.fits {W w : World} {tb : Nat} {σ : TV} {K : List Nat} (h : TI W w tb σ K) : σ.up.length ≤ 65535 := by
  obtain ⟨B, G, h0, hB, ⟨us, ha, hi, ip, po, x, y, gu, gd, Ru, Rd, rfl, ht⟩, hK⟩ := h.ex
  have := ht.pu.fits
  omega

/-! The calls, beside the rows and a copy. -/
section
variable {W w : World} {tb : Nat} {σ : TV} {K : List Nat} {A B C D : Value} {am bm cm dm : Nat} {al bl cl dl : List UInt8} {ob : Nat} {x : Tc} {bf : Int} {sh : Nat} {ov eo en : Bool}
theorem o_acc (h : OI W w tb σ K A am al B bm bl C cm cl D dm dl) (hp : CP w K ob x) (hL : OL bf σ al bl cl dl sh ov eo en) (hf : σ.Few) (hx : Bs W x.A x.n x.l) (hc : x.n ≤ x.c) (hn : x.n ≤ 200001) :
    Calls Try.prog 11 #[.pointer (some ⟨tb, 0, none⟩), .slice x.A x.n x.c, .bool x.en] w fun e w' => ∃ (q : Nat) (σ' : TV), e = .returned (.int .i64 q) ∧ q ≤ x.n ∧ (ov = true ∨ en = true → q = 0) ∧ OI W w' tb σ' K A am al B bm bl C cm cl D dm dl ∧ CP w' K ob x ∧ OL bf σ' (al ++ x.l.take q) bl cl dl sh ov eo (en || (x.en && !ov)) := by
  by_cases hcase : ov = true ∨ en = true
  · have hst : σ.st = 4 ∨ σ.ended = true := by
      rcases hcase with e | e
      · left
        rw [hL.st, e]
        rfl
      · right
        rw [hL.en, e]
    refine (ti_acc0 x.A x.n x.c x.en h.ti hst).mono ?_
    rintro e w' ⟨rfl, rfl⟩
    refine ⟨0, σ, rfl, Nat.zero_le _, fun _ => rfl, h, hp, ?_⟩
    rw [List.take_zero, List.append_nil]
    have : (en || (x.en && !ov)) = en := by
      rcases hcase with e | e <;> subst e <;> simp
    rw [this]
    exact hL
  · obtain ⟨rfl, rfl⟩ : ov = false ∧ en = false := by
      rcases ov <;> rcases en <;> simp at hcase ⊢
    have hst : σ.st ≠ 4 := by
      rw [hL.st]
      decide
    refine (ti_acc x.A x.n x.c x.l x.en h.ti hst hL.en hf (bs_low hx h.low h.ti.tb_ge.1) hc (by omega)).mono ?_
    rintro e w' ⟨rfl, ht, hk⟩
    refine ⟨_, _, rfl, putN_le _ _ _, fun e => absurd e hcase, h.kept ht hk, hp.kept hk, ?_⟩
    have := hL.acc x.l x.en (putN x.n 65535 σ.up.length)
    simpa using this
theorem o_write (m : Int) (h : OI W w tb σ K A am al B bm bl C cm cl D dm dl) (hp : CP w K ob x) (hL : OL bf σ al bl cl dl sh ov eo en) (hf : σ.Few) :
    Calls Try.prog 12 #[.pointer (some ⟨tb, 0, none⟩), .int .i64 m, .int .i64 0] w fun e w' => ∃ A' k c' b σ' xs, e = .returned (.tuple #[.slice A' k c', .bool b]) ∧ Bs w' A' k xs ∧ k ≤ σ.up.length ∧ (ov = true → k = 0 ∧ b = false) ∧ (b = true → en = true ∧ bm + k = am ∧ sh = 0) ∧ OI W w' tb σ' K A am al B bm bl C cm cl D dm dl ∧ CP w' K ob x ∧ OL bf σ' al (bl ++ xs) cl dl (sh + if b then 1 else 0) ov eo en := by
  have hlA := h.a.len
  have hlB := h.b.len
  rcases ov with _ | _
  · have hst : σ.st = 3 := hL.st
    refine (ti_write m 0 h.ti hst hf).mono ?_
    have hk := lookN_le m σ.up.length
    generalize lookN m σ.up.length = k at hk ⊢
    rintro e w' ⟨A', c', rfl, ho, ht, hkp⟩
    have hW := hL.write k hk
    refine ⟨A', k, c', _, _, _, rfl, Bs.of_own ho, hk, fun e => (Bool.false_ne_true e).elim, fun e => ?_, h.kept (ht.mono fun b hb => List.mem_append_right _ hb) hkp, hp.kept hkp, hW⟩
    obtain ⟨u, e1, e2⟩ := hL.up
    have e2 : σ.up = u := e2
    have hq := congrArg List.length e1
    rw [List.length_append, hlA, hlB, ← e2] at hq
    unfold wrS at e
    rw [hL.en] at e
    have hs := hL.sh
    rcases en with _ | _
    · simp at e
    · rcases h3 : σ.shut with _ | _
      · rw [h3] at e hs
        simp at e hs
        exact ⟨rfl, by omega, hs⟩
      · rw [h3] at e
        simp at e
  · have hst : σ.st ≠ 3 := by
      rw [hL.st]
      decide
    refine (ti_write0 m 0 h.ti hst).mono ?_
    rintro e w' ⟨rfl, rfl⟩
    exact ⟨none, 0, 0, false, σ, [], rfl, Bs.of_own (l := []) (Rw.nil W w K).own, Nat.zero_le _, fun _ => ⟨rfl, rfl⟩, fun e => (Bool.false_ne_true e).elim, h, hp, by simpa using hL⟩
theorem o_del (h : OI W w tb σ K A am al B bm bl C cm cl D dm dl) (hp : CP w K ob x) (hL : OL bf σ al bl cl dl sh ov eo en) (hf : σ.Few) (hx : Bs W x.A x.n x.l) (hc : x.n ≤ x.c) (hn : x.n ≤ 200001) :
    Calls Try.prog 16 #[.pointer (some ⟨tb, 0, none⟩), .slice x.A x.n x.c, .int .i64 0] w fun e w' => ∃ (q : Nat) (σ' : TV), e = .returned (.int .i64 q) ∧ q ≤ x.n ∧ (ov = true ∨ eo = true → q = 0) ∧ OI W w' tb σ' K A am al B bm bl C cm cl D dm dl ∧ CP w' K ob x ∧ OL bf σ' al bl (cl ++ x.l.take q) dl sh ov eo en := by
  by_cases hcase : ov = true ∨ eo = true
  · have hst : σ.st ≠ 3 ∨ σ.came = true := by
      rcases hcase with e | e
      · left
        rw [hL.st, e]
        decide
      · right
        rw [hL.eo, e]
    refine (ti_del0 x.A x.n x.c 0 h.ti hst).mono ?_
    rintro e w' ⟨rfl, rfl⟩
    refine ⟨0, σ, rfl, Nat.zero_le _, fun _ => rfl, h, hp, ?_⟩
    rw [List.take_zero, List.append_nil]
    exact hL
  · obtain ⟨rfl, rfl⟩ : ov = false ∧ eo = false := by
      rcases ov <;> rcases eo <;> simp at hcase ⊢
    have hst : σ.st = 3 := hL.st
    refine (ti_del x.A x.n x.c x.l 0 h.ti hst hL.eo hf (hx.below h.low) hc (by omega)).mono ?_
    rintro e w' ⟨rfl, ht, hk⟩
    exact ⟨_, _, rfl, putN_le _ _ _, fun e => absurd e hcase, h.kept ht hk, hp.kept hk, hL.del x.l _⟩
theorem o_eof (h : OI W w tb σ K A am al B bm bl C cm cl D dm dl) (hp : CP w K ob x) (hL : OL bf σ al bl cl dl sh ov eo en) :
    Calls Try.prog 22 #[.pointer (some ⟨tb, 0, none⟩)] w fun e w' => ∃ (b : Bool) (σ' : TV), e = .returned (.bool b) ∧ (b = true → ov = false ∧ eo = false) ∧ OI W w' tb σ' K A am al B bm bl C cm cl D dm dl ∧ CP w' K ob x ∧ OL bf σ' al bl cl dl sh ov (eo || b) en := by
  by_cases hcase : ov = true ∨ eo = true
  · have hst : σ.st ≠ 3 ∨ σ.came = true := by
      rcases hcase with e | e
      · left
        rw [hL.st, e]
        decide
      · right
        rw [hL.eo, e]
    refine (ti_eof0 h.ti hst).mono ?_
    rintro e w' ⟨rfl, rfl⟩
    exact ⟨false, σ, rfl, fun e => (Bool.false_ne_true e).elim, h, hp, by rw [Bool.or_false]; exact hL⟩
  · obtain ⟨rfl, rfl⟩ : ov = false ∧ eo = false := by
      rcases ov <;> rcases eo <;> simp at hcase ⊢
    have hst : σ.st = 3 := hL.st
    refine (ti_eof h.ti hst hL.eo).mono ?_
    rintro e w' ⟨rfl, ht, hk⟩
    exact ⟨true, _, rfl, fun _ => ⟨rfl, rfl⟩, h.kept ht hk, hp.kept hk, hL.eof⟩
theorem o_ready (m : Int) (h : OI W w tb σ K A am al B bm bl C cm cl D dm dl) (hp : CP w K ob x) (hL : OL bf σ al bl cl dl sh ov eo en) (hf : σ.Few) :
    Calls Try.prog 23 #[.pointer (some ⟨tb, 0, none⟩), .int .i64 m] w fun e w' => ∃ A' k c' d s K', e = .returned (.tuple #[.slice A' k c', .bool d, .bool s]) ∧ k ≤ σ.dn.length ∧ (ov = true → d = false ∧ s = false) ∧ (d = true → eo = true ∧ dm + k = cm) ∧ Rw W w' K' (.slice A' k c') k (σ.dn.take k) ∧ OI W w' tb σ K' A am al B bm bl C cm cl D dm dl ∧ CP w' K' ob x := by
  have hlC := h.c.len
  have hlD := h.d.len
  rcases ov with _ | _
  · have hst : σ.st = 3 := hL.st
    refine (ti_ready m h.ti hst hf).mono ?_
    have hk := lookN_le m σ.dn.length
    generalize lookN m σ.dn.length = k at hk ⊢
    rintro e w' ⟨A', c', rfl, ho, ht, hkp⟩
    have hK : ∀ b ∈ K, b ∈ (Value.slice A' k c').ownBlock.toList ++ K := fun b hb => List.mem_append_right _ hb
    have h' := h.kept (ht.mono hK) hkp
    refine ⟨A', k, c', _, _, _, rfl, hk, fun e => (Bool.false_ne_true e).elim, fun e => ?_, ⟨own_base ho h.low.size, fun b hb => List.mem_append_left _ (by simpa using hb)⟩, ⟨ht, h'.a.mono hK, h'.b.mono hK, h'.c.mono hK, h'.d.mono hK, h.ab, h.ac, h.ad, h.bc, h.bd, h.cd⟩, (hp.kept hkp).mono hK⟩
    obtain ⟨u, e1, e2⟩ := hL.dn
    have e2 : σ.dn = u := e2
    have hq := congrArg List.length e1
    rw [List.length_append, hlC, hlD, ← e2] at hq
    unfold rdE at e
    rw [hL.eo] at e
    simp at e
    exact ⟨e.1, by omega⟩
  · have hst : σ.st ≠ 3 := by
      rw [hL.st]
      decide
    refine (ti_ready0 m h.ti hst).mono ?_
    rintro e w' ⟨rfl, rfl⟩
    exact ⟨none, 0, 0, false, false, K, rfl, Nat.zero_le _, fun _ => ⟨rfl, rfl⟩, fun e => (Bool.false_ne_true e).elim, Rw.nil _ _ _, h, hp⟩
theorem o_sent (k : Nat) (d : Bool) (h : OI W w tb σ K A am al B bm bl C cm cl D dm dl) (hp : CP w K ob x) (hL : OL bf σ al bl cl dl sh false eo en) (hf : σ.Few) (hk : k ≤ σ.dn.length) :
    Calls Try.prog 17 #[.pointer (some ⟨tb, 0, none⟩), .int .i64 k, .bool d, .int .i64 0] w fun e w' => ∃ σ', e = .returned (.tuple #[]) ∧ OI W w' tb σ' K A am al B bm bl C cm cl D dm dl ∧ CP w' K ob x ∧ Kept K w w' ∧ OL bf σ' al bl cl (dl ++ σ.dn.take k) sh false eo en := by
  refine (ti_sent k 0 d h.ti hf).mono ?_
  rw [show lookN (k : Int) σ.dn.length = k by unfold lookN; omega]
  rintro e w' ⟨rfl, ht, hkp⟩
  exact ⟨_, rfl, h.kept ht hkp, hp.kept hkp, hkp, hL.sent k hk d⟩
theorem o_close (h : OI W w tb σ K A am al B bm bl C cm cl D dm dl) (hL : OL bf σ al bl cl dl sh ov eo en) (hf : σ.Few) :
    Calls Try.prog 18 #[.pointer (some ⟨tb, 0, none⟩)] w fun e w' => ∃ σ', e = .returned (.tuple #[]) ∧ OI W w' tb σ' K A am al B bm bl C cm cl D dm dl ∧ OL bf σ' al bl cl dl sh true eo en := by
  refine (ti_close h.ti hf).mono ?_
  rintro e w' ⟨rfl, ht, hkp⟩
  exact ⟨_, rfl, h.kept ht hkp, hL.close⟩
end
end Go.Proofs.Ytefhadfcipifmaa
