/- What a call that writes into memory of its own leaves alone: every block outside a list. And blocks known whole, for structs behind pointers. Plain lemmas; each names its own conditions. -/
import Derived.Test.YtdiahjeplaegnaaBase
import Derived.Test.YtdiahjeplaegnaaMix
namespace Go.Proofs.Ytdiahjeplaegnaa
open Go.RowKit

/-- Every block that was there is as it was, but for those of F. -/
structure Turned (F : List Nat) (w w' : World) : Prop where
  os : w'.os = w.os
  tape : w'.tape = w.tape
  output : w'.output = w.output
  size : w.heap.size ≤ w'.heap.size
  block : ∀ k, k < w.heap.size → k ∉ F → w'.heap[k]? = w.heap[k]?

theorem Turned.refl (F : List Nat) (w : World) : Turned F w w := ⟨rfl, rfl, rfl, Nat.le_refl _, fun _ _ _ => rfl⟩
theorem Turned.of_below {F : List Nat} {w w' : World} (h : Below w.heap.size w w') : Turned F w w' := ⟨h.os, h.tape, h.output, h.size, fun k hk _ => h.block k hk⟩
theorem Turned.trans {F G : List Nat} {w w1 w2 : World} (h : Turned F w w1) (k : Turned G w1 w2) (hG : ∀ b ∈ G, b ∈ F ∨ w.heap.size ≤ b) : Turned F w w2 :=
  ⟨k.os.trans h.os, k.tape.trans h.tape, k.output.trans h.output, Nat.le_trans h.size k.size, fun b hb hF => by
    refine (k.block b (Nat.lt_of_lt_of_le hb h.size) (fun hbG => ?_)).trans (h.block b hb hF)
    rcases hG b hbG with h1 | h1
    · exact hF h1
    · omega⟩
theorem Turned.mono {F G : List Nat} {w w' : World} (h : Turned F w w') (hG : ∀ b ∈ F, b ∈ G) : Turned G w w' :=
  ⟨h.os, h.tape, h.output, h.size, fun b hb hn => h.block b hb (fun hf => hn (hG b hf))⟩
theorem Turned.below {F : List Nat} {B : Nat} {w w' : World} (h : Turned F w w') (hF : ∀ b ∈ F, B ≤ b) (hB : B ≤ w.heap.size) : Below B w w' :=
  ⟨h.os, h.tape, h.output, h.size, fun b hb => h.block b (by omega) (fun hf => by have := hF b hf; omega)⟩
theorem Turned.cell {F : List Nat} {w w' : World} (h : Turned F w w') {p : Addr} {v : Value} (hp : w.cell? p = some v) (hF : p.block ∉ F) : w'.cell? p = some v := by
  rw [World.cell?_of_block (w := w) (h.block p.block (cell_lt hp) hF)]; exact hp
theorem Turned.drew {F : List Nat} {w w' : World} (h : Turned F w w') : Turned F w w'.drew := ⟨h.os, h.tape, h.output, h.size, h.block⟩
theorem Turned.setCell {F : List Nat} {w w' : World} (h : Turned F w w') {p : Addr} (hp : p.block ∈ F) (u : Value) : Turned F w (w'.setCell p u) :=
  ⟨h.os, h.tape, h.output, by simpa [World.setCell] using h.size, fun b hb hn => (Below.heap_setCell w' p u b (fun e => hn (e ▸ hp))).trans (h.block b hb hn)⟩
theorem Turned.grown {F : List Nat} {w w1 w2 : World} {row : Option Nat} (h : Turned F w w1) (hg : w1.grownBy w2 row) (hr : ∀ k, row = some k → k ∈ F ∨ w.heap.size ≤ k) : Turned F w w2 :=
  ⟨hg.os.trans h.os, hg.tape.trans h.tape, hg.output.trans h.output, Nat.le_trans h.size hg.size, fun b hb hn => by
    refine (hg.block b (Nat.lt_of_lt_of_le hb h.size) (fun e => ?_)).trans (h.block b hb hn)
    rcases hr b e.symm with h1 | h1
    · exact hn h1
    · omega⟩

/-- The slice's address lies in none of F. -/
def Off (A : Option Addr) (F : List Nat) : Prop := ∀ ad, A = some ad → ad.block ∉ F

theorem Rd.turned {F : List Nat} {w w' : World} {A : Option Addr} {n size : Nat} {xs : List Value} (h : Rd w size A n xs) (ht : Turned F w w') (hF : Off A F) : Rd w' size A n xs :=
  ⟨h.1, fun hn => by
    obtain ⟨b, o, e, hc⟩ := h.2 hn
    exact ⟨b, o, e, fun j u hu => ht.cell (hc j u hu) (show b ∉ F from hF _ e)⟩⟩
theorem Bs.turned {F : List Nat} {w w' : World} {A : Option Addr} {n : Nat} {l : List UInt8} (h : Bs w A n l) (ht : Turned F w w') (hF : Off A F) : Bs w' A n l := Rd.turned h ht hF

theorem own_turned {F : List Nat} {w w' : World} {base : Nat} {e : TypeId} {v : Value} {n size : Nat} {xs : List Value} (h : w.ownsRow base e size v n xs) (ht : Turned F w w') (hF : ∀ k, v.ownBlock = some k → k ∉ F) : w'.ownsRow base e size v n xs := by
  obtain ⟨h1, h2⟩ := h
  refine ⟨h1, ?_⟩
  rcases h2 with h2 | ⟨g, cap, cur, rfl, hg, hh, r⟩
  · exact .inl h2
  · refine .inr ⟨g, cap, cur, rfl, hg, ?_, r⟩
    have hlt : g < w.heap.size := by
      rcases Nat.lt_or_ge g w.heap.size with h3 | h3
      · exact h3
      · rw [Array.getElem?_eq_none h3] at hh; cases hh
    rw [ht.block g hlt (hF g rfl)]; exact hh

/-- Block g is just the cells cs of type t, none frozen. -/
def Blk (w : World) (g : Nat) (t : TypeId) (cs : Array Value) : Prop := w.heap[g]? = some (.cells cs t (0, 0))

section
variable {w w' : World} {g : Nat} {t : TypeId} {cs : Array Value}
theorem Blk.lt (h : Blk w g t cs) : g < w.heap.size := by
  rcases Nat.lt_or_ge g w.heap.size with h1 | h1
  · exact h1
  · unfold Blk at h; rw [Array.getElem?_eq_none h1] at h; cases h
theorem Blk.cell (h : Blk w g t cs) (i : Nat) : w.cell? ⟨g, i, none⟩ = cs[i]? := by
  unfold Blk at h
  simp [World.cell?, h]
theorem Blk.frozen (h : Blk w g t cs) (i : Nat) : w.frozen? ⟨g, i, none⟩ = false := by
  unfold Blk at h
  simp [World.frozen?, h]
theorem Blk.new (w : World) (t : TypeId) (cs : Array Value) : Blk (w.alloc (.cells cs t)) w.heap.size t cs := heap_alloc_new w _
theorem Blk.drew (h : Blk w g t cs) : Blk w.drew g t cs := h
theorem Blk.alloc (h : Blk w g t cs) (o : Obj) : Blk (w.alloc o) g t cs := (Below.heap_alloc w o g h.lt).trans h
theorem Blk.set_ (h : Blk w g t cs) (i : Nat) (u : Value) : Blk (w.setCell ⟨g, i, none⟩ u) g t (cs.setIfInBounds i u) := by
  unfold Blk at h ⊢
  simp [World.setCell, Array.getElem?_modify, h]
theorem Blk.below {B : Nat} (h : Blk w g t cs) (hb : Below B w w') (hg : g < B) : Blk w' g t cs := (hb.block g hg).trans h
theorem Blk.turned {F : List Nat} (h : Blk w g t cs) (ht : Turned F w w') (hg : g ∉ F) : Blk w' g t cs := (ht.block g h.lt hg).trans h
theorem Blk.grown {row : Option Nat} (h : Blk w g t cs) (hb : w.grownBy w' row) (hg : some g ≠ row) : Blk w' g t cs := (hb.block g h.lt hg).trans h
theorem Blk.own_ne {base : Nat} {e : TypeId} {size n : Nat} {v : Value} {xs : List Value} (hg : Blk w g t cs) (h : w.ownsRow base e size v n xs) (hne : e ≠ t) : v.ownBlock ≠ some g := by
  rcases h.2 with ⟨rfl, _⟩ | ⟨g', cap, cur, rfl, _, hh, _⟩
  · simp [Value.ownBlock]
  · intro he
    have : g' = g := by simpa [Value.ownBlock] using he
    subst this
    unfold Blk at hg
    rw [hg] at hh
    injection hh with hh
    injection hh with _ ht
    exact hne ht.symm
end

/-- An append in the lexical walk of a drawn region. -/
theorem mix_app {P : Program} {w : World} {ops : Array Oper} {R : Act → World → Prop} {rest : List Oper} {d : Option Tmp} {s x : Operand} {t ty : TypeId} {pos : String} {after : Array Edge} {gd : Option (Nat × Bool)} {a : Act}
    (base : Nat) (e : TypeId) (i : TypeInfo) (z : Value) (size bytes : Nat) (ht : P.underlying t = some (.slice e)) (hi : P.info? e = some i) (hz : i.zero = some z)
    (hsize : i.size = size) (hby : i.bytes = bytes) (hzs : z.cells.size = size) (hsz : 0 < size)
    (v : Value) (n : Nat) (xs : List Value) (hown : w.ownsRow base e size v n xs)
    (A : Option Addr) (m c : Nat) (news : List Value) (hr : Rd w size A m news) (hs : a.eval s = v) (hx : a.eval x = .slice A m c) (h1 : ∀ u ∈ news, u.oneCell' = true)
    (hbytes : (n + m) * bytes ≤ 140737488355328) (h63 : n + m ≤ 140737488355328) (hbase : base ≤ w.heap.size)
    (hw : Region.wanted (Oper.mk d (.call { callee := .builtin .append, args := #[s, x], argTypes := #[t, t] }) ty pos after gd) (yielded ops a.tmps) = true)
    (h : ∀ A' c' w', w'.ownsRow base e size (.slice A' (n + m) c') (n + m) (xs ++ news) → w.grownBy w' v.ownBlock →
      ((Value.slice A' (n + m) c').ownBlock = v.ownBlock ∨ (Value.slice A' (n + m) c').ownBlock = some w.heap.size) → wpMix P (fun _ => True) ops kd R rest (a.put d (.slice A' (n + m) c')) w') :
    wpMix P (fun _ => True) ops kd R (Oper.mk d (.call { callee := .builtin .append, args := #[s, x], argTypes := #[t, t] }) ty pos after gd :: rest) a w := by
  simp only [wpMix]
  rw [if_pos hw, if_neg (show ¬ kd (.call { callee := .builtin .append, args := #[s, x], argTypes := #[t, t] }) = 0 from fun h => Nat.noConfusion (show (2 : Nat) = 0 from h)), if_neg (show ¬ kd (.call { callee := .builtin .append, args := #[s, x], argTypes := #[t, t] }) = 1 from fun h => Nat.noConfusion (Nat.succ.inj (show (2 : Nat) = 1 from h)))]
  exact wp_app w s x t rfl base e i z size bytes ht hi hz hsize hby hzs hsz v n xs hs hown A m c news hx hr h1 hbytes h63 hbase fun A' c' w' h2 h3 h4 => ⟨trivial, h A' c' w' h2 h3 h4⟩
/-- It reads as ints. -/
def Is (w : World) (A : Option Addr) (n : Nat) (l : List Int) : Prop := Rd w 1 A n (l.map (Value.int .i64))
/-- Element i of a slice of ints. -/
theorem Is.at_ {w : World} {A : Option Addr} {n : Nat} {l : List Int} (h : Is w A n l) {i : Nat} (hi : i < n) : ∃ b o x, A = some ⟨b, o, none⟩ ∧ l[i]? = some x ∧ w.cell? ⟨b, o + i, none⟩ = some (.int .i64 x) := by
  obtain ⟨b, o, e, hc⟩ := h.2 (by omega)
  have hl : i < l.length := by have := h.1; simp at this; omega
  refine ⟨b, o, l[i], e, List.getElem?_eq_getElem hl, hc i _ ?_⟩
  simp [List.getElem?_eq_getElem hl]
theorem Is.below {w w' : World} {A : Option Addr} {n : Nat} {l : List Int} (h : Is w A n l) (hb : Below w.heap.size w w') : Is w' A n l := Rd.below h hb

/-! What the builtins min and max answer, as words: to be laid as [local go_sem]. -/
theorem if_min (a b : Int) : (if a < b then a else b) = min a b := by omega
theorem if_max (a b : Int) : (if a < b then b else a) = max a b := by omega

theorem if_minN (a b : Nat) : (if a < b then (a : Int) else (b : Int)) = min (a : Int) (b : Int) := by omega
theorem if_maxN (a b : Nat) : (if a < b then (b : Int) else (a : Int)) = max (a : Int) (b : Int) := by omega

/-! The address of 's[k:]' as one word: lay [local go_sem ↓] sliced_word and [local go_sem] offA_zero, and no slice parts the walk. -/
def offA (A : Option Addr) (k c size : Nat) : Option Addr := if c = k then A else A.map (·.add (k * size))
theorem sliced_word (a : Option Addr) (l h m s : Nat) : sliced a l h m s = .slice (offA a l m s) (h - l) (m - l) := rfl
theorem offA_zero (A : Option Addr) (c s : Nat) : offA A 0 c s = A := by
  unfold offA
  split
  · rfl
  · rcases A with _ | a
    · rfl
    · simp [Addr.add]
theorem Rd.off {w : World} {A : Option Addr} {n size : Nat} {xs : List Value} (h : Rd w size A n xs) {k cap : Nat} (hk : k ≤ n) (hc : n ≤ cap) : Rd w size (offA A k cap size) (n - k) (xs.drop (k * size)) := h.drop hk hc
theorem Bs.off {w : World} {A : Option Addr} {n : Nat} {l : List UInt8} (h : Bs w A n l) {k cap : Nat} (hk : k ≤ n) (hc : n ≤ cap) : Bs w (offA A k cap 1) (n - k) (l.drop k) := by
  have h1 := Rd.off h hk hc
  rw [Nat.mul_one, ← List.map_drop] at h1
  exact h1
theorem Bs.to {w : World} {A : Option Addr} {n : Nat} {l : List UInt8} (h : Bs w A n l) {k : Nat} (hk : k ≤ n) : Bs w A k (l.take k) := by
  have h1 := Rd.take h hk
  rw [Nat.mul_one, ← List.map_take] at h1
  exact h1

theorem own_le {w : World} {base : Nat} {e : TypeId} {size n c : Nat} {A : Option Addr} {xs : List Value} (h : w.ownsRow base e size (.slice A n c) n xs) : n ≤ c := by
  obtain ⟨A', c', e, hle⟩ := own_shape h
  injection e with _ _ e
  omega

section
variable {P : Program} (w : World)
/-- The same behind a guard that is up. -/
theorem wpList_appG {ops : Array Oper} {rest : List Oper} {o : Oper} {a : Act} {Q : Exit → Act → World → Prop} (hgd : Region.wanted o (yielded ops a.tmps) = true) (s x : Operand) (t : TypeId)
    (ho : o.op = .call { callee := .builtin .append, args := #[s, x], argTypes := #[t, t] })
    (base : Nat) (e : TypeId) (i : TypeInfo) (z : Value) (size bytes : Nat) (ht : P.underlying t = some (.slice e)) (hi : P.info? e = some i) (hz : i.zero = some z)
    (hsize : i.size = size) (hby : i.bytes = bytes) (hzs : z.cells.size = size) (hsz : 0 < size)
    (v : Value) (n : Nat) (xs : List Value) (hs : a.eval s = v) (hown : w.ownsRow base e size v n xs)
    (A : Option Addr) (m c : Nat) (news : List Value) (hx : a.eval x = .slice A m c) (hr : Rd w size A m news) (h1 : ∀ u ∈ news, u.oneCell' = true)
    (hbytes : (n + m) * bytes ≤ 140737488355328) (h63 : n + m ≤ 140737488355328) (hbase : base ≤ w.heap.size)
    (h : ∀ A' c' w', w'.ownsRow base e size (.slice A' (n + m) c') (n + m) (xs ++ news) → w.grownBy w' v.ownBlock →
      ((Value.slice A' (n + m) c').ownBlock = v.ownBlock ∨ (Value.slice A' (n + m) c').ownBlock = some w.heap.size) → wpList P ops Q rest (a.put o.dst (.slice A' (n + m) c')) w') : wpList P ops Q (o :: rest) a w :=
  wpList_step fun K hK => by
    rw [if_pos hgd]
    exact wp_app w s x t ho base e i z size bytes ht hi hz hsize hby hzs hsz v n xs hs hown A m c news hx hr h1 hbytes h63 hbase fun A' c' w' h2 h3 h4 => hK _ _ (h A' c' w' h2 h3 h4)

end

/-- A guard: an append comes up in the lexical walk. -/
theorem at_mapp {P : Program} {S : World → Prop} {ld : Op → Nat} {ops : Array Oper} {R : Act → World → Prop} {rest : List Oper} {d : Option Tmp} {args : Array Operand} {ts : Array TypeId} {ty : TypeId} {pos : String} {after : Array Edge} {gd : Option (Nat × Bool)} {a : Act} {w : World}
    (h : wpMix P S ops ld R (Oper.mk d (.call { callee := .builtin .append, args := args, argTypes := ts }) ty pos after gd :: rest) a w) :
    wpMix P S ops ld R (Oper.mk d (.call { callee := .builtin .append, args := args, argTypes := ts }) ty pos after gd :: rest) a w := h

/-- A drawn region in a class of worlds of the caller's own, whose loads yield one value in all of it. -/
theorem wp_mixC {P : Program} {id : Nat} {Q : Exit → Act → World → Prop} {a : Act} {w : World} {l : List Oper} (S : World → Prop) (hm : P.follows .mixedOrders = true) (hB : mixB kdS l (depsOf l) = true) (hS : S w.drew)
    (h : ∀ K : Act → World → Prop, (∀ a w', Q .normal a w' → K a w') → wpMix P S l.toArray kdS K l a w.drew) : (Code.region id l.toArray true).wp P Q a w :=
  wp_region_mix S kdS (depsOf l) hm hB hS fun _ hK => wpMix_mono (fun a w' hs hq => hK a w' hs hq) (h (fun a w' => Q .normal a w') (fun _ _ hq => hq)) hS
end Go.Proofs.Ytdiahjeplaegnaa
