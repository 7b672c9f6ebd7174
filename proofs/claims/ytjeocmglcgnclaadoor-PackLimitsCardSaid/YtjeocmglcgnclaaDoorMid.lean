/- A slice in the midst of a block of the call's own: 's = s[k:]' and 'append(s, ..)' on it. Plain lemmas; each names its own conditions. -/
import Derived.Test.YtjeocmglcgnclaaDoorTurn
namespace Go.Proofs.YtjeocmglcgnclaaDoor
open Go.RowKit

/-- v owns n elements xs from some cell of a block from base on; all its capacity lies in that block. -/
def Mid (w : World) (base : Nat) (e : TypeId) (size : Nat) (v : Value) (n : Nat) (xs : List Value) : Prop :=
  xs.length = n * size ∧ ((v = .slice none 0 0 ∧ n = 0) ∨
    ∃ (g o cap : Nat) (cur : Array Value), v = .slice (some ⟨g, o, none⟩) n cap ∧ base ≤ g ∧ w.heap[g]? = some (.cells cur e (0, 0)) ∧ n ≤ cap ∧ cap ≤ maxLen ∧ o + cap * size ≤ cur.size ∧ (cur.toList.drop o).take (n * size) = xs)

section
variable {w w' : World} {base : Nat} {e : TypeId} {size n : Nat} {v : Value} {xs : List Value}

theorem Mid.of_own (h : w.ownsRow base e size v n xs) : Mid w base e size v n xs := by
  refine ⟨h.1, ?_⟩
  rcases h.2 with h1 | ⟨g, cap, cur, h1, h2, h3, h4, h5, h6, h7⟩
  · exact .inl h1
  · exact .inr ⟨g, 0, cap, cur, h1, h2, h3, h4, h5, by omega, by simpa using h7⟩

theorem Mid.shape (h : Mid w base e size v n xs) : ∃ A c, v = .slice A n c ∧ n ≤ c ∧ c ≤ maxLen := by
  rcases h.2 with ⟨h1, rfl⟩ | ⟨g, o, cap, cur, h1, h2, h3, h4, h5, h6, h7⟩
  · exact ⟨none, 0, h1, Nat.le_refl _, by unfold maxLen; omega⟩
  · exact ⟨_, cap, h1, h4, h5⟩

theorem heap_lt {w : World} {g : Nat} {o : Obj} (h : w.heap[g]? = some o) : g < w.heap.size := by
  rcases Nat.lt_or_ge g w.heap.size with h3 | h3
  · exact h3
  · rw [Array.getElem?_eq_none h3] at h; cases h

theorem Mid.lt (h : Mid w base e size v n xs) : ∀ k, v.ownBlock = some k → base ≤ k ∧ k < w.heap.size := by
  intro k hk
  rcases h.2 with ⟨h1, _⟩ | ⟨g, o, cap, cur, h1, h2, h3, h4, h5, h6, h7⟩
  · subst h1; simp [Value.ownBlock] at hk
  · subst h1
    have : g = k := by simpa [Value.ownBlock] using hk
    subst this
    exact ⟨h2, heap_lt h3⟩

theorem Mid.below (h : Mid w base e size v n xs) (hb : Below w.heap.size w w') : Mid w' base e size v n xs := by
  refine ⟨h.1, h.2.imp id ?_⟩
  rintro ⟨g, o, cap, cur, h1, h2, h3, h4⟩
  exact ⟨g, o, cap, cur, h1, h2, by rw [hb.block g (heap_lt h3)]; exact h3, h4⟩
theorem Mid.turned {F : List Nat} (h : Mid w base e size v n xs) (ht : Turned F w w') (hF : ∀ k, v.ownBlock = some k → k ∉ F) : Mid w' base e size v n xs := by
  refine ⟨h.1, h.2.imp id ?_⟩
  rintro ⟨g, o, cap, cur, rfl, h2, h3, h4⟩
  exact ⟨g, o, cap, cur, rfl, h2, by rw [ht.block g (heap_lt h3) (hF g rfl)]; exact h3, h4⟩
theorem Mid.rebase (h : Mid w base e size v n xs) {base' : Nat} (hb : base' ≤ base) : Mid w base' e size v n xs := by
  refine ⟨h.1, h.2.imp id ?_⟩
  rintro ⟨g, o, cap, cur, rfl, h2, h3⟩
  exact ⟨g, o, cap, cur, rfl, Nat.le_trans hb h2, h3⟩
theorem Mid.kept {row : Option Nat} (h : Mid w base e size v n xs) (hg : w.grownBy w' row) (hne : v.ownBlock = none ∨ v.ownBlock ≠ row) : Mid w' base e size v n xs := by
  refine ⟨h.1, h.2.imp id ?_⟩
  rintro ⟨g, o, cap, cur, rfl, h2, h3, h4⟩
  refine ⟨g, o, cap, cur, rfl, h2, ?_, h4⟩
  rw [hg.block g (heap_lt h3) (fun e => ?_)]
  · exact h3
  · rcases hne with h5 | h5
    · simp [Value.ownBlock] at h5
    · exact h5 (by simpa [Value.ownBlock] using e)
theorem Blk.mid_ne {g : Nat} {t : TypeId} {cs : Array Value} (hg : Blk w g t cs) (h : Mid w base e size v n xs) (hne : e ≠ t) : v.ownBlock ≠ some g := by
  rcases h.2 with ⟨rfl, _⟩ | ⟨g', o, cap, cur, rfl, _, hh, _⟩
  · simp [Value.ownBlock]
  · intro he
    have : g' = g := by simpa [Value.ownBlock] using he
    subst this
    unfold Blk at hg
    rw [hg] at hh
    injection hh with hh
    injection hh with _ ht
    exact hne ht.symm

/-- It reads as its elements. -/
theorem Mid.rd {A : Option Addr} {c : Nat} (h : Mid w base e size (.slice A n c) n xs) : Rd w size A n xs := by
  refine ⟨h.1, fun hn => ?_⟩
  rcases h.2 with ⟨_, h0⟩ | ⟨g, o, cap, cur, h1, h2, h3, h4, h5, h6, h7⟩
  · omega
  · injection h1 with h1
    refine ⟨g, o, h1, fun j u hu => ?_⟩
    rw [← h7] at hu
    have hj : j < n * size := by
      have := (List.getElem?_eq_some_iff.1 hu).1
      simp at this
      omega
    rw [List.getElem?_take, if_pos hj, List.getElem?_drop] at hu
    simpa [World.cell?, h3] using hu

/-- 's[k:]'. -/
theorem Mid.off {A : Option Addr} {c k : Nat} (h : Mid w base e size (.slice A n c) n xs) (hk : k ≤ n) : Mid w base e size (.slice (offA A k c size) (n - k) (c - k)) (n - k) (xs.drop (k * size)) := by
  refine ⟨by rw [List.length_drop, h.1, Nat.sub_mul], ?_⟩
  rcases h.2 with ⟨h1, rfl⟩ | ⟨g, o, cap, cur, h1, h2, h3, h4, h5, h6, h7⟩
  · injection h1 with h1 h8 h9
    subst h1 h9
    have : k = 0 := by omega
    subst this
    exact .inl ⟨by rw [offA_zero], rfl⟩
  · injection h1 with h1 h8 h9
    subst h1 h9
    refine .inr ?_
    unfold offA
    by_cases hck : c = k
    · rw [if_pos hck]
      have hnk : n = k := by omega
      subst hck
      refine ⟨g, o, c - c, cur, rfl, h2, h3, by omega, by omega, by rw [Nat.sub_self, Nat.zero_mul]; omega, ?_⟩
      rw [hnk, Nat.sub_self, Nat.zero_mul, List.take_zero, List.drop_of_length_le (by rw [h.1, hnk]; exact Nat.le_refl _)]
    · rw [if_neg hck]
      refine ⟨g, o + k * size, c - k, cur, by simp [add_plain], h2, h3, by omega, by omega, ?_, ?_⟩
      · rw [Nat.sub_mul]
        have : k * size ≤ c * size := Nat.mul_le_mul_right _ (by omega)
        omega
      · rw [← h7, List.drop_take, List.drop_drop, Nat.sub_mul]

theorem Mid.len_le {A : Option Addr} {c : Nat} (h : Mid w base e size (.slice A n c) n xs) : n ≤ c := by
  obtain ⟨A', c', e1, hle, _⟩ := h.shape
  injection e1 with _ _ e1
  omega

/-- 'append(v, x...)' on such a row. -/
theorem run_app_mid {P : Program} (w : World) (base : Nat) (t ty e : TypeId) (i : TypeInfo) (z : Value) (size bytes : Nat) (ht : P.underlying t = some (.slice e)) (hi : P.info? e = some i) (hz : i.zero = some z)
    (hsize : i.size = size) (hby : i.bytes = bytes) (hzs : z.cells.size = size) (hsz : 0 < size)
    (v : Value) (n : Nat) (xs : List Value) (hown : Mid w base e size v n xs)
    (A : Option Addr) (m c : Nat) (news : List Value) (hr : Rd w size A m news) (h1 : ∀ u ∈ news, u.oneCell' = true)
    (hbytes : (n + m) * bytes ≤ 140737488355328) (h63 : n + m ≤ 140737488355328) (hbase : base ≤ w.heap.size) :
    ∃ A' c' w', (Builtin.append_ #[t, t] ty #[v, .slice A m c]).run P w = .ok (.slice A' (n + m) c') w' ∧ Mid w' base e size (.slice A' (n + m) c') (n + m) (xs ++ news) ∧ w.grownBy w' v.ownBlock ∧
      ((Value.slice A' (n + m) c').ownBlock = v.ownBlock ∨ ∀ k, (Value.slice A' (n + m) c').ownBlock = some k → w.heap.size ≤ k) := by
  rcases hown.2 with ⟨rfl, rfl⟩ | ⟨g, o, cap, cur, rfl, hbg, hg, hnc, hcm, hcs, htake⟩
  · have hx : xs = [] := List.eq_nil_of_length_eq_zero (by rw [hown.1, Nat.zero_mul])
    subst hx
    obtain ⟨A', c', w', h2, h3, h4, h5⟩ := run_app (P := P) w base t ty e i z size bytes ht hi hz hsize hby hzs hsz (.slice none 0 0) 0 [] (World.ownsRow_nil _ _ _ _) A m c news hr h1 hbytes h63 hbase
    exact ⟨A', c', w', h2, Mid.of_own h3, h4, h5.imp id fun h k hk => by rw [h] at hk; injection hk with hk; omega⟩
  · have hlen : (xs ++ news).length = (n + m) * size := by rw [List.length_append, hown.1, hr.1, Nat.add_mul]
    rcases A with _ | ad
    · obtain ⟨rfl, rfl⟩ := Rd.none_zero hr
      refine ⟨some ⟨g, o, none⟩, cap, w, ?_, by simpa using hown, World.grownBy.refl w _, .inl rfl⟩
      simp [Builtin.append_, run_underlying ht, sizeOf, typeInfo, hi, Builtin.lenOf, Builtin.firstCells, hnc, storeCells]
    · have hcells : ∀ j u, news[j]? = some u → w.cell? (ad.add j) = some u := by
        intro j u hu
        rcases Nat.eq_zero_or_pos m with h0 | h0
        · subst h0
          have hn : news = [] := List.eq_nil_of_length_eq_zero (by rw [hr.1, Nat.zero_mul])
          subst hn
          simp at hu
        · obtain ⟨b, o', h, hc⟩ := hr.2 h0
          injection h with h
          subst h
          rw [add_plain]
          exact hc j u hu
      by_cases hroom : n + m ≤ cap
      · have hfit : o + n * size + news.length ≤ cur.size := by
          rw [hr.1]
          have : (n + m) * size ≤ cap * size := Nat.mul_le_mul_right _ hroom
          rw [Nat.add_mul] at this
          omega
        subst hsize
        have hf := run_firstCells_some (P := P) w i.size m ad m c news hr.1 hcells
        have hst := run_storeCells_at P g (o + n * i.size) e news 0 cur w hg (by simpa using hfit) h1
        simp only [Nat.add_zero] at hst
        have hrun : (Builtin.append_ #[t, t] ty #[.slice (some ⟨g, o, none⟩) n cap, .slice (some ad) m c]).run P w =
            .ok (.slice (some ⟨g, o, none⟩) (n + m) cap) (w.setRow g (cur.toList.take (o + n * i.size) ++ news ++ cur.toList.drop (o + n * i.size + news.length)).toArray) := by
          simp [Builtin.append_, run_underlying ht, sizeOf, typeInfo, hi, Builtin.lenOf, hroom, hf, Addr.add_lit, hst]
        refine ⟨_, _, _, hrun, ⟨hlen, .inr ⟨g, o, cap, _, rfl, hbg, setRow_heap w g cur _ e _ hg, hroom, hcm, ?_, ?_⟩⟩, ⟨rfl, rfl, rfl, by simp, fun k _ hk => setRow_other w g k _ (fun e => hk (by simp [Value.ownBlock, e]))⟩, .inl rfl⟩
        · simp only [List.size_toArray, List.length_append, List.length_take, List.length_drop, Array.length_toList]
          omega
        · rw [← htake]
          have hle : o ≤ cur.toList.length := by simp; omega
          rw [List.append_assoc, List.drop_append_of_le_length (by simp; omega), List.drop_take, Nat.add_sub_cancel_left, ← List.append_assoc]
          have hl2 : ((cur.toList.drop o).take (n * i.size) ++ news).length = (n + m) * i.size := by rw [htake]; exact hlen
          rw [← hl2]
          exact List.take_left
      · have hrd := Mid.rd hown
        have holds : ∀ j u, xs[j]? = some u → w.cell? ((⟨g, o, none⟩ : Addr).add j) = some u := by
          intro j u hu
          rcases Nat.eq_zero_or_pos n with h0 | h0
          · have hx : xs = [] := List.eq_nil_of_length_eq_zero (by rw [hown.1, h0, Nat.zero_mul])
            subst hx
            simp at hu
          · obtain ⟨b, o', h, hc⟩ := hrd.2 h0
            injection h with h
            rw [h, add_plain]
            exact hc j u hu
        obtain ⟨v', w', hrun, r1, r2⟩ := run_append_arg_grows (P := P) w t ty e i z size bytes ht hi hz hsize hby hzs hsz ⟨g, o, none⟩ n cap xs hown.1 holds ad m c news hr.1 hcells (by omega) (by simp only [maxLen]; omega) hbytes
        obtain ⟨A', c', rfl, _⟩ := own_shape r1
        exact ⟨A', c', w', hrun, (Mid.of_own r1).rebase hbase, ⟨r2.os, r2.tape, r2.output, r2.size, fun k hk _ => r2.block k hk (by simp)⟩, .inr fun k hk => (r1.lt k hk).1⟩

/-- The same at a plain list of operations. -/
theorem wpList_mid {P : Program} (w : World) {ops : Array Oper} {rest : List Oper} {o : Oper} {a : Act} {Q : Exit → Act → World → Prop} (hgd : o.guard = none) (s x : Operand) (t : TypeId)
    (ho : o.op = .call { callee := .builtin .append, args := #[s, x], argTypes := #[t, t] })
    (base : Nat) (e : TypeId) (i : TypeInfo) (z : Value) (size bytes : Nat) (ht : P.underlying t = some (.slice e)) (hi : P.info? e = some i) (hz : i.zero = some z)
    (hsize : i.size = size) (hby : i.bytes = bytes) (hzs : z.cells.size = size) (hsz : 0 < size)
    (v : Value) (n : Nat) (xs : List Value) (hs : a.eval s = v) (hown : Mid w base e size v n xs)
    (A : Option Addr) (m c : Nat) (news : List Value) (hx : a.eval x = .slice A m c) (hr : Rd w size A m news) (h1 : ∀ u ∈ news, u.oneCell' = true)
    (hbytes : (n + m) * bytes ≤ 140737488355328) (h63 : n + m ≤ 140737488355328) (hbase : base ≤ w.heap.size)
    (h : ∀ A' c' w', Mid w' base e size (.slice A' (n + m) c') (n + m) (xs ++ news) → w.grownBy w' v.ownBlock →
      ((Value.slice A' (n + m) c').ownBlock = v.ownBlock ∨ ∀ k, (Value.slice A' (n + m) c').ownBlock = some k → w.heap.size ≤ k) → wpList P ops Q rest (a.put o.dst (.slice A' (n + m) c')) w') : wpList P ops Q (o :: rest) a w :=
  wpList_plain hgd fun K hK => by
    obtain ⟨A', c', w', hrun, h2, h3, h4⟩ := run_app_mid (P := P) w base t o.type e i z size bytes ht hi hz hsize hby hzs hsz v n xs hown A m c news hr h1 hbytes h63 hbase
    unfold Oper.wp execOp
    simp only [ho, resolve, invoke, builtin, Sem.run_bind, Sem.run_pure, Result.andThen_ok, List.map_toArray, List.map_cons, List.map_nil, hs, hx, hrun]
    exact hK _ _ (h A' c' w' h2 h3 h4)

/-- An append on such a row in the lexical walk of a drawn region. -/
theorem mix_mid {P : Program} {w : World} {ops : Array Oper} {R : Act → World → Prop} {rest : List Oper} {d : Option Tmp} {s x : Operand} {t ty : TypeId} {pos : String} {after : Array Edge} {gd : Option (Nat × Bool)} {a : Act}
    (base : Nat) (e : TypeId) (i : TypeInfo) (z : Value) (size bytes : Nat) (ht : P.underlying t = some (.slice e)) (hi : P.info? e = some i) (hz : i.zero = some z)
    (hsize : i.size = size) (hby : i.bytes = bytes) (hzs : z.cells.size = size) (hsz : 0 < size)
    (v : Value) (n : Nat) (xs : List Value) (hown : Mid w base e size v n xs)
    (A : Option Addr) (m c : Nat) (news : List Value) (hr : Rd w size A m news) (hs : a.eval s = v) (hx : a.eval x = .slice A m c) (h1 : ∀ u ∈ news, u.oneCell' = true)
    (hbytes : (n + m) * bytes ≤ 140737488355328) (h63 : n + m ≤ 140737488355328) (hbase : base ≤ w.heap.size)
    (hw : Region.wanted (Oper.mk d (.call { callee := .builtin .append, args := #[s, x], argTypes := #[t, t] }) ty pos after gd) (yielded ops a.tmps) = true)
    (h : ∀ A' c' w', Mid w' base e size (.slice A' (n + m) c') (n + m) (xs ++ news) → w.grownBy w' v.ownBlock →
      ((Value.slice A' (n + m) c').ownBlock = v.ownBlock ∨ ∀ k, (Value.slice A' (n + m) c').ownBlock = some k → w.heap.size ≤ k) → wpMix P (fun _ => True) ops kd R rest (a.put d (.slice A' (n + m) c')) w') :
    wpMix P (fun _ => True) ops kd R (Oper.mk d (.call { callee := .builtin .append, args := #[s, x], argTypes := #[t, t] }) ty pos after gd :: rest) a w := by
  simp only [wpMix]
  rw [if_pos hw, if_neg (show ¬ kd (.call { callee := .builtin .append, args := #[s, x], argTypes := #[t, t] }) = 0 from fun h => Nat.noConfusion (show (2 : Nat) = 0 from h)), if_neg (show ¬ kd (.call { callee := .builtin .append, args := #[s, x], argTypes := #[t, t] }) = 1 from fun h => Nat.noConfusion (Nat.succ.inj (show (2 : Nat) = 1 from h)))]
  obtain ⟨A', c', w', hrun, h2, h3, h4⟩ := run_app_mid (P := P) w base t ty e i z size bytes ht hi hz hsize hby hzs hsz v n xs hown A m c news hr h1 hbytes h63 hbase
  unfold Oper.wp execOp
  simp only [resolve, invoke, builtin, Sem.run_bind, Sem.run_pure, Result.andThen_ok, List.map_toArray, List.map_cons, List.map_nil, hs, hx, hrun]
  exact ⟨trivial, h A' c' w' h2 h3 h4⟩

/-- The same at a step of a region that draws its order, the operation written out. -/
theorem stepL_mid {P : Program} {w : World} {ops : Array Oper} {d : Option Tmp} {s x : Operand} {t ty : TypeId} {pos : String} {after : Array Edge} {a : Act} {K : Act → World → Prop} {Q : Exit → Act → World → Prop} {E : Prop}
    (base : Nat) (e : TypeId) (i : TypeInfo) (z : Value) (size bytes : Nat) (ht : P.underlying t = some (.slice e)) (hi : P.info? e = some i) (hz : i.zero = some z)
    (hsize : i.size = size) (hby : i.bytes = bytes) (hzs : z.cells.size = size) (hsz : 0 < size)
    (v : Value) (n : Nat) (xs : List Value) (hown : Mid w base e size v n xs)
    (A : Option Addr) (m c : Nat) (news : List Value) (hr : Rd w size A m news) (hs : a.eval s = v) (hx : a.eval x = .slice A m c) (h1 : ∀ u ∈ news, u.oneCell' = true)
    (hbytes : (n + m) * bytes ≤ 140737488355328) (h63 : n + m ≤ 140737488355328) (hbase : base ≤ w.heap.size)
    (h : ∀ A' c' w', Mid w' base e size (.slice A' (n + m) c') (n + m) (xs ++ news) → w.grownBy w' v.ownBlock →
      ((Value.slice A' (n + m) c').ownBlock = v.ownBlock ∨ ∀ k, (Value.slice A' (n + m) c').ownBlock = some k → w.heap.size ≤ k) → K (a.put d (.slice A' (n + m) c')) w') :
    if Region.wanted (Oper.mk d (.call { callee := .builtin .append, args := #[s, x], argTypes := #[t, t] }) ty pos after none) (yielded ops a.tmps) = true
      then Oper.wp P (Oper.mk d (.call { callee := .builtin .append, args := #[s, x], argTypes := #[t, t] }) ty pos after none) a w K Q else E := by
  have hw : Region.wanted (Oper.mk d (.call { callee := .builtin .append, args := #[s, x], argTypes := #[t, t] }) ty pos after none) (yielded ops a.tmps) = true := by simp [Region.wanted]
  rw [if_pos hw]
  obtain ⟨A', c', w', hrun, h2, h3, h4⟩ := run_app_mid (P := P) w base t ty e i z size bytes ht hi hz hsize hby hzs hsz v n xs hown A m c news hr h1 hbytes h63 hbase
  unfold Oper.wp execOp
  simp only [resolve, invoke, builtin, Sem.run_bind, Sem.run_pure, Result.andThen_ok, List.map_toArray, List.map_cons, List.map_nil, hs, hx, hrun]
  exact h A' c' w' h2 h3 h4
end
end Go.Proofs.YtjeocmglcgnclaaDoor
