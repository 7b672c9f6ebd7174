/- Plain words for memory that all later texts of this seat use: a slice value that reads as a list, bytes as cells, the run of a conversion to a string, and appending onto a slice of the call's own. No condition beyond each lemma's own hypotheses. -/
import Derived.Test.YtdiahjeplaegnaaRows
import Derived.WalkKit
import Derived.WalkSpells
import Derived.WalkLawsBesides
import Derived.Handy
import Derived.Laws.BytesArg
import Derived.Maps.AppendAt
import Derived.Deep.AppendLies
import Derived.Deep.RegionHeld3
import Derived.Deep.DrawnRows
import Derived.Deep.QuietTactic
import Derived.BigQuiet
namespace Go.Proofs.Ytdiahjeplaegnaa
open Go.RowKit

/-- A fact kept from the walk. -/
theorem hid {p : Prop} (h : p) : Hid p := h

/-- A byte as a cell. -/
def bv (b : UInt8) : Value := .int .u8 (b.toNat : Int)

theorem bv_inj {a b : UInt8} (h : bv a = bv b) : a = b := by
  unfold bv at h
  injection h with _ h
  exact UInt8.toNat_inj.1 (Int.ofNat.inj h)

theorem bv_one (l : List UInt8) : ∀ u ∈ l.map bv, u.oneCell' = true := by
  intro u hu
  obtain ⟨b, _, rfl⟩ := List.mem_map.1 hu
  rfl

theorem bv_mk (n : Int) (h0 : 0 ≤ n) (h1 : n < 256) : Value.int .u8 n = bv (UInt8.ofNat n.toNat) := by
  unfold bv
  congr 1
  rw [UInt8.toNat_ofNat']
  omega

/-- The slice value '.slice A n c' reads as the cells xs, 'size' cells an element. -/
def Rd (w : World) (size : Nat) (A : Option Addr) (n : Nat) (xs : List Value) : Prop :=
  xs.length = n * size ∧ (0 < n → ∃ b o, A = some ⟨b, o, none⟩ ∧ ∀ j u, xs[j]? = some u → w.cell? ⟨b, o + j, none⟩ = some u)

/-- It reads as bytes. -/
def Bs (w : World) (A : Option Addr) (n : Nat) (l : List UInt8) : Prop := Rd w 1 A n (l.map bv)

theorem cell_lt {w : World} {a : Addr} {v : Value} (h : w.cell? a = some v) : a.block < w.heap.size := by
  rcases Nat.lt_or_ge a.block w.heap.size with h1 | h1
  · exact h1
  · simp [World.cell?, Array.getElem?_eq_none h1] at h

theorem add_block (a : Addr) (n : Nat) : (a.add n).block = a.block := by unfold Addr.add; split <;> rfl

theorem add_plain (b o j : Nat) : (⟨b, o, none⟩ : Addr).add j = ⟨b, o + j, none⟩ := by
  unfold Addr.add
  split <;> simp_all

theorem add_add (a : Addr) (i j : Nat) : (a.add i).add j = a.add (i + j) := by
  unfold Addr.add
  by_cases hi : i = 0 <;> by_cases hj : j = 0 <;> simp [hi, hj, Nat.add_assoc]

section
variable {w w' : World} {A : Option Addr} {n size : Nat} {xs : List Value} {l : List UInt8}

theorem Rd.keep (h : Rd w size A n xs) (hk : ∀ p v, w.cell? p = some v → w'.cell? p = some v) : Rd w' size A n xs :=
  ⟨h.1, fun hn => by
    obtain ⟨b, o, e, hc⟩ := h.2 hn
    exact ⟨b, o, e, fun j u hu => hk _ _ (hc j u hu)⟩⟩

theorem below_keep (hb : Below w.heap.size w w') : ∀ p v, w.cell? p = some v → w'.cell? p = some v :=
  fun p v hp => by rw [hb.cell (cell_lt hp)]; exact hp

theorem Rd.below (h : Rd w size A n xs) (hb : Below w.heap.size w w') : Rd w' size A n xs := h.keep (below_keep hb)
theorem Bs.below (h : Bs w A n l) (hb : Below w.heap.size w w') : Bs w' A n l := Rd.below h hb
theorem Bs.keep (h : Bs w A n l) (hk : ∀ p v, w.cell? p = some v → w'.cell? p = some v) : Bs w' A n l := Rd.keep h hk

theorem Bs.len (h : Bs w A n l) : l.length = n := by have := h.1; simpa using this

theorem Rd.nil (w : World) (size : Nat) (A : Option Addr) : Rd w size A 0 [] := ⟨by simp, fun h => absurd h (by omega)⟩
theorem Bs.nil (w : World) (A : Option Addr) : Bs w A 0 [] := Rd.nil w 1 A

theorem Bs.zero (h : Bs w A 0 l) : l = [] := List.eq_nil_of_length_eq_zero h.len

/-- Element i of a slice of bytes. -/
theorem Bs.at_ (h : Bs w A n l) {i : Nat} (hi : i < n) : ∃ b o x, A = some ⟨b, o, none⟩ ∧ l[i]? = some x ∧ w.cell? ⟨b, o + i, none⟩ = some (bv x) := by
  obtain ⟨b, o, e, hc⟩ := h.2 (by omega)
  have hl : i < l.length := by have := h.len; omega
  refine ⟨b, o, l[i], e, List.getElem?_eq_getElem hl, hc i _ ?_⟩
  simp [List.getElem?_eq_getElem hl]

/-- 's[k:]' as the model lays it: the address stays where nothing of the capacity is left. -/
theorem Rd.drop (h : Rd w size A n xs) {k cap : Nat} (hk : k ≤ n) (hc : n ≤ cap) :
    Rd w size (if cap = k then A else A.map (·.add (k * size))) (n - k) (xs.drop (k * size)) := by
  refine ⟨by rw [List.length_drop, h.1, Nat.sub_mul], fun hn => ?_⟩
  obtain ⟨b, o, rfl, hcell⟩ := h.2 (by omega)
  rw [if_neg (by omega)]
  refine ⟨b, o + k * size, by simp [add_plain], fun j u hu => ?_⟩
  rw [Nat.add_assoc]
  exact hcell _ u (by rw [← hu, List.getElem?_drop])

theorem Rd.take (h : Rd w size A n xs) {k : Nat} (hk : k ≤ n) : Rd w size A k (xs.take (k * size)) := by
  have hm : k * size ≤ n * size := Nat.mul_le_mul_right _ hk
  refine ⟨by rw [List.length_take, h.1]; omega, fun hn => ?_⟩
  obtain ⟨b, o, e, hcell⟩ := h.2 (by omega)
  refine ⟨b, o, e, fun j u hu => hcell j u ?_⟩
  rw [List.getElem?_take] at hu
  split at hu
  · exact hu
  · cases hu

theorem Rd.of_own {base : Nat} {e : TypeId} {c : Nat} (h : w.ownsRow base e size (.slice A n c) n xs) : Rd w size A n xs := by
  refine ⟨h.1, fun hn => ?_⟩
  obtain ⟨g, cap, hv, _, hlt⟩ := h.form hn
  have hA : A = some ⟨g, 0, none⟩ := by injection hv
  subst hA
  refine ⟨g, 0, rfl, fun j u hu => ?_⟩
  have := h.cells (g := g) rfl j u hu
  rwa [add_plain] at this
theorem Bs.of_own {base : Nat} {e : TypeId} {c : Nat} (h : w.ownsRow base e 1 (.slice A n c) n (l.map bv)) : Bs w A n l := Rd.of_own h

theorem own_shape {base : Nat} {e : TypeId} {v : Value} (h : w.ownsRow base e size v n xs) : ∃ A c, v = .slice A n c ∧ n ≤ c := by
  rcases h.2 with ⟨rfl, rfl⟩ | ⟨g, cap, cur, rfl, _, _, h1, _⟩
  · exact ⟨none, 0, rfl, Nat.le_refl _⟩
  · exact ⟨_, cap, rfl, h1⟩

/-- An owned row stays owned where everything below some block, its own included, is as it was. -/
theorem own_below {base : Nat} {e : TypeId} {v : Value} (h : w.ownsRow base e size v n xs) (hb : Below w.heap.size w w') : w'.ownsRow base e size v n xs := by
  obtain ⟨h1, h2⟩ := h
  refine ⟨h1, ?_⟩
  rcases h2 with h2 | ⟨g, cap, cur, rfl, hg, hh, r⟩
  · exact .inl h2
  · refine .inr ⟨g, cap, cur, rfl, hg, ?_, r⟩
    have hlt : g < w.heap.size := by
      rcases Nat.lt_or_ge g w.heap.size with h3 | h3
      · exact h3
      · rw [Array.getElem?_eq_none h3] at hh; cases hh
    rw [hb.block g hlt]; exact hh
end

theorem own_below' {w w' : World} {base : Nat} {e : TypeId} {v : Value} {n size : Nat} {xs : List Value} (hb : Below w.heap.size w w') (h : w.ownsRow base e size v n xs) : w'.ownsRow base e size v n xs := own_below h hb

theorem Rd.loadCells {P : Program} {w : World} {ad : Addr} {n size : Nat} {xs : List Value} (h : Rd w size (some ad) n xs) : (loadCells ad (n * size)).run P w = .ok xs.toArray w := by
  have := run_loadCells_list (P := P) w ad xs (fun j v hj => by
    have hn : 0 < n := by
      have h1 := (List.getElem?_eq_some_iff.1 hj).1
      have h2 := h.1
      rcases Nat.eq_zero_or_pos n with h0 | h0
      · rw [h0] at h2; omega
      · exact h0
    obtain ⟨b, o, e, hc⟩ := h.2 hn
    injection e with e
    subst e
    rw [add_plain]
    exact hc j v hj)
  rw [h.1] at this
  exact this

theorem Rd.none_zero {w : World} {n size : Nat} {xs : List Value} (h : Rd w size none n xs) : n = 0 ∧ xs = [] := by
  have hn : n = 0 := by
    rcases Nat.eq_zero_or_pos n with h0 | h0
    · exact h0
    · obtain ⟨_, _, h1, _⟩ := h.2 h0
      cases h1
  exact ⟨hn, List.eq_nil_of_length_eq_zero (by rw [h.1, hn, Nat.zero_mul])⟩

/-- 'string(b)'. -/
theorem run_str {P : Program} {w : World} {A : Option Addr} {n c : Nat} {l : List UInt8} (h : Bs w A n l) (src dst e : TypeId)
    (hs : P.underlying src = some (.slice e)) (he : P.underlying e = some (.int .u8)) (hd : P.underlying dst = some .string) :
    (convert src dst (.slice A n c)).run P w = .ok (.string ⟨l.toArray⟩) w := by
  rcases A with _ | ad
  · obtain ⟨_, hl⟩ := Rd.none_zero h
    have hl : l = [] := by simpa using hl
    subst hl
    rw [run_convert_bytes_nil w src e hs he n c dst hd]; rfl
  · have hl : (loadCells ad n).run P w = .ok ((l.map fun b => (b.toNat : Int)).map (Value.int .u8)).toArray w := by
      have h1 := Rd.loadCells (P := P) h
      rw [Nat.mul_one] at h1
      rw [h1, List.map_map]; rfl
    rw [run_convert_bytes_string w src dst e _ n c hs he hd, run_bytesToString w _ n c _ hl, foldl_push_bytes]
    simp [ByteArray.empty, ByteArray.emptyWithCapacity, Function.comp_def]
    rfl

section
variable {P : Program} (w : World)

theorem run_append_nil_src (base : Nat) (t ty e : TypeId) (i : TypeInfo) (size : Nat) (ht : P.underlying t = some (.slice e)) (hi : P.info? e = some i)
    (v : Value) (n : Nat) (xs : List Value) (hown : w.ownsRow base e size v n xs) (c : Nat) : (Builtin.append_ #[t, t] ty #[v, .slice none 0 c]).run P w = .ok v w := by
  rcases hown.2 with ⟨rfl, rfl⟩ | ⟨g, cap, cur, rfl, _, _, hnc, _⟩
  · simp [Builtin.append_, run_underlying ht, sizeOf, typeInfo, hi, Builtin.lenOf, Builtin.firstCells]
  · simp [Builtin.append_, run_underlying ht, sizeOf, typeInfo, hi, Builtin.lenOf, Builtin.firstCells, hnc, storeCells]

/-- 'append(v, x...)', v of the call's own, x whatever it is. -/
theorem run_app (base : Nat) (t ty e : TypeId) (i : TypeInfo) (z : Value) (size bytes : Nat) (ht : P.underlying t = some (.slice e)) (hi : P.info? e = some i) (hz : i.zero = some z)
    (hsize : i.size = size) (hby : i.bytes = bytes) (hzs : z.cells.size = size) (hsz : 0 < size)
    (v : Value) (n : Nat) (xs : List Value) (hown : w.ownsRow base e size v n xs)
    (A : Option Addr) (m c : Nat) (news : List Value) (hr : Rd w size A m news) (h1 : ∀ u ∈ news, u.oneCell' = true)
    (hbytes : (n + m) * bytes ≤ 140737488355328) (h63 : n + m ≤ 140737488355328) (hbase : base ≤ w.heap.size) :
    ∃ A' c' w', (Builtin.append_ #[t, t] ty #[v, .slice A m c]).run P w = .ok (.slice A' (n + m) c') w' ∧ w'.ownsRow base e size (.slice A' (n + m) c') (n + m) (xs ++ news) ∧ w.grownBy w' v.ownBlock ∧
      ((Value.slice A' (n + m) c').ownBlock = v.ownBlock ∨ (Value.slice A' (n + m) c').ownBlock = some w.heap.size) := by
  have key : ∃ v' w', (Builtin.append_ #[t, t] ty #[v, .slice A m c]).run P w = .ok v' w' ∧ w'.ownsRow base e size v' (n + m) (xs ++ news) ∧ w.grownBy w' v.ownBlock ∧
      (v'.ownBlock = v.ownBlock ∨ v'.ownBlock = some w.heap.size) := by
    rcases A with _ | ad
    · obtain ⟨hm, hn⟩ := Rd.none_zero hr
      subst hm
      subst hn
      exact ⟨v, w, run_append_nil_src w base t ty e i size ht hi v n xs hown c, by simpa using hown, World.grownBy.refl w _, .inl rfl⟩
    · have hcells : ∀ j u, news[j]? = some u → w.cell? (ad.add j) = some u := by
        intro j u hu
        rcases Nat.eq_zero_or_pos m with h0 | h0
        · subst h0
          have hn : news = [] := List.eq_nil_of_length_eq_zero (by simpa using hr.1)
          subst hn
          simp at hu
        · obtain ⟨b, o, h, hc⟩ := hr.2 h0
          injection h with h
          subst h
          rw [add_plain]
          exact hc j u hu
      obtain ⟨v', w', hrun, h2, h3, _, h5⟩ := run_append_own_at (P := P) w base t ty e i z size bytes ht hi hz hsize hby hzs hsz v n xs hown ad m c news hr.1 hcells h1 (by simp only [maxLen]; omega) hbytes hbase
      exact ⟨v', w', hrun, h2, h3, h5⟩
  obtain ⟨v', w', h2, h3, h4, h5⟩ := key
  obtain ⟨A', c', rfl, _⟩ := own_shape h3
  exact ⟨A', c', w', h2, h3, h4, h5⟩

theorem wp_app {o : Oper} {a : Act} {K : Act → World → Prop} {Q : Exit → Act → World → Prop} (s x : Operand) (t : TypeId)
    (ho : o.op = .call { callee := .builtin .append, args := #[s, x], argTypes := #[t, t] })
    (base : Nat) (e : TypeId) (i : TypeInfo) (z : Value) (size bytes : Nat) (ht : P.underlying t = some (.slice e)) (hi : P.info? e = some i) (hz : i.zero = some z)
    (hsize : i.size = size) (hby : i.bytes = bytes) (hzs : z.cells.size = size) (hsz : 0 < size)
    (v : Value) (n : Nat) (xs : List Value) (hs : a.eval s = v) (hown : w.ownsRow base e size v n xs)
    (A : Option Addr) (m c : Nat) (news : List Value) (hx : a.eval x = .slice A m c) (hr : Rd w size A m news) (h1 : ∀ u ∈ news, u.oneCell' = true)
    (hbytes : (n + m) * bytes ≤ 140737488355328) (h63 : n + m ≤ 140737488355328) (hbase : base ≤ w.heap.size)
    (h : ∀ A' c' w', w'.ownsRow base e size (.slice A' (n + m) c') (n + m) (xs ++ news) → w.grownBy w' v.ownBlock →
      ((Value.slice A' (n + m) c').ownBlock = v.ownBlock ∨ (Value.slice A' (n + m) c').ownBlock = some w.heap.size) → K (a.put o.dst (.slice A' (n + m) c')) w') : o.wp P a w K Q := by
  obtain ⟨A', c', w', hrun, h2, h3, h4⟩ := run_app (P := P) w base t o.type e i z size bytes ht hi hz hsize hby hzs hsz v n xs hown A m c news hr h1 hbytes h63 hbase
  unfold Oper.wp execOp
  simp only [ho, resolve, invoke, builtin, Sem.run_bind, Sem.run_pure, Result.andThen_ok, List.map_toArray, List.map_cons, List.map_nil, hs, hx, hrun]
  exact h A' c' w' h2 h3 h4

theorem wpList_app {ops : Array Oper} {rest : List Oper} {o : Oper} {a : Act} {Q : Exit → Act → World → Prop} (hgd : o.guard = none) (s x : Operand) (t : TypeId)
    (ho : o.op = .call { callee := .builtin .append, args := #[s, x], argTypes := #[t, t] })
    (base : Nat) (e : TypeId) (i : TypeInfo) (z : Value) (size bytes : Nat) (ht : P.underlying t = some (.slice e)) (hi : P.info? e = some i) (hz : i.zero = some z)
    (hsize : i.size = size) (hby : i.bytes = bytes) (hzs : z.cells.size = size) (hsz : 0 < size)
    (v : Value) (n : Nat) (xs : List Value) (hs : a.eval s = v) (hown : w.ownsRow base e size v n xs)
    (A : Option Addr) (m c : Nat) (news : List Value) (hx : a.eval x = .slice A m c) (hr : Rd w size A m news) (h1 : ∀ u ∈ news, u.oneCell' = true)
    (hbytes : (n + m) * bytes ≤ 140737488355328) (h63 : n + m ≤ 140737488355328) (hbase : base ≤ w.heap.size)
    (h : ∀ A' c' w', w'.ownsRow base e size (.slice A' (n + m) c') (n + m) (xs ++ news) → w.grownBy w' v.ownBlock →
      ((Value.slice A' (n + m) c').ownBlock = v.ownBlock ∨ (Value.slice A' (n + m) c').ownBlock = some w.heap.size) → wpList P ops Q rest (a.put o.dst (.slice A' (n + m) c')) w') : wpList P ops Q (o :: rest) a w :=
  wpList_plain hgd fun _ hK => wp_app w s x t ho base e i z size bytes ht hi hz hsize hby hzs hsz v n xs hs hown A m c news hx hr h1 hbytes h63 hbase fun A' c' w' h2 h3 h4 => hK _ _ (h A' c' w' h2 h3 h4)

theorem step_app {ops : Array Oper} {o : Oper} {a : Act} {K : Act → World → Prop} {Q : Exit → Act → World → Prop} {E : Prop} (hgd : o.guard = none) (s x : Operand) (t : TypeId)
    (ho : o.op = .call { callee := .builtin .append, args := #[s, x], argTypes := #[t, t] })
    (base : Nat) (e : TypeId) (i : TypeInfo) (z : Value) (size bytes : Nat) (ht : P.underlying t = some (.slice e)) (hi : P.info? e = some i) (hz : i.zero = some z)
    (hsize : i.size = size) (hby : i.bytes = bytes) (hzs : z.cells.size = size) (hsz : 0 < size)
    (v : Value) (n : Nat) (xs : List Value) (hs : a.eval s = v) (hown : w.ownsRow base e size v n xs)
    (A : Option Addr) (m c : Nat) (news : List Value) (hx : a.eval x = .slice A m c) (hr : Rd w size A m news) (h1 : ∀ u ∈ news, u.oneCell' = true)
    (hbytes : (n + m) * bytes ≤ 140737488355328) (h63 : n + m ≤ 140737488355328) (hbase : base ≤ w.heap.size)
    (h : ∀ A' c' w', w'.ownsRow base e size (.slice A' (n + m) c') (n + m) (xs ++ news) → w.grownBy w' v.ownBlock →
      ((Value.slice A' (n + m) c').ownBlock = v.ownBlock ∨ (Value.slice A' (n + m) c').ownBlock = some w.heap.size) → K (a.put o.dst (.slice A' (n + m) c')) w') :
    if Region.wanted o (yielded ops a.tmps) = true then Oper.wp P o a w K Q else E := by
  have hw : Region.wanted o (yielded ops a.tmps) = true := by simp [Region.wanted, hgd]
  rw [if_pos hw]
  exact wp_app w s x t ho base e i z size bytes ht hi hz hsize hby hzs hsz v n xs hs hown A m c news hx hr h1 hbytes h63 hbase h
end

theorem rd_one {w : World} {H : Nat} {e : TypeId} {u : Value} (hH : w.heap.size = H) : Rd (w.alloc (.cells #[u] e)) 1 (some ⟨H, 0, none⟩) 1 [u] := by
  subst hH
  refine ⟨rfl, fun _ => ⟨_, 0, rfl, fun j v hv => ?_⟩⟩
  have := cell_one_new w u e j v hv
  rwa [add_plain] at this

/-- A block just laid reads as its cells. -/
theorem rd_new {w : World} {H n size : Nat} {e : TypeId} {cs : Array Value} (hH : w.heap.size = H) (hn : cs.size = n * size) : Rd (w.alloc (.cells cs e)) size (some ⟨H, 0, none⟩) n cs.toList := by
  subst hH
  refine ⟨by simpa using hn, fun _ => ⟨_, 0, rfl, fun j v hv => ?_⟩⟩
  have := World.news_of_block (w := w.alloc (.cells cs e)) (heap_alloc_new w _) j v hv
  rwa [add_plain] at this

theorem rd_newD {w : World} {H n size : Nat} {e : TypeId} {cs : Array Value} (hH : w.heap.size = H) (hn : cs.size = n * size) : Rd (w.alloc (.cells cs e)).drew size (some ⟨H, 0, none⟩) n cs.toList := rd_new hH hn

/-- The same at an operation written out: where the operation is another one, it does not fit at once. -/
theorem stepL_app {P : Program} {w : World} {ops : Array Oper} {d : Option Tmp} {s x : Operand} {t ty : TypeId} {pos : String} {after : Array Edge} {a : Act} {K : Act → World → Prop} {Q : Exit → Act → World → Prop} {E : Prop}
    (base : Nat) (e : TypeId) (i : TypeInfo) (z : Value) (size bytes : Nat) (ht : P.underlying t = some (.slice e)) (hi : P.info? e = some i) (hz : i.zero = some z)
    (hsize : i.size = size) (hby : i.bytes = bytes) (hzs : z.cells.size = size) (hsz : 0 < size)
    (v : Value) (n : Nat) (xs : List Value) (hown : w.ownsRow base e size v n xs)
    (A : Option Addr) (m c : Nat) (news : List Value) (hr : Rd w size A m news) (hs : a.eval s = v) (hx : a.eval x = .slice A m c) (h1 : ∀ u ∈ news, u.oneCell' = true)
    (hbytes : (n + m) * bytes ≤ 140737488355328) (h63 : n + m ≤ 140737488355328) (hbase : base ≤ w.heap.size)
    (h : ∀ A' c' w', w'.ownsRow base e size (.slice A' (n + m) c') (n + m) (xs ++ news) → w.grownBy w' v.ownBlock →
      ((Value.slice A' (n + m) c').ownBlock = v.ownBlock ∨ (Value.slice A' (n + m) c').ownBlock = some w.heap.size) → K (a.put d (.slice A' (n + m) c')) w') :
    if Region.wanted (Oper.mk d (.call { callee := .builtin .append, args := #[s, x], argTypes := #[t, t] }) ty pos after none) (yielded ops a.tmps) = true
      then Oper.wp P (Oper.mk d (.call { callee := .builtin .append, args := #[s, x], argTypes := #[t, t] }) ty pos after none) a w K Q else E :=
  step_app w rfl s x t rfl base e i z size bytes ht hi hz hsize hby hzs hsz v n xs hs hown A m c news hx hr h1 hbytes h63 hbase h

/-- A guard: the operation that comes up is an append. -/
theorem at_app {P : Program} {w : World} {ops : Array Oper} {d : Option Tmp} {args : Array Operand} {ts : Array TypeId} {ty : TypeId} {pos : String} {after : Array Edge} {g : Option (Nat × Bool)} {a : Act} {K : Act → World → Prop} {Q : Exit → Act → World → Prop} {E : Prop}
    (h : if Region.wanted (Oper.mk d (.call { callee := .builtin .append, args := args, argTypes := ts }) ty pos after g) (yielded ops a.tmps) = true
      then Oper.wp P (Oper.mk d (.call { callee := .builtin .append, args := args, argTypes := ts }) ty pos after g) a w K Q else E) :
    if Region.wanted (Oper.mk d (.call { callee := .builtin .append, args := args, argTypes := ts }) ty pos after g) (yielded ops a.tmps) = true
      then Oper.wp P (Oper.mk d (.call { callee := .builtin .append, args := args, argTypes := ts }) ty pos after g) a w K Q else E := h

/-! Below -/
theorem own_base {w : World} {B B' : Nat} {e : TypeId} {size n : Nat} {v : Value} {xs : List Value} (h : w.ownsRow B e size v n xs) (hB : B' ≤ B) : w.ownsRow B' e size v n xs := by
  obtain ⟨h1, h2⟩ := h
  refine ⟨h1, ?_⟩
  rcases h2 with h2 | ⟨g, cap, cur, rfl, hg, r⟩
  · exact .inl h2
  · exact .inr ⟨g, cap, cur, rfl, Nat.le_trans hB hg, r⟩

theorem below_drewN {B : Nat} {a w : World} (h : Below B a w) (n : Nat) : Below B a (w.drewN n) := ⟨h.os, h.tape, h.output, h.size, h.block⟩

theorem below_then {B : Nat} {w w1 w2 : World} (h : Below B w w1) (hB : B ≤ w1.heap.size) (k : Below w1.heap.size w1 w2) : Below B w w2 := h.trans (k.mono hB)

/-- Behind an append onto a row of the call's own. -/
theorem below_app {B : Nat} {a w w' : World} {v : Value} {base : Nat} {e : TypeId} {size n : Nat} {xs : List Value} (h : Below B a w) (hown : w.ownsRow base e size v n xs) (hg : w.grownBy w' v.ownBlock)
    (hB : B ≤ base) (hs : B ≤ w.heap.size) : Below B a w' := h.grown hg hs (fun k hk => Nat.le_trans hB (hown.lt k hk).1)
/-! What a drawn region's loads read, shown anew behind each step that only makes memory. -/
theorem keepS0 {w w' : World} (hb : Below w.heap.size w w') : w.heap.size ≤ w'.heap.size ∧ Below w.heap.size w w' := ⟨hb.size, hb⟩
theorem keepS1 {w w' : World} {p0 : Addr} {v0 : Value} (h0 : w.cell? p0 = some v0) (hb : Below w.heap.size w w') : w.heap.size ≤ w'.heap.size ∧ Below w.heap.size w w' ∧ w'.cell? p0 = some v0 := ⟨hb.size, hb, below_keep hb _ _ h0⟩
theorem keepS2 {w w' : World} {p0 p1 : Addr} {v0 v1 : Value} (h0 : w.cell? p0 = some v0) (h1 : w.cell? p1 = some v1) (hb : Below w.heap.size w w') : w.heap.size ≤ w'.heap.size ∧ Below w.heap.size w w' ∧ w'.cell? p0 = some v0 ∧ w'.cell? p1 = some v1 := ⟨hb.size, hb, below_keep hb _ _ h0, below_keep hb _ _ h1⟩
theorem keepS3 {w w' : World} {p0 p1 p2 : Addr} {v0 v1 v2 : Value} (h0 : w.cell? p0 = some v0) (h1 : w.cell? p1 = some v1) (h2 : w.cell? p2 = some v2) (hb : Below w.heap.size w w') : w.heap.size ≤ w'.heap.size ∧ Below w.heap.size w w' ∧ w'.cell? p0 = some v0 ∧ w'.cell? p1 = some v1 ∧ w'.cell? p2 = some v2 := ⟨hb.size, hb, below_keep hb _ _ h0, below_keep hb _ _ h1, below_keep hb _ _ h2⟩
theorem keepS4 {w w' : World} {p0 p1 p2 p3 : Addr} {v0 v1 v2 v3 : Value} (h0 : w.cell? p0 = some v0) (h1 : w.cell? p1 = some v1) (h2 : w.cell? p2 = some v2) (h3 : w.cell? p3 = some v3) (hb : Below w.heap.size w w') : w.heap.size ≤ w'.heap.size ∧ Below w.heap.size w w' ∧ w'.cell? p0 = some v0 ∧ w'.cell? p1 = some v1 ∧ w'.cell? p2 = some v2 ∧ w'.cell? p3 = some v3 := ⟨hb.size, hb, below_keep hb _ _ h0, below_keep hb _ _ h1, below_keep hb _ _ h2, below_keep hb _ _ h3⟩
theorem keepS5 {w w' : World} {p0 p1 p2 p3 p4 : Addr} {v0 v1 v2 v3 v4 : Value} (h0 : w.cell? p0 = some v0) (h1 : w.cell? p1 = some v1) (h2 : w.cell? p2 = some v2) (h3 : w.cell? p3 = some v3) (h4 : w.cell? p4 = some v4) (hb : Below w.heap.size w w') : w.heap.size ≤ w'.heap.size ∧ Below w.heap.size w w' ∧ w'.cell? p0 = some v0 ∧ w'.cell? p1 = some v1 ∧ w'.cell? p2 = some v2 ∧ w'.cell? p3 = some v3 ∧ w'.cell? p4 = some v4 := ⟨hb.size, hb, below_keep hb _ _ h0, below_keep hb _ _ h1, below_keep hb _ _ h2, below_keep hb _ _ h3, below_keep hb _ _ h4⟩
theorem keepS6 {w w' : World} {p0 p1 p2 p3 p4 p5 : Addr} {v0 v1 v2 v3 v4 v5 : Value} (h0 : w.cell? p0 = some v0) (h1 : w.cell? p1 = some v1) (h2 : w.cell? p2 = some v2) (h3 : w.cell? p3 = some v3) (h4 : w.cell? p4 = some v4) (h5 : w.cell? p5 = some v5) (hb : Below w.heap.size w w') : w.heap.size ≤ w'.heap.size ∧ Below w.heap.size w w' ∧ w'.cell? p0 = some v0 ∧ w'.cell? p1 = some v1 ∧ w'.cell? p2 = some v2 ∧ w'.cell? p3 = some v3 ∧ w'.cell? p4 = some v4 ∧ w'.cell? p5 = some v5 := ⟨hb.size, hb, below_keep hb _ _ h0, below_keep hb _ _ h1, below_keep hb _ _ h2, below_keep hb _ _ h3, below_keep hb _ _ h4, below_keep hb _ _ h5⟩
theorem keepS7 {w w' : World} {p0 p1 p2 p3 p4 p5 p6 : Addr} {v0 v1 v2 v3 v4 v5 v6 : Value} (h0 : w.cell? p0 = some v0) (h1 : w.cell? p1 = some v1) (h2 : w.cell? p2 = some v2) (h3 : w.cell? p3 = some v3) (h4 : w.cell? p4 = some v4) (h5 : w.cell? p5 = some v5) (h6 : w.cell? p6 = some v6) (hb : Below w.heap.size w w') : w.heap.size ≤ w'.heap.size ∧ Below w.heap.size w w' ∧ w'.cell? p0 = some v0 ∧ w'.cell? p1 = some v1 ∧ w'.cell? p2 = some v2 ∧ w'.cell? p3 = some v3 ∧ w'.cell? p4 = some v4 ∧ w'.cell? p5 = some v5 ∧ w'.cell? p6 = some v6 := ⟨hb.size, hb, below_keep hb _ _ h0, below_keep hb _ _ h1, below_keep hb _ _ h2, below_keep hb _ _ h3, below_keep hb _ _ h4, below_keep hb _ _ h5, below_keep hb _ _ h6⟩
theorem keepS8 {w w' : World} {p0 p1 p2 p3 p4 p5 p6 p7 : Addr} {v0 v1 v2 v3 v4 v5 v6 v7 : Value} (h0 : w.cell? p0 = some v0) (h1 : w.cell? p1 = some v1) (h2 : w.cell? p2 = some v2) (h3 : w.cell? p3 = some v3) (h4 : w.cell? p4 = some v4) (h5 : w.cell? p5 = some v5) (h6 : w.cell? p6 = some v6) (h7 : w.cell? p7 = some v7) (hb : Below w.heap.size w w') : w.heap.size ≤ w'.heap.size ∧ Below w.heap.size w w' ∧ w'.cell? p0 = some v0 ∧ w'.cell? p1 = some v1 ∧ w'.cell? p2 = some v2 ∧ w'.cell? p3 = some v3 ∧ w'.cell? p4 = some v4 ∧ w'.cell? p5 = some v5 ∧ w'.cell? p6 = some v6 ∧ w'.cell? p7 = some v7 := ⟨hb.size, hb, below_keep hb _ _ h0, below_keep hb _ _ h1, below_keep hb _ _ h2, below_keep hb _ _ h3, below_keep hb _ _ h4, below_keep hb _ _ h5, below_keep hb _ _ h6, below_keep hb _ _ h7⟩
end Go.Proofs.Ytdiahjeplaegnaa
