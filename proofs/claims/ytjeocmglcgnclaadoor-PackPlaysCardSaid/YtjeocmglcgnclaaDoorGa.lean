/- Joined texts: Base Mix Turn BytesFn MixZ Bits Big Scopes ScopesW Mid Field. Each names its own conditions. -/
import Derived.Test.YtjeocmglcgnclaaDoorRows
import Derived.WalkKit
import Derived.WalkSpells
import Derived.WalkLawsBesides
import Derived.Handy
import Derived.Laws.BytesArg
import Derived.Maps.AppendAt
import Derived.Deep.AppendLies
import Derived.Deep.RegionHeld3
import Derived.Deep.DrawnRows
import Derived.Deep.QuietTactic
import Derived.BigQuiet
import Derived.Orders
import Derived.Laws.BitsAllLaws
import Derived.Laws.BitsLemmas
import Derived.Deep.OwnRows
import Derived.ScopeJumps

/- Plain words for memory that all later texts of this seat use: a slice value that reads as a list, bytes as cells, the run of a conversion to a string, and appending onto a slice of the call's own. No condition beyond each lemma's own hypotheses. -/
namespace Go.Proofs.YtjeocmglcgnclaaDoor
open Go.RowKit

/-- A fact kept from the walk. -/
theorem hid {p : Prop} (h : p) : Hid p := h

/-- A byte as a cell. -/
def bv (b : UInt8) : Value := .int .u8 (b.toNat : Int)

theorem bv_inj {a b : UInt8} (h : bv a = bv b) : a = b := by
  unfold bv at h
  injection h with _ h
  exact UInt8.toNat_inj.1 (Int.ofNat.inj h)

theorem bv_one (l : List UInt8) : ∀ u ∈ l.map bv, u.oneCell' = true := by
  intro u hu
  obtain ⟨b, _, rfl⟩ := List.mem_map.1 hu
  rfl

theorem bv_mk (n : Int) (h0 : 0 ≤ n) (h1 : n < 256) : Value.int .u8 n = bv (UInt8.ofNat n.toNat) := by
  unfold bv
  congr 1
  rw [UInt8.toNat_ofNat']
  omega

/-- The slice value '.slice A n c' reads as the cells xs, 'size' cells an element. -/
def Rd (w : World) (size : Nat) (A : Option Addr) (n : Nat) (xs : List Value) : Prop :=
  xs.length = n * size ∧ (0 < n → ∃ b o, A = some ⟨b, o, none⟩ ∧ ∀ j u, xs[j]? = some u → w.cell? ⟨b, o + j, none⟩ = some u)

/-- It reads as bytes. -/
def Bs (w : World) (A : Option Addr) (n : Nat) (l : List UInt8) : Prop := Rd w 1 A n (l.map bv)

theorem cell_lt {w : World} {a : Addr} {v : Value} (h : w.cell? a = some v) : a.block < w.heap.size := by
  rcases Nat.lt_or_ge a.block w.heap.size with h1 | h1
  · exact h1
  · simp [World.cell?, Array.getElem?_eq_none h1] at h

theorem add_block (a : Addr) (n : Nat) : (a.add n).block = a.block := by unfold Addr.add; split <;> rfl

theorem add_plain (b o j : Nat) : (⟨b, o, none⟩ : Addr).add j = ⟨b, o + j, none⟩ := by
  unfold Addr.add
  split <;> simp_all

theorem add_add (a : Addr) (i j : Nat) : (a.add i).add j = a.add (i + j) := by
  unfold Addr.add
  by_cases hi : i = 0 <;> by_cases hj : j = 0 <;> simp [hi, hj, Nat.add_assoc]

section
variable {w w' : World} {A : Option Addr} {n size : Nat} {xs : List Value} {l : List UInt8}

theorem Rd.keep (h : Rd w size A n xs) (hk : ∀ p v, w.cell? p = some v → w'.cell? p = some v) : Rd w' size A n xs :=
  ⟨h.1, fun hn => by
    obtain ⟨b, o, e, hc⟩ := h.2 hn
    exact ⟨b, o, e, fun j u hu => hk _ _ (hc j u hu)⟩⟩

theorem below_keep (hb : Below w.heap.size w w') : ∀ p v, w.cell? p = some v → w'.cell? p = some v :=
  fun p v hp => by rw [hb.cell (cell_lt hp)]; exact hp

theorem Rd.below (h : Rd w size A n xs) (hb : Below w.heap.size w w') : Rd w' size A n xs := h.keep (below_keep hb)
theorem Bs.below (h : Bs w A n l) (hb : Below w.heap.size w w') : Bs w' A n l := Rd.below h hb
theorem Bs.keep (h : Bs w A n l) (hk : ∀ p v, w.cell? p = some v → w'.cell? p = some v) : Bs w' A n l := Rd.keep h hk

theorem Bs.len (h : Bs w A n l) : l.length = n := by have := h.1; simpa using this

theorem Rd.nil (w : World) (size : Nat) (A : Option Addr) : Rd w size A 0 [] := ⟨by simp, fun h => absurd h (by omega)⟩
theorem Bs.nil (w : World) (A : Option Addr) : Bs w A 0 [] := Rd.nil w 1 A

theorem Bs.zero (h : Bs w A 0 l) : l = [] := List.eq_nil_of_length_eq_zero h.len

/-- Element i of a slice of bytes. -/
theorem Bs.at_ (h : Bs w A n l) {i : Nat} (hi : i < n) : ∃ b o x, A = some ⟨b, o, none⟩ ∧ l[i]? = some x ∧ w.cell? ⟨b, o + i, none⟩ = some (bv x) := by
  obtain ⟨b, o, e, hc⟩ := h.2 (by omega)
  have hl : i < l.length := by have := h.len; omega
  refine ⟨b, o, l[i], e, List.getElem?_eq_getElem hl, hc i _ ?_⟩
  simp [List.getElem?_eq_getElem hl]

/-- 's[k:]' as the model lays it: the address stays where nothing of the capacity is left. -/
theorem Rd.drop (h : Rd w size A n xs) {k cap : Nat} (hk : k ≤ n) (hc : n ≤ cap) :
    Rd w size (if cap = k then A else A.map (·.add (k * size))) (n - k) (xs.drop (k * size)) := by
  refine ⟨by rw [List.length_drop, h.1, Nat.sub_mul], fun hn => ?_⟩
  obtain ⟨b, o, rfl, hcell⟩ := h.2 (by omega)
  rw [if_neg (by omega)]
  refine ⟨b, o + k * size, by simp [add_plain], fun j u hu => ?_⟩
  rw [Nat.add_assoc]
  exact hcell _ u (by rw [← hu, List.getElem?_drop])

theorem Rd.take (h : Rd w size A n xs) {k : Nat} (hk : k ≤ n) : Rd w size A k (xs.take (k * size)) := by
  have hm : k * size ≤ n * size := Nat.mul_le_mul_right _ hk
  refine ⟨by rw [List.length_take, h.1]; omega, fun hn => ?_⟩
  obtain ⟨b, o, e, hcell⟩ := h.2 (by omega)
  refine ⟨b, o, e, fun j u hu => hcell j u ?_⟩
  rw [List.getElem?_take] at hu
  split at hu
  · exact hu
  · cases hu

theorem Rd.of_own {base : Nat} {e : TypeId} {c : Nat} (h : w.ownsRow base e size (.slice A n c) n xs) : Rd w size A n xs := by
  refine ⟨h.1, fun hn => ?_⟩
  obtain ⟨g, cap, hv, _, hlt⟩ := h.form hn
  have hA : A = some ⟨g, 0, none⟩ := by injection hv
  subst hA
  refine ⟨g, 0, rfl, fun j u hu => ?_⟩
  have := h.cells (g := g) rfl j u hu
  rwa [add_plain] at this
theorem Bs.of_own {base : Nat} {e : TypeId} {c : Nat} (h : w.ownsRow base e 1 (.slice A n c) n (l.map bv)) : Bs w A n l := Rd.of_own h

theorem own_shape {base : Nat} {e : TypeId} {v : Value} (h : w.ownsRow base e size v n xs) : ∃ A c, v = .slice A n c ∧ n ≤ c := by
  rcases h.2 with ⟨rfl, rfl⟩ | ⟨g, cap, cur, rfl, _, _, h1, _⟩
  · exact ⟨none, 0, rfl, Nat.le_refl _⟩
  · exact ⟨_, cap, rfl, h1⟩

/-- An owned row stays owned where everything below some block, its own included, is as it was. -/
theorem own_below {base : Nat} {e : TypeId} {v : Value} (h : w.ownsRow base e size v n xs) (hb : Below w.heap.size w w') : w'.ownsRow base e size v n xs := by
  obtain ⟨h1, h2⟩ := h
  refine ⟨h1, ?_⟩
  rcases h2 with h2 | ⟨g, cap, cur, rfl, hg, hh, r⟩
  · exact .inl h2
  · refine .inr ⟨g, cap, cur, rfl, hg, ?_, r⟩
    have hlt : g < w.heap.size := by
      rcases Nat.lt_or_ge g w.heap.size with h3 | h3
      · exact h3
      · rw [Array.getElem?_eq_none h3] at hh; cases hh
    rw [hb.block g hlt]; exact hh
end

theorem own_below' {w w' : World} {base : Nat} {e : TypeId} {v : Value} {n size : Nat} {xs : List Value} (hb : Below w.heap.size w w') (h : w.ownsRow base e size v n xs) : w'.ownsRow base e size v n xs := own_below h hb

theorem Rd.loadCells {P : Program} {w : World} {ad : Addr} {n size : Nat} {xs : List Value} (h : Rd w size (some ad) n xs) : (loadCells ad (n * size)).run P w = .ok xs.toArray w := by
  have := run_loadCells_list (P := P) w ad xs (fun j v hj => by
    have hn : 0 < n := by
      have h1 := (List.getElem?_eq_some_iff.1 hj).1
      have h2 := h.1
      rcases Nat.eq_zero_or_pos n with h0 | h0
      · rw [h0] at h2; omega
      · exact h0
    obtain ⟨b, o, e, hc⟩ := h.2 hn
    injection e with e
    subst e
    rw [add_plain]
    exact hc j v hj)
  rw [h.1] at this
  exact this

theorem Rd.none_zero {w : World} {n size : Nat} {xs : List Value} (h : Rd w size none n xs) : n = 0 ∧ xs = [] := by
  have hn : n = 0 := by
    rcases Nat.eq_zero_or_pos n with h0 | h0
    · exact h0
    · obtain ⟨_, _, h1, _⟩ := h.2 h0
      cases h1
  exact ⟨hn, List.eq_nil_of_length_eq_zero (by rw [h.1, hn, Nat.zero_mul])⟩

/-- 'string(b)'. -/
theorem run_str {P : Program} {w : World} {A : Option Addr} {n c : Nat} {l : List UInt8} (h : Bs w A n l) (src dst e : TypeId)
    (hs : P.underlying src = some (.slice e)) (he : P.underlying e = some (.int .u8)) (hd : P.underlying dst = some .string) :
    (convert src dst (.slice A n c)).run P w = .ok (.string ⟨l.toArray⟩) w := by
  rcases A with _ | ad
  · obtain ⟨_, hl⟩ := Rd.none_zero h
    have hl : l = [] := by simpa using hl
    subst hl
    rw [run_convert_bytes_nil w src e hs he n c dst hd]; rfl
  · have hl : (loadCells ad n).run P w = .ok ((l.map fun b => (b.toNat : Int)).map (Value.int .u8)).toArray w := by
      have h1 := Rd.loadCells (P := P) h
      rw [Nat.mul_one] at h1
      rw [h1, List.map_map]; rfl
    rw [run_convert_bytes_string w src dst e _ n c hs he hd, run_bytesToString w _ n c _ hl, foldl_push_bytes]
    simp [ByteArray.empty, ByteArray.emptyWithCapacity, Function.comp_def]
    rfl

section
variable {P : Program} (w : World)

theorem run_append_nil_src (base : Nat) (t ty e : TypeId) (i : TypeInfo) (size : Nat) (ht : P.underlying t = some (.slice e)) (hi : P.info? e = some i)
    (v : Value) (n : Nat) (xs : List Value) (hown : w.ownsRow base e size v n xs) (c : Nat) : (Builtin.append_ #[t, t] ty #[v, .slice none 0 c]).run P w = .ok v w := by
  rcases hown.2 with ⟨rfl, rfl⟩ | ⟨g, cap, cur, rfl, _, _, hnc, _⟩
  · simp [Builtin.append_, run_underlying ht, sizeOf, typeInfo, hi, Builtin.lenOf, Builtin.firstCells]
  · simp [Builtin.append_, run_underlying ht, sizeOf, typeInfo, hi, Builtin.lenOf, Builtin.firstCells, hnc, storeCells]

/-- 'append(v, x...)', v of the call's own, x whatever it is. -/
theorem run_app (base : Nat) (t ty e : TypeId) (i : TypeInfo) (z : Value) (size bytes : Nat) (ht : P.underlying t = some (.slice e)) (hi : P.info? e = some i) (hz : i.zero = some z)
    (hsize : i.size = size) (hby : i.bytes = bytes) (hzs : z.cells.size = size) (hsz : 0 < size)
    (v : Value) (n : Nat) (xs : List Value) (hown : w.ownsRow base e size v n xs)
    (A : Option Addr) (m c : Nat) (news : List Value) (hr : Rd w size A m news) (h1 : ∀ u ∈ news, u.oneCell' = true)
    (hbytes : (n + m) * bytes ≤ 140737488355328) (h63 : n + m ≤ 140737488355328) (hbase : base ≤ w.heap.size) :
    ∃ A' c' w', (Builtin.append_ #[t, t] ty #[v, .slice A m c]).run P w = .ok (.slice A' (n + m) c') w' ∧ w'.ownsRow base e size (.slice A' (n + m) c') (n + m) (xs ++ news) ∧ w.grownBy w' v.ownBlock ∧
      ((Value.slice A' (n + m) c').ownBlock = v.ownBlock ∨ (Value.slice A' (n + m) c').ownBlock = some w.heap.size) := by
  have key : ∃ v' w', (Builtin.append_ #[t, t] ty #[v, .slice A m c]).run P w = .ok v' w' ∧ w'.ownsRow base e size v' (n + m) (xs ++ news) ∧ w.grownBy w' v.ownBlock ∧
      (v'.ownBlock = v.ownBlock ∨ v'.ownBlock = some w.heap.size) := by
    rcases A with _ | ad
    · obtain ⟨hm, hn⟩ := Rd.none_zero hr
      subst hm
      subst hn
      exact ⟨v, w, run_append_nil_src w base t ty e i size ht hi v n xs hown c, by simpa using hown, World.grownBy.refl w _, .inl rfl⟩
    · have hcells : ∀ j u, news[j]? = some u → w.cell? (ad.add j) = some u := by
        intro j u hu
        rcases Nat.eq_zero_or_pos m with h0 | h0
        · subst h0
          have hn : news = [] := List.eq_nil_of_length_eq_zero (by simpa using hr.1)
          subst hn
          simp at hu
        · obtain ⟨b, o, h, hc⟩ := hr.2 h0
          injection h with h
          subst h
          rw [add_plain]
          exact hc j u hu
      obtain ⟨v', w', hrun, h2, h3, _, h5⟩ := run_append_own_at (P := P) w base t ty e i z size bytes ht hi hz hsize hby hzs hsz v n xs hown ad m c news hr.1 hcells h1 (by simp only [maxLen]; omega) hbytes hbase
      exact ⟨v', w', hrun, h2, h3, h5⟩
  obtain ⟨v', w', h2, h3, h4, h5⟩ := key
  obtain ⟨A', c', rfl, _⟩ := own_shape h3
  exact ⟨A', c', w', h2, h3, h4, h5⟩

theorem wp_app {o : Oper} {a : Act} {K : Act → World → Prop} {Q : Exit → Act → World → Prop} (s x : Operand) (t : TypeId)
    (ho : o.op = .call { callee := .builtin .append, args := #[s, x], argTypes := #[t, t] })
    (base : Nat) (e : TypeId) (i : TypeInfo) (z : Value) (size bytes : Nat) (ht : P.underlying t = some (.slice e)) (hi : P.info? e = some i) (hz : i.zero = some z)
    (hsize : i.size = size) (hby : i.bytes = bytes) (hzs : z.cells.size = size) (hsz : 0 < size)
    (v : Value) (n : Nat) (xs : List Value) (hs : a.eval s = v) (hown : w.ownsRow base e size v n xs)
    (A : Option Addr) (m c : Nat) (news : List Value) (hx : a.eval x = .slice A m c) (hr : Rd w size A m news) (h1 : ∀ u ∈ news, u.oneCell' = true)
    (hbytes : (n + m) * bytes ≤ 140737488355328) (h63 : n + m ≤ 140737488355328) (hbase : base ≤ w.heap.size)
    (h : ∀ A' c' w', w'.ownsRow base e size (.slice A' (n + m) c') (n + m) (xs ++ news) → w.grownBy w' v.ownBlock →
      ((Value.slice A' (n + m) c').ownBlock = v.ownBlock ∨ (Value.slice A' (n + m) c').ownBlock = some w.heap.size) → K (a.put o.dst (.slice A' (n + m) c')) w') : o.wp P a w K Q := by
  obtain ⟨A', c', w', hrun, h2, h3, h4⟩ := run_app (P := P) w base t o.type e i z size bytes ht hi hz hsize hby hzs hsz v n xs hown A m c news hr h1 hbytes h63 hbase
  unfold Oper.wp execOp
  simp only [ho, resolve, invoke, builtin, Sem.run_bind, Sem.run_pure, Result.andThen_ok, List.map_toArray, List.map_cons, List.map_nil, hs, hx, hrun]
  exact h A' c' w' h2 h3 h4

theorem wpList_app {ops : Array Oper} {rest : List Oper} {o : Oper} {a : Act} {Q : Exit → Act → World → Prop} (hgd : o.guard = none) (s x : Operand) (t : TypeId)
    (ho : o.op = .call { callee := .builtin .append, args := #[s, x], argTypes := #[t, t] })
    (base : Nat) (e : TypeId) (i : TypeInfo) (z : Value) (size bytes : Nat) (ht : P.underlying t = some (.slice e)) (hi : P.info? e = some i) (hz : i.zero = some z)
    (hsize : i.size = size) (hby : i.bytes = bytes) (hzs : z.cells.size = size) (hsz : 0 < size)
    (v : Value) (n : Nat) (xs : List Value) (hs : a.eval s = v) (hown : w.ownsRow base e size v n xs)
    (A : Option Addr) (m c : Nat) (news : List Value) (hx : a.eval x = .slice A m c) (hr : Rd w size A m news) (h1 : ∀ u ∈ news, u.oneCell' = true)
    (hbytes : (n + m) * bytes ≤ 140737488355328) (h63 : n + m ≤ 140737488355328) (hbase : base ≤ w.heap.size)
    (h : ∀ A' c' w', w'.ownsRow base e size (.slice A' (n + m) c') (n + m) (xs ++ news) → w.grownBy w' v.ownBlock →
      ((Value.slice A' (n + m) c').ownBlock = v.ownBlock ∨ (Value.slice A' (n + m) c').ownBlock = some w.heap.size) → wpList P ops Q rest (a.put o.dst (.slice A' (n + m) c')) w') : wpList P ops Q (o :: rest) a w :=
  wpList_plain hgd fun _ hK => wp_app w s x t ho base e i z size bytes ht hi hz hsize hby hzs hsz v n xs hs hown A m c news hx hr h1 hbytes h63 hbase fun A' c' w' h2 h3 h4 => hK _ _ (h A' c' w' h2 h3 h4)

theorem step_app {ops : Array Oper} {o : Oper} {a : Act} {K : Act → World → Prop} {Q : Exit → Act → World → Prop} {E : Prop} (hgd : o.guard = none) (s x : Operand) (t : TypeId)
    (ho : o.op = .call { callee := .builtin .append, args := #[s, x], argTypes := #[t, t] })
    (base : Nat) (e : TypeId) (i : TypeInfo) (z : Value) (size bytes : Nat) (ht : P.underlying t = some (.slice e)) (hi : P.info? e = some i) (hz : i.zero = some z)
    (hsize : i.size = size) (hby : i.bytes = bytes) (hzs : z.cells.size = size) (hsz : 0 < size)
    (v : Value) (n : Nat) (xs : List Value) (hs : a.eval s = v) (hown : w.ownsRow base e size v n xs)
    (A : Option Addr) (m c : Nat) (news : List Value) (hx : a.eval x = .slice A m c) (hr : Rd w size A m news) (h1 : ∀ u ∈ news, u.oneCell' = true)
    (hbytes : (n + m) * bytes ≤ 140737488355328) (h63 : n + m ≤ 140737488355328) (hbase : base ≤ w.heap.size)
    (h : ∀ A' c' w', w'.ownsRow base e size (.slice A' (n + m) c') (n + m) (xs ++ news) → w.grownBy w' v.ownBlock →
      ((Value.slice A' (n + m) c').ownBlock = v.ownBlock ∨ (Value.slice A' (n + m) c').ownBlock = some w.heap.size) → K (a.put o.dst (.slice A' (n + m) c')) w') :
    if Region.wanted o (yielded ops a.tmps) = true then Oper.wp P o a w K Q else E := by
  have hw : Region.wanted o (yielded ops a.tmps) = true := by simp [Region.wanted, hgd]
  rw [if_pos hw]
  exact wp_app w s x t ho base e i z size bytes ht hi hz hsize hby hzs hsz v n xs hs hown A m c news hx hr h1 hbytes h63 hbase h
end

theorem rd_one {w : World} {H : Nat} {e : TypeId} {u : Value} (hH : w.heap.size = H) : Rd (w.alloc (.cells #[u] e)) 1 (some ⟨H, 0, none⟩) 1 [u] := by
  subst hH
  refine ⟨rfl, fun _ => ⟨_, 0, rfl, fun j v hv => ?_⟩⟩
  have := cell_one_new w u e j v hv
  rwa [add_plain] at this

/-- A block just laid reads as its cells. -/
theorem rd_new {w : World} {H n size : Nat} {e : TypeId} {cs : Array Value} (hH : w.heap.size = H) (hn : cs.size = n * size) : Rd (w.alloc (.cells cs e)) size (some ⟨H, 0, none⟩) n cs.toList := by
  subst hH
  refine ⟨by simpa using hn, fun _ => ⟨_, 0, rfl, fun j v hv => ?_⟩⟩
  have := World.news_of_block (w := w.alloc (.cells cs e)) (heap_alloc_new w _) j v hv
  rwa [add_plain] at this

theorem rd_newD {w : World} {H n size : Nat} {e : TypeId} {cs : Array Value} (hH : w.heap.size = H) (hn : cs.size = n * size) : Rd (w.alloc (.cells cs e)).drew size (some ⟨H, 0, none⟩) n cs.toList := rd_new hH hn

/-- The same at an operation written out: where the operation is another one, it does not fit at once. -/
theorem stepL_app {P : Program} {w : World} {ops : Array Oper} {d : Option Tmp} {s x : Operand} {t ty : TypeId} {pos : String} {after : Array Edge} {a : Act} {K : Act → World → Prop} {Q : Exit → Act → World → Prop} {E : Prop}
    (base : Nat) (e : TypeId) (i : TypeInfo) (z : Value) (size bytes : Nat) (ht : P.underlying t = some (.slice e)) (hi : P.info? e = some i) (hz : i.zero = some z)
    (hsize : i.size = size) (hby : i.bytes = bytes) (hzs : z.cells.size = size) (hsz : 0 < size)
    (v : Value) (n : Nat) (xs : List Value) (hown : w.ownsRow base e size v n xs)
    (A : Option Addr) (m c : Nat) (news : List Value) (hr : Rd w size A m news) (hs : a.eval s = v) (hx : a.eval x = .slice A m c) (h1 : ∀ u ∈ news, u.oneCell' = true)
    (hbytes : (n + m) * bytes ≤ 140737488355328) (h63 : n + m ≤ 140737488355328) (hbase : base ≤ w.heap.size)
    (h : ∀ A' c' w', w'.ownsRow base e size (.slice A' (n + m) c') (n + m) (xs ++ news) → w.grownBy w' v.ownBlock →
      ((Value.slice A' (n + m) c').ownBlock = v.ownBlock ∨ (Value.slice A' (n + m) c').ownBlock = some w.heap.size) → K (a.put d (.slice A' (n + m) c')) w') :
    if Region.wanted (Oper.mk d (.call { callee := .builtin .append, args := #[s, x], argTypes := #[t, t] }) ty pos after none) (yielded ops a.tmps) = true
      then Oper.wp P (Oper.mk d (.call { callee := .builtin .append, args := #[s, x], argTypes := #[t, t] }) ty pos after none) a w K Q else E :=
  step_app w rfl s x t rfl base e i z size bytes ht hi hz hsize hby hzs hsz v n xs hs hown A m c news hx hr h1 hbytes h63 hbase h

/-- A guard: the operation that comes up is an append. -/
theorem at_app {P : Program} {w : World} {ops : Array Oper} {d : Option Tmp} {args : Array Operand} {ts : Array TypeId} {ty : TypeId} {pos : String} {after : Array Edge} {g : Option (Nat × Bool)} {a : Act} {K : Act → World → Prop} {Q : Exit → Act → World → Prop} {E : Prop}
    (h : if Region.wanted (Oper.mk d (.call { callee := .builtin .append, args := args, argTypes := ts }) ty pos after g) (yielded ops a.tmps) = true
      then Oper.wp P (Oper.mk d (.call { callee := .builtin .append, args := args, argTypes := ts }) ty pos after g) a w K Q else E) :
    if Region.wanted (Oper.mk d (.call { callee := .builtin .append, args := args, argTypes := ts }) ty pos after g) (yielded ops a.tmps) = true
      then Oper.wp P (Oper.mk d (.call { callee := .builtin .append, args := args, argTypes := ts }) ty pos after g) a w K Q else E := h

/-! Below -/
theorem own_base {w : World} {B B' : Nat} {e : TypeId} {size n : Nat} {v : Value} {xs : List Value} (h : w.ownsRow B e size v n xs) (hB : B' ≤ B) : w.ownsRow B' e size v n xs := by
  obtain ⟨h1, h2⟩ := h
  refine ⟨h1, ?_⟩
  rcases h2 with h2 | ⟨g, cap, cur, rfl, hg, r⟩
  · exact .inl h2
  · exact .inr ⟨g, cap, cur, rfl, Nat.le_trans hB hg, r⟩

theorem below_drewN {B : Nat} {a w : World} (h : Below B a w) (n : Nat) : Below B a (w.drewN n) := ⟨h.os, h.tape, h.output, h.size, h.block⟩

theorem below_then {B : Nat} {w w1 w2 : World} (h : Below B w w1) (hB : B ≤ w1.heap.size) (k : Below w1.heap.size w1 w2) : Below B w w2 := h.trans (k.mono hB)

/-- Behind an append onto a row of the call's own. -/
theorem below_app {B : Nat} {a w w' : World} {v : Value} {base : Nat} {e : TypeId} {size n : Nat} {xs : List Value} (h : Below B a w) (hown : w.ownsRow base e size v n xs) (hg : w.grownBy w' v.ownBlock)
    (hB : B ≤ base) (hs : B ≤ w.heap.size) : Below B a w' := h.grown hg hs (fun k hk => Nat.le_trans hB (hown.lt k hk).1)
/-! What a drawn region's loads read, shown anew behind each step that only makes memory. -/
theorem keepS0 {w w' : World} (hb : Below w.heap.size w w') : w.heap.size ≤ w'.heap.size ∧ Below w.heap.size w w' := ⟨hb.size, hb⟩
theorem keepS1 {w w' : World} {p0 : Addr} {v0 : Value} (h0 : w.cell? p0 = some v0) (hb : Below w.heap.size w w') : w.heap.size ≤ w'.heap.size ∧ Below w.heap.size w w' ∧ w'.cell? p0 = some v0 := ⟨hb.size, hb, below_keep hb _ _ h0⟩
theorem keepS2 {w w' : World} {p0 p1 : Addr} {v0 v1 : Value} (h0 : w.cell? p0 = some v0) (h1 : w.cell? p1 = some v1) (hb : Below w.heap.size w w') : w.heap.size ≤ w'.heap.size ∧ Below w.heap.size w w' ∧ w'.cell? p0 = some v0 ∧ w'.cell? p1 = some v1 := ⟨hb.size, hb, below_keep hb _ _ h0, below_keep hb _ _ h1⟩
theorem keepS3 {w w' : World} {p0 p1 p2 : Addr} {v0 v1 v2 : Value} (h0 : w.cell? p0 = some v0) (h1 : w.cell? p1 = some v1) (h2 : w.cell? p2 = some v2) (hb : Below w.heap.size w w') : w.heap.size ≤ w'.heap.size ∧ Below w.heap.size w w' ∧ w'.cell? p0 = some v0 ∧ w'.cell? p1 = some v1 ∧ w'.cell? p2 = some v2 := ⟨hb.size, hb, below_keep hb _ _ h0, below_keep hb _ _ h1, below_keep hb _ _ h2⟩
theorem keepS4 {w w' : World} {p0 p1 p2 p3 : Addr} {v0 v1 v2 v3 : Value} (h0 : w.cell? p0 = some v0) (h1 : w.cell? p1 = some v1) (h2 : w.cell? p2 = some v2) (h3 : w.cell? p3 = some v3) (hb : Below w.heap.size w w') : w.heap.size ≤ w'.heap.size ∧ Below w.heap.size w w' ∧ w'.cell? p0 = some v0 ∧ w'.cell? p1 = some v1 ∧ w'.cell? p2 = some v2 ∧ w'.cell? p3 = some v3 := ⟨hb.size, hb, below_keep hb _ _ h0, below_keep hb _ _ h1, below_keep hb _ _ h2, below_keep hb _ _ h3⟩
theorem keepS5 {w w' : World} {p0 p1 p2 p3 p4 : Addr} {v0 v1 v2 v3 v4 : Value} (h0 : w.cell? p0 = some v0) (h1 : w.cell? p1 = some v1) (h2 : w.cell? p2 = some v2) (h3 : w.cell? p3 = some v3) (h4 : w.cell? p4 = some v4) (hb : Below w.heap.size w w') : w.heap.size ≤ w'.heap.size ∧ Below w.heap.size w w' ∧ w'.cell? p0 = some v0 ∧ w'.cell? p1 = some v1 ∧ w'.cell? p2 = some v2 ∧ w'.cell? p3 = some v3 ∧ w'.cell? p4 = some v4 := ⟨hb.size, hb, below_keep hb _ _ h0, below_keep hb _ _ h1, below_keep hb _ _ h2, below_keep hb _ _ h3, below_keep hb _ _ h4⟩
theorem keepS6 {w w' : World} {p0 p1 p2 p3 p4 p5 : Addr} {v0 v1 v2 v3 v4 v5 : Value} (h0 : w.cell? p0 = some v0) (h1 : w.cell? p1 = some v1) (h2 : w.cell? p2 = some v2) (h3 : w.cell? p3 = some v3) (h4 : w.cell? p4 = some v4) (h5 : w.cell? p5 = some v5) (hb : Below w.heap.size w w') : w.heap.size ≤ w'.heap.size ∧ Below w.heap.size w w' ∧ w'.cell? p0 = some v0 ∧ w'.cell? p1 = some v1 ∧ w'.cell? p2 = some v2 ∧ w'.cell? p3 = some v3 ∧ w'.cell? p4 = some v4 ∧ w'.cell? p5 = some v5 := ⟨hb.size, hb, below_keep hb _ _ h0, below_keep hb _ _ h1, below_keep hb _ _ h2, below_keep hb _ _ h3, below_keep hb _ _ h4, below_keep hb _ _ h5⟩
theorem keepS7 {w w' : World} {p0 p1 p2 p3 p4 p5 p6 : Addr} {v0 v1 v2 v3 v4 v5 v6 : Value} (h0 : w.cell? p0 = some v0) (h1 : w.cell? p1 = some v1) (h2 : w.cell? p2 = some v2) (h3 : w.cell? p3 = some v3) (h4 : w.cell? p4 = some v4) (h5 : w.cell? p5 = some v5) (h6 : w.cell? p6 = some v6) (hb : Below w.heap.size w w') : w.heap.size ≤ w'.heap.size ∧ Below w.heap.size w w' ∧ w'.cell? p0 = some v0 ∧ w'.cell? p1 = some v1 ∧ w'.cell? p2 = some v2 ∧ w'.cell? p3 = some v3 ∧ w'.cell? p4 = some v4 ∧ w'.cell? p5 = some v5 ∧ w'.cell? p6 = some v6 := ⟨hb.size, hb, below_keep hb _ _ h0, below_keep hb _ _ h1, below_keep hb _ _ h2, below_keep hb _ _ h3, below_keep hb _ _ h4, below_keep hb _ _ h5, below_keep hb _ _ h6⟩
theorem keepS8 {w w' : World} {p0 p1 p2 p3 p4 p5 p6 p7 : Addr} {v0 v1 v2 v3 v4 v5 v6 v7 : Value} (h0 : w.cell? p0 = some v0) (h1 : w.cell? p1 = some v1) (h2 : w.cell? p2 = some v2) (h3 : w.cell? p3 = some v3) (h4 : w.cell? p4 = some v4) (h5 : w.cell? p5 = some v5) (h6 : w.cell? p6 = some v6) (h7 : w.cell? p7 = some v7) (hb : Below w.heap.size w w') : w.heap.size ≤ w'.heap.size ∧ Below w.heap.size w w' ∧ w'.cell? p0 = some v0 ∧ w'.cell? p1 = some v1 ∧ w'.cell? p2 = some v2 ∧ w'.cell? p3 = some v3 ∧ w'.cell? p4 = some v4 ∧ w'.cell? p5 = some v5 ∧ w'.cell? p6 = some v6 ∧ w'.cell? p7 = some v7 := ⟨hb.size, hb, below_keep hb _ _ h0, below_keep hb _ _ h1, below_keep hb _ _ h2, below_keep hb _ _ h3, below_keep hb _ _ h4, below_keep hb _ _ h5, below_keep hb _ _ h6, below_keep hb _ _ h7⟩
end Go.Proofs.YtjeocmglcgnclaaDoor

/- A region that draws its order, walked once in the text's order: if every two of its operations that Go leaves unordered are apart and at most one of them looks at the world or turns it, the lexical walk serves every order. Operations that are marked quiet must yield one value in every world of a class that the others keep. -/
namespace Go.Proofs.YtjeocmglcgnclaaDoor
open Go Go.RowKit

def noQ : Exit → Act → World → Prop := fun _ _ _ => False

/-- What an operation may do: 0: one value in every world; 1: it may look at the world, which it leaves alone; 2: whatever. -/
def kd : Op → Nat
  | .move _ | .assign _ | .pick .. | .extract .. | .field .. | .fieldAddr .. | .indexAddr .. | .index .. | .binOp .. | .unOp .. | .convert .. | .build .. | .nilCheck _ | .slice .. => 0
  | .load .. | .lookup .. => 1
  | .call { callee := .builtin .len, .. } | .call { callee := .builtin .min, .. } | .call { callee := .builtin .max, .. } | .call { callee := .builtin .real, .. } | .call { callee := .builtin .imag, .. } | .call { callee := .builtin .complex, .. } => 0
  | _ => 2

/-- The same, where conversions look at memory. -/
def kdc : Op → Nat
  | .convert .. => 1
  | op => kd op

section
variable {P : Program} {S : World → Prop} {ops : Array Oper} {ld : Op → Nat} {R : Act → World → Prop} {md : Region.Mode}

def wpMix (P : Program) (S : World → Prop) (ops : Array Oper) (ld : Op → Nat) (R : Act → World → Prop) : List Oper → Act → World → Prop
  | [], a, w => R a w
  | o :: rest, a, w =>
    if Region.wanted o (yielded ops a.tmps) = true then
      (if ld o.op = 0 then ∃ v, (∀ w', S w' → (execOp a.eval o).run P w' = .ok (.value v) w') ∧ wpMix P S ops ld R rest (a.put o.dst v) w
       else if ld o.op = 1 then ∃ v, (execOp a.eval o).run P w = .ok (.value v) w ∧ wpMix P S ops ld R rest (a.put o.dst v) w
       else o.wp P a w (fun a' w' => S w' ∧ wpMix P S ops ld R rest a' w') noQ)
    else wpMix P S ops ld R rest (a.put o.dst undef) w

def mOp (P : Program) (S : World → Prop) (ops : Array Oper) (ld : Op → Nat) (i : Nat) (K : Act → World → Prop) (a : Act) (w : World) : Prop :=
  match ops[i]? with
  | none => K a w
  | some o =>
    if Region.wanted o (yielded ops a.tmps) = true then
      (if ld o.op = 0 then ∃ v, (∀ w', S w' → (execOp a.eval o).run P w' = .ok (.value v) w') ∧ K (a.put o.dst v) w
       else if ld o.op = 1 then ∃ v, (execOp a.eval o).run P w = .ok (.value v) w ∧ K (a.put o.dst v) w
       else o.wp P a w (fun a' w' => S w' ∧ K a' w') noQ)
    else K (a.put o.dst undef) w

def mAny (P : Program) (S : World → Prop) (md : Region.Mode) (ops : Array Oper) (ld : Op → Nat) (R : Act → World → Prop) : Nat → Array Bool → Act → World → Prop
  | 0, listed, a, w => Region.ready md ops listed = [] ∧ R a w
  | fuel + 1, listed, a, w =>
    (Region.ready md ops listed = [] → R a w) ∧
    ∀ i ∈ Region.ready md ops listed, mOp P S ops ld i (mAny P S md ops ld R fuel (listed.setIfInBounds i true)) a w

theorem wp_noQ {o : Oper} {a : Act} {w : World} {K : Act → World → Prop} {Q : Exit → Act → World → Prop} (h : o.wp P a w K noQ) : o.wp P a w K Q := by
  unfold Oper.wp at *
  generalize (execOp a.eval o).run P w = r at *
  cases r with
  | ok n w' =>
    cases n <;> simp only [Oper.upon] at h ⊢ <;> first
      | exact h
      | exact Calls.mono h (fun e w'' he => by
          cases e with
          | returned v => exact he
          | panicked c => exact he.elim
          | outgrown => obtain ⟨_, _, hf⟩ := he; exact hf.elim)
  | halt x w' => cases x <;> simp only [Oper.upon] at h ⊢ <;> exact (h : False).elim

/-- What comes out of a loud operation: some frame in which its own temporary alone (and perhaps the deferred calls) has turned. -/
theorem wp_out {o : Oper} {a : Act} {w : World} {K : Act → World → Prop} (h : o.wp P a w K noQ) :
    ∃ ds v w', K ({ a with defers := ds }.put o.dst v) w' := by
  unfold Oper.wp at h
  generalize (execOp a.eval o).run P w = r at *
  cases r with
  | ok n w' =>
    cases n <;> simp only [Oper.upon] at h <;> first
      | exact h.elim
      | (exact ⟨a.defers, _, _, h⟩)
      | (exact ⟨_ :: a.defers, _, _, h⟩)
      | (obtain ⟨e, w'', _, he, _⟩ := h []
         cases e with
         | returned v => exact ⟨a.defers, _, _, he⟩
         | panicked c => exact he.elim
         | outgrown => obtain ⟨_, _, hf⟩ := he; exact hf.elim)
      | (obtain ⟨v, w'', he, _⟩ := h default []
         exact ⟨a.defers, _, _, he⟩)
  | halt x w' => cases x <;> simp only [Oper.upon] at h <;> exact (h : False).elim

theorem mOp_mono {i : Nat} {a : Act} {w : World} {K K' : Act → World → Prop} (hS : S w) (h : ∀ a w, S w → K a w → K' a w) (hh : mOp P S ops ld i K a w) : mOp P S ops ld i K' a w := by
  unfold mOp at *
  split
  · rename_i ho; simp only [ho] at hh; exact h _ _ hS hh
  · rename_i o ho
    simp only [ho] at hh
    split
    · rename_i hw
      rw [if_pos hw] at hh
      split
      · rename_i hl; rw [if_pos hl] at hh; obtain ⟨v, h1, h2⟩ := hh; exact ⟨v, h1, h _ _ hS h2⟩
      · rename_i hl
        rw [if_neg hl] at hh
        split
        · rename_i hl; rw [if_pos hl] at hh; obtain ⟨v, h1, h2⟩ := hh; exact ⟨v, h1, h _ _ hS h2⟩
        · rename_i hl; rw [if_neg hl] at hh; exact Oper.wp_mono (fun a' w' h' => ⟨h'.1, h _ _ h'.1 h'.2⟩) hh
    · rename_i hw; rw [if_neg hw] at hh; exact h _ _ hS hh

theorem wpOp_of_mOp {i : Nat} {a : Act} {w : World} {K : Act → World → Prop} {Q : Exit → Act → World → Prop} (hS : S w) (hh : mOp P S ops ld i K a w) : wpOp P ops Q i (fun a' w' => S w' ∧ K a' w') a w := by
  unfold mOp at hh
  unfold wpOp
  split
  · rename_i ho; simp only [ho] at hh; exact ⟨hS, hh⟩
  · rename_i o ho
    simp only [ho] at hh
    split
    · rename_i hw
      rw [if_pos hw] at hh
      left
      by_cases hl : ld o.op = 0
      · rw [if_pos hl] at hh
        obtain ⟨v, h1, h2⟩ := hh
        simp only [Oper.wp, h1 w hS, Oper.upon]
        exact ⟨hS, h2⟩
      · rw [if_neg hl] at hh
        by_cases hl : ld o.op = 1
        · rw [if_pos hl] at hh
          obtain ⟨v, h1, h2⟩ := hh
          simp only [Oper.wp, h1, Oper.upon]
          exact ⟨hS, h2⟩
        · rw [if_neg hl] at hh; exact wp_noQ hh
    · rename_i hw; rw [if_neg hw] at hh; exact ⟨hS, hh⟩

theorem wpAny_of_mAny {Q : Exit → Act → World → Prop} (hR : ∀ a w, S w → R a w → Q .normal a w) : ∀ (fuel : Nat) (listed : Array Bool) (a : Act) (w : World),
    S w → mAny P S md ops ld R fuel listed a w → wpAny P md ops Q fuel listed a w
  | 0, _, _, _, hS, h => ⟨h.1, hR _ _ hS h.2⟩
  | fuel + 1, _, _, _, hS, h => ⟨fun h0 => hR _ _ hS (h.1 h0), fun i hi => wpOp_mono (fun a' w' h' => wpAny_of_mAny hR fuel _ a' w' h'.1 h'.2) (wpOp_of_mOp hS (h.2 i hi))⟩

/-- In every world of the class the operation yields v. -/
def YieldsS (P : Program) (S : World → Prop) (ops : Array Oper) (o : Oper) (v : Value) (a : Act) : Prop :=
  (Region.wanted o (yielded ops a.tmps) = true ∧ ∀ w, S w → (execOp a.eval o).run P w = .ok (.value v) w) ∨
  (Region.wanted o (yielded ops a.tmps) = false ∧ v = undef)

theorem YieldsS.of_same {o : Oper} {v : Value} {a a' : Act} (hy : YieldsS P S ops o v a) (he : execOp a'.eval o = execOp a.eval o)
    (hw : Region.wanted o (yielded ops a'.tmps) = Region.wanted o (yielded ops a.tmps)) : YieldsS P S ops o v a' := by
  unfold YieldsS at *
  rw [he, hw]
  exact hy

theorem yields_mOp {i : Nat} {o : Oper} {v : Value} {a : Act} (hi : ops[i]? = some o) (hy : YieldsS P S ops o v a) {K : Act → World → Prop} {w : World} (hS : S w) (h : K (a.put o.dst v) w) : mOp P S ops ld i K a w := by
  unfold mOp
  simp only [hi]
  rcases hy with ⟨hw, hv⟩ | ⟨hw, rfl⟩
  · rw [if_pos hw]
    split
    · exact ⟨v, hv, h⟩
    · split
      · exact ⟨v, hv w hS, h⟩
      · simp only [Oper.wp, hv w hS, Oper.upon]; exact ⟨hS, h⟩
  · rw [if_neg (by rw [hw]; exact Bool.false_ne_true)]; exact h

theorem ok_inj {v u : Value} {w : World} (h : Result.ok (Next.value v) w = .ok (.value u) w) : v = u := by
  injection h with e
  injection e

theorem mOp_yields {i : Nat} {o : Oper} {v : Value} {a : Act} (hi : ops[i]? = some o) (hy : YieldsS P S ops o v a) {K : Act → World → Prop} {w : World} (hS : S w) (h : mOp P S ops ld i K a w) : K (a.put o.dst v) w := by
  unfold mOp at h
  simp only [hi] at h
  rcases hy with ⟨hw, hv⟩ | ⟨hw, rfl⟩
  · rw [if_pos hw] at h
    split at h
    · obtain ⟨u, h1, h2⟩ := h
      rw [ok_inj ((hv w hS).symm.trans (h1 w hS))]
      exact h2
    · split at h
      · obtain ⟨u, h1, h2⟩ := h
        rw [ok_inj ((hv w hS).symm.trans h1)]
        exact h2
      · simp only [Oper.wp, hv w hS, Oper.upon] at h
        exact h.2
  · rw [if_neg (by rw [hw]; exact Bool.false_ne_true)] at h; exact h

theorem wanted_defers (o : Oper) (a : Act) (ds : List Deferred) : Region.wanted o (yielded ops ({ a with defers := ds } : Act).tmps) = Region.wanted o (yielded ops a.tmps) := rfl

theorem yields_far {oi oj : Oper} {u v : Value} {a : Act} {ds : List Deferred} (hsj : ∀ cs b, oj.op ≠ .select cs b) (h1 : ∀ d, oi.dst = some d → d ∉ oj.looksAt ops) :
    YieldsS P S ops oj u ({ a with defers := ds }.put oi.dst v) ↔ YieldsS P S ops oj u a := by
  have e1 : execOp ({ a with defers := ds }.put oi.dst v).eval oj = execOp a.eval oj := execOp_put oj hsj _ oi.dst v h1
  have e2 : Region.wanted oj (yielded ops ({ a with defers := ds }.put oi.dst v).tmps) = Region.wanted oj (yielded ops a.tmps) := wanted_put oj _ oi.dst v h1
  exact ⟨fun h => h.of_same e1.symm e2.symm, fun h => h.of_same e1 e2⟩

/-- A loud operation behind the quiet one instead of ahead of it. -/
theorem wp_swap {oi oj : Oper} {u : Value} {a : Act} {w : World} {K K2 : Act → World → Prop} (hap : oi.apart ops oj = true) (hsi : ∀ cs b, oi.op ≠ .select cs b)
    (hK : ∀ ds v w', K ({ a with defers := ds }.put oi.dst v) w' → K2 (({ a with defers := ds }.put oi.dst v).put oj.dst u) w')
    (h : oi.wp P a w K noQ) : oi.wp P (a.put oj.dst u) w K2 noQ := by
  obtain ⟨_, h2, h3⟩ := Oper.apart_spec hap
  unfold Oper.wp at *
  rw [execOp_put oi hsi a oj.dst u h3]
  generalize (execOp a.eval oi).run P w = r at *
  have key : ∀ v w', K (a.put oi.dst v) w' → K2 ((a.put oj.dst u).put oi.dst v) w' := fun v w' hk => by
    rw [← Act.put_comm a v u h2]; exact hK a.defers v w' hk
  cases r with
  | ok n w' =>
    cases n <;> simp only [Oper.upon] at h ⊢ <;> first
      | exact h
      | exact key _ _ h
      | exact Calls.mono h (fun e w'' he => by
          cases e with
          | returned v => exact key _ _ he
          | panicked c => exact he.elim
          | outgrown => obtain ⟨_, _, hf⟩ := he; exact hf.elim)
      | exact Rows.mono h (fun _ _ he => key _ _ he)
      | (rw [Act.put_defers, ← Act.put_comm _ undef u h2]; exact hK _ _ _ h)
  | halt x w' => cases x <;> simp only [Oper.upon] at h ⊢ <;> exact h

theorem mOp_swap {i : Nat} {oi oj : Oper} {u : Value} {a : Act} {w : World} {K K2 : Act → World → Prop} (hi : ops[i]? = some oi) (hap : oi.apart ops oj = true) (hsi : ∀ cs b, oi.op ≠ .select cs b)
    (hS : S w) (hK : ∀ ds v w', S w' → K ({ a with defers := ds }.put oi.dst v) w' → K2 (({ a with defers := ds }.put oi.dst v).put oj.dst u) w')
    (h : mOp P S ops ld i K a w) : mOp P S ops ld i K2 (a.put oj.dst u) w := by
  obtain ⟨_, h2, h3⟩ := Oper.apart_spec hap
  have key : ∀ v w', S w' → K (a.put oi.dst v) w' → K2 ((a.put oj.dst u).put oi.dst v) w' := fun v w' hs hk => by
    rw [← Act.put_comm a v u h2]; exact hK a.defers v w' hs hk
  unfold mOp at *
  simp only [hi] at *
  rw [wanted_put oi a oj.dst u h3]
  split
  · rename_i hw
    rw [if_pos hw] at h
    split
    · rename_i hl
      rw [if_pos hl] at h
      obtain ⟨v, h1, hk⟩ := h
      exact ⟨v, fun w' hs => by rw [execOp_put oi hsi a oj.dst u h3]; exact h1 w' hs, key _ _ hS hk⟩
    · rename_i hl
      rw [if_neg hl] at h
      split
      · rename_i hl
        rw [if_pos hl] at h
        obtain ⟨v, h1, hk⟩ := h
        exact ⟨v, by rw [execOp_put oi hsi a oj.dst u h3]; exact h1, key _ _ hS hk⟩
      · rename_i hl
        rw [if_neg hl] at h
        exact wp_swap hap hsi (fun ds v w' hk => ⟨hk.1, hK ds v w' hk.1 hk.2⟩) h
  · rename_i hw
    rw [if_neg hw] at h
    exact key _ _ hS h

theorem mOp_out {i : Nat} {oi : Oper} {a : Act} {w : World} {K : Act → World → Prop} (hi : ops[i]? = some oi) (hS : S w) (h : mOp P S ops ld i K a w) :
    ∃ ds v w', S w' ∧ K ({ a with defers := ds }.put oi.dst v) w' := by
  unfold mOp at h
  simp only [hi] at h
  split at h
  · split at h
    · obtain ⟨v, _, h⟩ := h; exact ⟨a.defers, v, w, hS, h⟩
    · split at h
      · obtain ⟨v, _, h⟩ := h; exact ⟨a.defers, v, w, hS, h⟩
      · exact wp_out h
  · exact ⟨a.defers, undef, w, hS, h⟩

theorem mOp_put {j : Nat} {oi oj : Oper} {v : Value} (hj : ops[j]? = some oj) (hap : oi.apart ops oj = true)
    (hsi : ∀ cs b, oi.op ≠ .select cs b) (hsj : ∀ cs b, oj.op ≠ .select cs b) {K : Act → World → Prop} {a : Act} {w : World}
    (hy : YieldsS P S ops oi v a) (h : mOp P S ops ld j K (a.put oi.dst v) w) :
    mOp P S ops ld j (fun a' w' => YieldsS P S ops oi v a' ∧ K (a'.put oi.dst v) w') a w := by
  obtain ⟨h1, h2, h3⟩ := Oper.apart_spec hap
  have keep : ∀ (a : Act), YieldsS P S ops oi v a → ∀ u, YieldsS P S ops oi v (a.put oj.dst u) := fun a hy u =>
    hy.of_same (execOp_put oi hsi a oj.dst u h3) (wanted_put oi a oj.dst u h3)
  have keepD : ∀ d, YieldsS P S ops oi v { a with defers := d :: a.defers } := fun d => hy.of_same rfl rfl
  unfold mOp at *
  simp only [hj] at *
  rw [wanted_put oj a oi.dst v h1] at h
  split
  · rename_i hw
    rw [if_pos hw] at h
    split
    · rename_i hl
      rw [if_pos hl] at h
      obtain ⟨u, hu, hk⟩ := h
      refine ⟨u, fun w' hs => ?_, keep a hy u, by rw [← Act.put_comm a v u h2]; exact hk⟩
      have := hu w' hs
      rwa [execOp_put oj hsj a oi.dst v h1] at this
    · rename_i hl
      rw [if_neg hl] at h
      split
      · rename_i hl
        rw [if_pos hl] at h
        obtain ⟨u, hu, hk⟩ := h
        refine ⟨u, ?_, keep a hy u, by rw [← Act.put_comm a v u h2]; exact hk⟩
        rwa [execOp_put oj hsj a oi.dst v h1] at hu
      · rename_i hl
        rw [if_neg hl] at h
        unfold Oper.wp at *
        rw [execOp_put oj hsj a oi.dst v h1] at h
        generalize (execOp a.eval oj).run P w = r at *
        cases r with
        | ok n w' =>
          cases n <;> simp only [Oper.upon] at h ⊢
          case value u => exact ⟨h.1, keep a hy u, by rw [← Act.put_comm a v u h2]; exact h.2⟩
          case skip => exact ⟨h.1, keep a hy _, by rw [← Act.put_comm a v undef h2]; exact h.2⟩
          case defer d =>
            refine ⟨h.1, keep _ (keepD d) _, ?_⟩
            rw [← Act.put_comm _ v undef h2, ← Act.put_defers]
            exact h.2
          case enter f args =>
            refine Calls.mono h fun e w'' he => ?_
            cases e with
            | returned u => exact ⟨he.1, keep a hy u, by rw [← Act.put_comm a v u h2]; exact he.2⟩
            | panicked c => exact he.elim
            | outgrown => obtain ⟨_, _, hf⟩ := he; exact hf.elim
          case row row args => exact Rows.mono h fun u w'' he => ⟨he.1, keep a hy u, by rw [← Act.put_comm a v u h2]; exact he.2⟩
        | halt x w' => cases x <;> simp only [Oper.upon] at h ⊢ <;> exact (h : False).elim
  · rename_i hw
    rw [if_neg hw] at h
    exact ⟨keep a hy _, by rw [← Act.put_comm a v undef h2]; exact h⟩

/-- Closed under 'waits for'. -/
def Closed (md : Region.Mode) (ops : Array Oper) (listed : Array Bool) : Prop :=
  ∀ m om, ops[m]? = some om → listed.getD m false = true → ∀ e ∈ om.after, Region.binds md e = true → listed.getD e.on false = true

theorem Closed.set {listed : Array Bool} {j : Nat} (h : Closed md ops listed) (hj : j ∈ Region.ready md ops listed) : Closed md ops (listed.setIfInBounds j true) := by
  intro m om hm hl e he hb
  by_cases hjm : j = m
  · subst hjm
    obtain ⟨_, o, ho, hall⟩ := mem_ready.1 hj
    rw [hm] at ho
    injection ho with ho
    subst ho
    exact getD_set_true (hall e he hb)
  · rw [getD_set_ne false hjm] at hl
    exact getD_set_true (h m om hm hl e he hb)

/-- 'dep j': the operations that must come before j, as bits; held against the edges. -/
def DepOk (md : Region.Mode) (ops : Array Oper) (dep : Nat → Nat) : Prop :=
  ∀ j oj i, ops[j]? = some oj → (dep j).testBit i = true → ∃ e ∈ oj.after, Region.binds md e = true ∧ e.on < j ∧ (e.on = i ∨ (dep e.on).testBit i = true)

theorem dep_none {dep : Nat → Nat} (hz : ∀ j, ops[j]? = none → dep j = 0) (hd : DepOk md ops dep) {listed : Array Bool} (hc : Closed md ops listed) {i : Nat} :
    ∀ m, listed.getD m false = true → (dep m).testBit i = true → listed.getD i false = true := by
  intro m
  induction m using Nat.strongRecOn with
  | _ m ih =>
    intro hl hb
    rcases ho : ops[m]? with _ | om
    · rw [hz m ho] at hb; simp at hb
    · obtain ⟨e, he, hbi, hlt, h⟩ := hd m om i ho hb
      have hle := hc m om ho hl e he hbi
      rcases h with h | h
      · rw [← h]; exact hle
      · exact ih e.on hlt hle h

theorem unlisted_false {listed : Array Bool} {i : Nat} (h : listed.getD i true = false) : listed.getD i false ≠ true := by
  rcases Nat.lt_or_ge i listed.size with h' | h'
  · simp [h'] at h ⊢; exact h
  · simp [Array.getElem?_eq_none h'] at h

/-- **An operation that may come up now may be taken first**, if of it and of every other that has not come up and need not wait for it, at most one is loud, and the two are apart. -/
theorem mAny_first {dep : Nat → Nat} (hz : ∀ j, ops[j]? = none → dep j = 0) (hd : DepOk md ops dep) {i : Nat} {oi : Oper} (hi : ops[i]? = some oi)
    (hsel : ∀ (j : Nat) (o : Oper) cs b, ops[j]? = some o → o.op ≠ .select cs b) :
    ∀ (fuel : Nat) (listed : Array Bool) (a : Act) (w : World), S w → Closed md ops listed →
      (∀ j oj, ops[j]? = some oj → j ≠ i → listed.getD j true = false → (dep j).testBit i = false → oi.apart ops oj = true ∧ ld oi.op + ld oj.op ≤ 2) →
      i ∈ Region.ready md ops listed →
      mOp P S ops ld i (mAny P S md ops ld R fuel (listed.setIfInBounds i true)) a w → mAny P S md ops ld R (fuel + 1) listed a w := by
  intro fuel
  induction fuel with
  | zero =>
    intro listed a w hS _ _ hr H
    refine ⟨fun h => (by rw [h] at hr; cases hr), fun j hj => ?_⟩
    by_cases hji : j = i
    · subst hji; exact H
    · exfalso
      have hm := ready_mono hj hji
      obtain ⟨_, _, _, _, h, _⟩ := mOp_out hi hS H
      rw [h] at hm
      cases hm
  | succ fuel ih =>
    intro listed a w hS hcl hfree hr H
    refine ⟨fun h => (by rw [h] at hr; cases hr), fun j hj => ?_⟩
    by_cases hji : j = i
    · subst hji; exact H
    · obtain ⟨hjun, oj, hoj, hall⟩ := mem_ready.1 hj
      have hiun := unlisted_false (mem_ready.1 hr).1
      have hnd : (dep j).testBit i = false := by
        rcases hb : (dep j).testBit i with _ | _
        · rfl
        · exfalso
          obtain ⟨e, he, hbi, _, h⟩ := hd j oj i hoj hb
          have hle := hall e he hbi
          rcases h with h | h
          · rw [h] at hle; exact hiun hle
          · exact hiun (dep_none hz hd hcl e.on hle h)
      obtain ⟨hap, hlo⟩ := hfree j oj hoj hji hjun hnd
      have hfree' : ∀ k ok, ops[k]? = some ok → k ≠ i → (listed.setIfInBounds j true).getD k true = false → (dep k).testBit i = false → oi.apart ops ok = true ∧ ld oi.op + ld ok.op ≤ 2 := fun k ok hk hki hun hno => by
        refine hfree k ok hk hki ?_ hno
        by_cases hjk : j = k
        · subst hjk; exact hjun
        · rw [getD_set_ne true hjk] at hun; exact hun
      have hsi := fun cs b => hsel i oi cs b hi
      have hsj := fun cs b => hsel j oj cs b hoj
      have back : ∀ a' w', S w' → mOp P S ops ld i (mAny P S md ops ld R fuel ((listed.setIfInBounds i true).setIfInBounds j true)) a' w' → mAny P S md ops ld R (fuel + 1) (listed.setIfInBounds j true) a' w' := fun a' w' hs h => by
        refine ih (listed.setIfInBounds j true) a' w' hs (hcl.set hj) hfree' (ready_mono hr (Ne.symm hji)) ?_
        rw [Array.setIfInBounds_comm _ _ hji]
        exact h
      by_cases hq : ∃ v, YieldsS P S ops oi v a
      · obtain ⟨v, hy⟩ := hq
        have H1 := mOp_yields hi hy hS H
        have h1 := H1.2 j (ready_mono hj hji)
        have h2 := mOp_put hoj hap hsi hsj hy h1
        exact mOp_mono hS (fun a' w' hs h3 => back a' w' hs (yields_mOp hi h3.1 hs h3.2)) h2
      · -- the operation is wanted, and looks at the world or turns it
        obtain ⟨h1, h2, h3⟩ := Oper.apart_spec hap
        -- where the other one yields one value in every world: it goes ahead
        have pathY : ∀ u, YieldsS P S ops oj u a → mOp P S ops ld j (mAny P S md ops ld R (fuel + 1) (listed.setIfInBounds j true)) a w := fun u hya => by
          refine yields_mOp hoj hya hS (back _ _ hS (mOp_swap hi hap hsi hS (fun ds' v' w' hs hk => ?_) H))
          exact mOp_yields hoj ((yields_far hsj h1).2 hya) hs (hk.2 j (ready_mono hj hji))
        obtain ⟨ds, v, w1, hS1, hout⟩ := mOp_out hi hS H
        have hjo := hout.2 j (ready_mono hj hji)
        by_cases hwj : Region.wanted oj (yielded ops ({ a with defers := ds }.put oi.dst v).tmps) = true
        · by_cases hj0 : ld oj.op = 0
          · unfold mOp at hjo
            simp only [hoj] at hjo
            rw [if_pos hwj, if_pos hj0] at hjo
            obtain ⟨u, hu, _⟩ := hjo
            exact pathY u ((yields_far (v := v) (ds := ds) hsj h1).1 (.inl ⟨hwj, hu⟩))
          · -- both look at the world and leave it alone
            have H0 := H
            unfold mOp at H0
            simp only [hi] at H0
            by_cases hw : Region.wanted oi (yielded ops a.tmps) = true
            · rw [if_pos hw] at H0
              by_cases hl : ld oi.op = 0
              · rw [if_pos hl] at H0
                obtain ⟨v, hv, _⟩ := H0
                exact absurd ⟨v, .inl ⟨hw, hv⟩⟩ hq
              · have hl1 : ld oi.op = 1 := by omega
                have hj1 : ld oj.op = 1 := by omega
                rw [if_neg hl, if_pos hl1] at H0
                obtain ⟨v, hv, hk⟩ := H0
                have hjo := hk.2 j (ready_mono hj hji)
                unfold mOp at hjo ⊢
                simp only [hoj] at hjo ⊢
                rw [wanted_put oj a oi.dst v h1, execOp_put oj hsj a oi.dst v h1] at hjo
                have hwj' : Region.wanted oj (yielded ops a.tmps) = true := by
                  have := wanted_put (ops := ops) oj { a with defers := ds } oi.dst v h1
                  rw [← wanted_put (ops := ops) oj a oi.dst v h1]
                  rw [wanted_put (ops := ops) oj a oi.dst v h1]
                  have h4 := hwj
                  rw [wanted_put (ops := ops) oj { a with defers := ds } oi.dst _ h1] at h4
                  exact h4
                rw [if_pos hwj', if_neg hj0, if_pos hj1] at hjo ⊢
                obtain ⟨u, hu, hk2⟩ := hjo
                refine ⟨u, hu, back _ _ hS ?_⟩
                unfold mOp
                simp only [hi]
                rw [wanted_put oi a oj.dst u h3, execOp_put oi hsi a oj.dst u h3, if_pos hw, if_neg hl, if_pos hl1]
                exact ⟨v, hv, by rw [← Act.put_comm a v u h2]; exact hk2⟩
            · exact absurd ⟨undef, .inr ⟨by simpa using hw, rfl⟩⟩ hq
        · exact pathY undef ((yields_far (v := v) (ds := ds) hsj h1).1 (.inr ⟨by simpa using hwj, rfl⟩))

/-! ### The Bool over a region, and the lexical walk -/

def depStep (dep : Nat → Nat) (es : List Edge) : Nat := es.foldl (fun s e => if Region.binds .any e = true then s ||| 2 ^ e.on ||| dep e.on else s) 0

theorem depStep_spec (dep : Nat → Nat) (i : Nat) : ∀ (es : List Edge) (s : Nat), (es.foldl (fun s e => if Region.binds .any e = true then s ||| 2 ^ e.on ||| dep e.on else s) s).testBit i = true →
    s.testBit i = true ∨ ∃ e ∈ es, Region.binds .any e = true ∧ (e.on = i ∨ (dep e.on).testBit i = true)
  | [], _, h => .inl h
  | e :: es, s, h => by
    rw [List.foldl_cons] at h
    rcases depStep_spec dep i es _ h with h | ⟨e', he', h'⟩
    · by_cases hb : Region.binds .any e = true
      · rw [if_pos hb] at h
        simp only [Nat.testBit_or, Bool.or_eq_true, Nat.testBit_two_pow, decide_eq_true_eq] at h
        rcases h with (h | h) | h
        · exact .inl h
        · exact .inr ⟨e, List.mem_cons_self, hb, .inl h⟩
        · exact .inr ⟨e, List.mem_cons_self, hb, .inr h⟩
      · rw [if_neg hb] at h; exact .inl h
    · exact .inr ⟨e', List.mem_cons_of_mem _ he', h'⟩

/-- The bits of what must come before, operation by operation. -/
def depsFrom : List Nat → List Oper → List Nat
  | acc, [] => acc
  | acc, o :: rest => depsFrom (acc ++ [depStep (fun j => acc.getD j 0) o.after.toList]) rest
def depsOf (l : List Oper) : List Nat := depsFrom [] l

def mixB (ld : Op → Nat) (l : List Oper) (b : List Nat) : Bool :=
  Region.noSelect l.toArray && b.length == l.length &&
  (l.zipIdx.all fun x => x.1.after.toList.all (fun e => !Region.binds .any e || decide (e.on < x.2)) && b.getD x.2 0 == depStep (fun j => b.getD j 0) x.1.after.toList) &&
  l.zipIdx.all fun x => l.zipIdx.all fun y => decide (y.2 ≤ x.2) || (b.getD y.2 0).testBit x.2 || (x.1.apart l.toArray y.1 && decide (ld x.1.op + ld y.1.op ≤ 2))

theorem zipIdx_mem {l : List Oper} {j : Nat} {o : Oper} (h : l[j]? = some o) : (o, j) ∈ l.zipIdx := by
  rw [List.mem_zipIdx_iff_getElem?]; exact h

theorem mixB_spec {ld : Op → Nat} {l : List Oper} {b : List Nat} (h : mixB ld l b = true) :
    Region.noSelect l.toArray = true ∧ (∀ j, l.toArray[j]? = none → b.getD j 0 = 0) ∧ DepOk .any l.toArray (fun j => b.getD j 0) ∧
    (∀ j oj, l[j]? = some oj → ∀ e ∈ oj.after, Region.binds .any e = true → e.on < j) ∧
    ∀ i oi j oj, l[i]? = some oi → l[j]? = some oj → i < j → (b.getD j 0).testBit i = false → oi.apart l.toArray oj = true ∧ ld oi.op + ld oj.op ≤ 2 := by
  simp only [mixB, Bool.and_eq_true, List.all_eq_true, beq_iff_eq] at h
  obtain ⟨⟨⟨h1, h2⟩, h3⟩, h4⟩ := h
  have hlt : ∀ j oj, l[j]? = some oj → ∀ e ∈ oj.after, Region.binds .any e = true → e.on < j := fun j oj hj e he hb => by
    have := (h3 _ (zipIdx_mem hj)).1 e (by simpa using he)
    simp only [hb, Bool.not_true, Bool.false_or, decide_eq_true_eq] at this
    exact this
  refine ⟨h1, fun j hj => ?_, fun j oj i hj hb => ?_, hlt, fun i oi j oj hi hj hij hn => ?_⟩
  · have hle : l.length ≤ j := by simpa using hj
    rw [List.getD_eq_getElem?_getD, List.getElem?_eq_none (by omega)]; rfl
  · have hj' : l[j]? = some oj := by simpa using hj
    have e1 := (h3 _ (zipIdx_mem hj')).2
    have hb : (b.getD j 0).testBit i = true := hb
    simp only at e1
    rw [e1] at hb
    unfold depStep at hb
    rcases depStep_spec (fun j => b.getD j 0) i _ 0 hb with h | ⟨e, he, hbi, hh⟩
    · simp at h
    · have he' : e ∈ oj.after := by simpa using he
      exact ⟨e, he', hbi, hlt j oj hj' e he' hbi, hh⟩
  · have := h4 _ (zipIdx_mem hi) _ (zipIdx_mem hj)
    simp only [Bool.or_eq_true, decide_eq_true_eq, hn, Bool.false_eq_true, or_false, Bool.and_eq_true] at this
    rcases this with h | h
    · omega
    · exact h

def LexInv (n k : Nat) (listed : Array Bool) : Prop := listed.size = n ∧ ∀ j, j < n → listed[j]? = some (decide (j < k))

theorem LexInv.getD {n k : Nat} {listed : Array Bool} (h : LexInv n k listed) {j : Nat} (hj : j < n) (d : Bool) : listed.getD j d = decide (j < k) := by
  rw [Array.getD_eq_getD_getElem?, h.2 j hj]; rfl

theorem LexInv.set {n k : Nat} {listed : Array Bool} (h : LexInv n k listed) : LexInv n (k + 1) (listed.setIfInBounds k true) := by
  refine ⟨by simpa using h.1, fun j hj => ?_⟩
  by_cases hkj : k = j
  · subst hkj
    simp [h.1, hj]
  · rw [Array.getElem?_setIfInBounds_ne hkj, h.2 j hj]
    congr 1
    exact decide_eq_decide.2 (by omega)

theorem mAny_lex {l : List Oper} {b : List Nat} (hB : mixB ld l b = true) : ∀ (r : List Oper) (k : Nat) (listed : Array Bool) (a : Act) (w : World), S w →
    (∀ j, r[j]? = l[k + j]?) → k + r.length = l.length → LexInv l.length k listed → wpMix P S l.toArray ld R r a w → mAny P S .any l.toArray ld R r.length listed a w
  | [], k, listed, a, w, _, _, hk, hin, h => by
    refine ⟨?_, h⟩
    rw [List.eq_nil_iff_forall_not_mem]
    intro j hj
    obtain ⟨hu, o, ho, _⟩ := mem_ready.1 hj
    have hlt : j < l.length := by have := (Array.getElem?_eq_some_iff.1 ho).1; simpa using this
    rw [hin.getD hlt] at hu
    simp only [List.length_nil, Nat.add_zero] at hk
    simp at hu
    omega
  | o :: r, k, listed, a, w, hS, hl, hk, hin, h => by
    obtain ⟨hs, hz, hd, hlt, hpair⟩ := mixB_spec hB
    have h0 : l[k]? = some o := by simpa using (hl 0).symm
    have h0' : l.toArray[k]? = some o := by simpa using h0
    have hkl : k < l.length := by simp only [List.length_cons] at hk; omega
    have hcl : Closed .any l.toArray listed := fun m om hm hli e he hb => by
      have hm' : l[m]? = some om := by simpa using hm
      have hml : m < l.length := (List.getElem?_eq_some_iff.1 hm').1
      rw [hin.getD hml] at hli
      have hlte := hlt m om hm' e he hb
      rw [hin.getD (by omega)]
      simp at hli ⊢
      omega
    refine mAny_first hz hd h0' (Region.noSelect_spec hs) r.length listed a w hS hcl (fun j oj hj hne hun hno => ?_) ?_ ?_
    · have hj' : l[j]? = some oj := by simpa using hj
      have hjl : j < l.length := (List.getElem?_eq_some_iff.1 hj').1
      rw [hin.getD hjl] at hun
      simp at hun
      exact hpair k o j oj h0 hj' (by omega) hno
    · refine mem_ready.2 ⟨by rw [hin.getD hkl]; simp, o, h0', fun e he hb => ?_⟩
      have := hlt k o h0 e he hb
      rw [hin.getD (by omega)]
      simpa using this
    · have hm : mOp P S l.toArray ld k (wpMix P S l.toArray ld R r) a w := by
        unfold mOp
        simp only [h0']
        exact h
      exact mOp_mono hS (fun a' w' hs h' => mAny_lex hB r (k + 1) _ a' w' hs (fun j => by have := hl (j + 1); simpa [Nat.add_assoc, Nat.add_comm 1 j] using this) (by simp only [List.length_cons] at hk; omega) hin.set h') hm

theorem wpMix_mono {R' : Act → World → Prop} (h : ∀ a w, S w → R a w → R' a w) : ∀ {r : List Oper} {a : Act} {w : World}, wpMix P S ops ld R r a w → S w → wpMix P S ops ld R' r a w
  | [], _, _, hh, hS => h _ _ hS hh
  | o :: r, a, w, hh, hS => by
    simp only [wpMix] at hh ⊢
    split
    · rename_i hw
      rw [if_pos hw] at hh
      split
      · rename_i hl; rw [if_pos hl] at hh; obtain ⟨v, h1, h2⟩ := hh; exact ⟨v, h1, wpMix_mono h h2 hS⟩
      · rename_i hl
        rw [if_neg hl] at hh
        split
        · rename_i hl; rw [if_pos hl] at hh; obtain ⟨v, h1, h2⟩ := hh; exact ⟨v, h1, wpMix_mono h h2 hS⟩
        · rename_i hl; rw [if_neg hl] at hh; exact Oper.wp_mono (fun a' w' h' => ⟨h'.1, wpMix_mono h h'.2 h'.1⟩) hh
    · rename_i hw; rw [if_neg hw] at hh; exact wpMix_mono h hh hS

/-- **ONE WALK OF THE TEXT's ORDER SERVES EVERY ORDER**, in worlds of a class S that every operation keeps. -/
theorem wp_region_mix {id : Nat} {Q : Exit → Act → World → Prop} {a : Act} {w : World} {l : List Oper} (S : World → Prop) (ld : Op → Nat) (b : List Nat) (hm : P.follows .mixedOrders = true) (hB : mixB ld l b = true)
    (hS : S w.drew) (h : ∀ K : Act → World → Prop, (∀ a w, S w → Q .normal a w → K a w) → wpMix P S l.toArray ld K l a w.drew) : (Code.region id l.toArray true).wp P Q a w := by
  refine wp_region_any hm (wpAny_of_mAny (ld := ld) (S := S) (R := fun a w => Q .normal a w) (fun _ _ _ h => h) _ _ _ _ hS ?_)
  have := mAny_lex (P := P) (R := fun a w => Q .normal a w) hB l 0 (Array.replicate l.length false) a w.drew hS (by simp) (by simp) ⟨by simp, fun j hj => by simp [hj]⟩ (h _ (fun _ _ _ h => h))
  simpa using this

/-- The plain form: loads count as looking at the world. -/
theorem wp_mix {id : Nat} {Q : Exit → Act → World → Prop} {a : Act} {w : World} {l : List Oper} (hm : P.follows .mixedOrders = true) (hB : mixB kd l (depsOf l) = true)
    (h : ∀ K : Act → World → Prop, (∀ a w, Q .normal a w → K a w) → wpMix P (fun _ => True) l.toArray kd K l a w.drew) : (Code.region id l.toArray true).wp P Q a w :=
  wp_region_mix (fun _ => True) kd (depsOf l) hm hB trivial (fun K hK => h K fun a w hq => hK a w trivial hq)

/-- The plain form where conversions look at memory. -/
theorem wp_mixc {id : Nat} {Q : Exit → Act → World → Prop} {a : Act} {w : World} {l : List Oper} (hm : P.follows .mixedOrders = true) (hB : mixB kdc l (depsOf l) = true)
    (h : ∀ K : Act → World → Prop, (∀ a w, Q .normal a w → K a w) → wpMix P (fun _ => True) l.toArray kdc K l a w.drew) : (Code.region id l.toArray true).wp P Q a w :=
  wp_region_mix (fun _ => True) kdc (depsOf l) hm hB trivial (fun K hK => h K fun a w hq => hK a w trivial hq)

/-- Loads too must yield one value, in every world that keeps what the region found. -/
def kdS : Op → Nat
  | .load .. => 0
  | op => kd op

theorem wp_mixS {id : Nat} {Q : Exit → Act → World → Prop} {a : Act} {w : World} {l : List Oper} (hm : P.follows .mixedOrders = true) (hB : mixB kdS l (depsOf l) = true)
    (h : ∀ K : Act → World → Prop, (∀ a w', Q .normal a w' → K a w') → wpMix P (Below w.heap.size w) l.toArray kdS K l a w.drew) : (Code.region id l.toArray true).wp P Q a w :=
  wp_region_mix (Below w.heap.size w) kdS (depsOf l) hm hB ((Below.refl _ _).drew) fun _ hK => wpMix_mono (fun a w' hs hq => hK a w' hs hq) (h (fun a w' => Q .normal a w') (fun _ _ hq => hq)) ((Below.refl _ _).drew)

/-- One operation of the lexical walk, what follows behind a variable. -/
theorem mix_step {o : Oper} {rest : List Oper} {a : Act} {w : World}
    (h : ∀ K : Act → World → Prop, (∀ a w, wpMix P (fun _ => True) ops ld R rest a w → K a w) →
      if Region.wanted o (yielded ops a.tmps) = true then
        (if ld o.op = 0 then ∃ v, (∀ w', (execOp a.eval o).run P w' = .ok (.value v) w') ∧ K (a.put o.dst v) w
         else if ld o.op = 1 then ∃ v, (execOp a.eval o).run P w = .ok (.value v) w ∧ K (a.put o.dst v) w
         else o.wp P a w K noQ)
      else K (a.put o.dst undef) w) : wpMix P (fun _ => True) ops ld R (o :: rest) a w := by
  have := h (fun a w => True ∧ wpMix P (fun _ => True) ops ld R rest a w) (fun _ _ h => ⟨trivial, h⟩)
  simp only [wpMix, true_implies]
  simp only [true_and] at this ⊢
  exact this

/-- The same in a class: what turns the world must show that the class is kept. -/
theorem mixS_step {o : Oper} {rest : List Oper} {a : Act} {w : World}
    (h : ∀ K K' : Act → World → Prop, (∀ a w, wpMix P S ops ld R rest a w → K a w) → (∀ a w, S w ∧ wpMix P S ops ld R rest a w → K' a w) →
      if Region.wanted o (yielded ops a.tmps) = true then
        (if ld o.op = 0 then ∃ v, (∀ w', (execOp a.eval o).run P w' = .ok (.value v) w') ∧ K (a.put o.dst v) w
         else if ld o.op = 1 then ∃ v, (execOp a.eval o).run P w = .ok (.value v) w ∧ K (a.put o.dst v) w
         else o.wp P a w K' noQ)
      else K (a.put o.dst undef) w) : wpMix P S ops ld R (o :: rest) a w := by
  have := h (wpMix P S ops ld R rest) (fun a w => S w ∧ wpMix P S ops ld R rest a w) (fun _ _ h => h) (fun _ _ h => h)
  simp only [wpMix]
  split at this
  · rename_i hw
    rw [if_pos hw]
    split at this
    · rename_i hl
      rw [if_pos hl]
      obtain ⟨v, h1, h2⟩ := this
      exact ⟨v, fun w' _ => h1 w', h2⟩
    · rename_i hl
      rw [if_neg hl]
      exact this
  · rename_i hw
    rw [if_neg hw]
    exact this

theorem mixS_on {o : Oper} {rest : List Oper} {a : Act} {w : World} (hw : Region.wanted o (yielded ops a.tmps) = true)
    (h : ∀ K K' : Act → World → Prop, (∀ a w, wpMix P S ops ld R rest a w → K a w) → (∀ a w, S w ∧ wpMix P S ops ld R rest a w → K' a w) →
      (if ld o.op = 0 then ∃ v, (∀ w', (execOp a.eval o).run P w' = .ok (.value v) w') ∧ K (a.put o.dst v) w
         else if ld o.op = 1 then ∃ v, (execOp a.eval o).run P w = .ok (.value v) w ∧ K (a.put o.dst v) w
         else o.wp P a w K' noQ)) : wpMix P S ops ld R (o :: rest) a w :=
  mixS_step fun K K' hK hK' => by rw [if_pos hw]; exact h K K' hK hK'
theorem mixS_off {o : Oper} {rest : List Oper} {a : Act} {w : World} (hw : Region.wanted o (yielded ops a.tmps) = false)
    (h : ∀ K : Act → World → Prop, (∀ a w, wpMix P S ops ld R rest a w → K a w) → K (a.put o.dst undef) w) : wpMix P S ops ld R (o :: rest) a w :=
  mixS_step fun K K' hK _ => by rw [if_neg (by rw [hw]; exact Bool.false_ne_true)]; exact h K hK
theorem mix_on {o : Oper} {rest : List Oper} {a : Act} {w : World} (hw : Region.wanted o (yielded ops a.tmps) = true)
    (h : ∀ K : Act → World → Prop, (∀ a w, wpMix P (fun _ => True) ops ld R rest a w → K a w) →
      (if ld o.op = 0 then ∃ v, (∀ w', (execOp a.eval o).run P w' = .ok (.value v) w') ∧ K (a.put o.dst v) w
         else if ld o.op = 1 then ∃ v, (execOp a.eval o).run P w = .ok (.value v) w ∧ K (a.put o.dst v) w
         else o.wp P a w K noQ)) : wpMix P (fun _ => True) ops ld R (o :: rest) a w :=
  mix_step fun K hK => by rw [if_pos hw]; exact h K hK
theorem mix_off {o : Oper} {rest : List Oper} {a : Act} {w : World} (hw : Region.wanted o (yielded ops a.tmps) = false)
    (h : ∀ K : Act → World → Prop, (∀ a w, wpMix P (fun _ => True) ops ld R rest a w → K a w) → K (a.put o.dst undef) w) : wpMix P (fun _ => True) ops ld R (o :: rest) a w :=
  mix_step fun K hK => by rw [if_neg (by rw [hw]; exact Bool.false_ne_true)]; exact h K hK

/-- A load in a class: one value in every world of it. -/
theorem mixS_load {d : Option Tmp} {t ty : TypeId} {x : Operand} {pos : String} {after : Array Edge} {g : Option (Nat × Bool)} {rest : List Oper} {a : Act} {w : World} {p v : Value}
    (hl : ∀ w', S w' → (Instr.loadAt t p).run P w' = .ok v w') (hp : a.eval x = p) (hw : Region.wanted (Oper.mk d (.load t x) ty pos after g) (yielded ops a.tmps) = true)
    (h : wpMix P S ops kdS R rest (a.put d v) w) : wpMix P S ops kdS R (Oper.mk d (.load t x) ty pos after g :: rest) a w := by
  simp only [wpMix]
  rw [if_pos hw, if_pos (show kdS (.load t x) = 0 from rfl)]
  refine ⟨v, fun w' hs => ?_, h⟩
  have := hl w' hs
  subst hp
  simp [execOp, this]

/-- A load whose guard is down. -/
theorem mixS_skip {d : Option Tmp} {t ty : TypeId} {x : Operand} {pos : String} {after : Array Edge} {g : Option (Nat × Bool)} {rest : List Oper} {a : Act} {w : World}
    (hw : Region.wanted (Oper.mk d (.load t x) ty pos after g) (yielded ops a.tmps) = false)
    (h : wpMix P S ops kdS R rest (a.put d undef) w) : wpMix P S ops kdS R (Oper.mk d (.load t x) ty pos after g :: rest) a w := by
  simp only [wpMix]
  rw [if_neg (by rw [hw]; exact Bool.false_ne_true)]
  exact h

theorem mix_nil {a : Act} {w : World} (h : R a w) : wpMix P S ops ld R [] a w := h
end
end Go.Proofs.YtjeocmglcgnclaaDoor

/- What a call that writes into memory of its own leaves alone: every block outside a list. And blocks known whole, for structs behind pointers. Plain lemmas; each names its own conditions. -/
namespace Go.Proofs.YtjeocmglcgnclaaDoor
open Go.RowKit

/-- Every block that was there is as it was, but for those of F. -/
structure Turned (F : List Nat) (w w' : World) : Prop where
  os : w'.os = w.os
  tape : w'.tape = w.tape
  output : w'.output = w.output
  size : w.heap.size ≤ w'.heap.size
  block : ∀ k, k < w.heap.size → k ∉ F → w'.heap[k]? = w.heap[k]?

theorem Turned.refl (F : List Nat) (w : World) : Turned F w w := ⟨rfl, rfl, rfl, Nat.le_refl _, fun _ _ _ => rfl⟩
theorem Turned.of_below {F : List Nat} {w w' : World} (h : Below w.heap.size w w') : Turned F w w' := ⟨h.os, h.tape, h.output, h.size, fun k hk _ => h.block k hk⟩
theorem Turned.trans {F G : List Nat} {w w1 w2 : World} (h : Turned F w w1) (k : Turned G w1 w2) (hG : ∀ b ∈ G, b ∈ F ∨ w.heap.size ≤ b) : Turned F w w2 :=
  ⟨k.os.trans h.os, k.tape.trans h.tape, k.output.trans h.output, Nat.le_trans h.size k.size, fun b hb hF => by
    refine (k.block b (Nat.lt_of_lt_of_le hb h.size) (fun hbG => ?_)).trans (h.block b hb hF)
    rcases hG b hbG with h1 | h1
    · exact hF h1
    · omega⟩
theorem Turned.mono {F G : List Nat} {w w' : World} (h : Turned F w w') (hG : ∀ b ∈ F, b ∈ G) : Turned G w w' :=
  ⟨h.os, h.tape, h.output, h.size, fun b hb hn => h.block b hb (fun hf => hn (hG b hf))⟩
theorem Turned.below {F : List Nat} {B : Nat} {w w' : World} (h : Turned F w w') (hF : ∀ b ∈ F, B ≤ b) (hB : B ≤ w.heap.size) : Below B w w' :=
  ⟨h.os, h.tape, h.output, h.size, fun b hb => h.block b (by omega) (fun hf => by have := hF b hf; omega)⟩
theorem Turned.cell {F : List Nat} {w w' : World} (h : Turned F w w') {p : Addr} {v : Value} (hp : w.cell? p = some v) (hF : p.block ∉ F) : w'.cell? p = some v := by
  rw [World.cell?_of_block (w := w) (h.block p.block (cell_lt hp) hF)]; exact hp
theorem Turned.drew {F : List Nat} {w w' : World} (h : Turned F w w') : Turned F w w'.drew := ⟨h.os, h.tape, h.output, h.size, h.block⟩
theorem Turned.setCell {F : List Nat} {w w' : World} (h : Turned F w w') {p : Addr} (hp : p.block ∈ F) (u : Value) : Turned F w (w'.setCell p u) :=
  ⟨h.os, h.tape, h.output, by simpa [World.setCell] using h.size, fun b hb hn => (Below.heap_setCell w' p u b (fun e => hn (e ▸ hp))).trans (h.block b hb hn)⟩
theorem Turned.grown {F : List Nat} {w w1 w2 : World} {row : Option Nat} (h : Turned F w w1) (hg : w1.grownBy w2 row) (hr : ∀ k, row = some k → k ∈ F ∨ w.heap.size ≤ k) : Turned F w w2 :=
  ⟨hg.os.trans h.os, hg.tape.trans h.tape, hg.output.trans h.output, Nat.le_trans h.size hg.size, fun b hb hn => by
    refine (hg.block b (Nat.lt_of_lt_of_le hb h.size) (fun e => ?_)).trans (h.block b hb hn)
    rcases hr b e.symm with h1 | h1
    · exact hn h1
    · omega⟩

/-- The slice's address lies in none of F. -/
def Off (A : Option Addr) (F : List Nat) : Prop := ∀ ad, A = some ad → ad.block ∉ F

theorem Rd.turned {F : List Nat} {w w' : World} {A : Option Addr} {n size : Nat} {xs : List Value} (h : Rd w size A n xs) (ht : Turned F w w') (hF : Off A F) : Rd w' size A n xs :=
  ⟨h.1, fun hn => by
    obtain ⟨b, o, e, hc⟩ := h.2 hn
    exact ⟨b, o, e, fun j u hu => ht.cell (hc j u hu) (show b ∉ F from hF _ e)⟩⟩
theorem Bs.turned {F : List Nat} {w w' : World} {A : Option Addr} {n : Nat} {l : List UInt8} (h : Bs w A n l) (ht : Turned F w w') (hF : Off A F) : Bs w' A n l := Rd.turned h ht hF

theorem own_turned {F : List Nat} {w w' : World} {base : Nat} {e : TypeId} {v : Value} {n size : Nat} {xs : List Value} (h : w.ownsRow base e size v n xs) (ht : Turned F w w') (hF : ∀ k, v.ownBlock = some k → k ∉ F) : w'.ownsRow base e size v n xs := by
  obtain ⟨h1, h2⟩ := h
  refine ⟨h1, ?_⟩
  rcases h2 with h2 | ⟨g, cap, cur, rfl, hg, hh, r⟩
  · exact .inl h2
  · refine .inr ⟨g, cap, cur, rfl, hg, ?_, r⟩
    have hlt : g < w.heap.size := by
      rcases Nat.lt_or_ge g w.heap.size with h3 | h3
      · exact h3
      · rw [Array.getElem?_eq_none h3] at hh; cases hh
    rw [ht.block g hlt (hF g rfl)]; exact hh

/-- Block g is just the cells cs of type t, none frozen. -/
def Blk (w : World) (g : Nat) (t : TypeId) (cs : Array Value) : Prop := w.heap[g]? = some (.cells cs t (0, 0))

section
variable {w w' : World} {g : Nat} {t : TypeId} {cs : Array Value}
theorem Blk.lt (h : Blk w g t cs) : g < w.heap.size := by
  rcases Nat.lt_or_ge g w.heap.size with h1 | h1
  · exact h1
  · unfold Blk at h; rw [Array.getElem?_eq_none h1] at h; cases h
theorem Blk.cell (h : Blk w g t cs) (i : Nat) : w.cell? ⟨g, i, none⟩ = cs[i]? := by
  unfold Blk at h
  simp [World.cell?, h]
theorem Blk.frozen (h : Blk w g t cs) (i : Nat) : w.frozen? ⟨g, i, none⟩ = false := by
  unfold Blk at h
  simp [World.frozen?, h]
theorem Blk.new (w : World) (t : TypeId) (cs : Array Value) : Blk (w.alloc (.cells cs t)) w.heap.size t cs := heap_alloc_new w _
theorem Blk.drew (h : Blk w g t cs) : Blk w.drew g t cs := h
theorem Blk.alloc (h : Blk w g t cs) (o : Obj) : Blk (w.alloc o) g t cs := (Below.heap_alloc w o g h.lt).trans h
theorem Blk.set_ (h : Blk w g t cs) (i : Nat) (u : Value) : Blk (w.setCell ⟨g, i, none⟩ u) g t (cs.setIfInBounds i u) := by
  unfold Blk at h ⊢
  simp [World.setCell, Array.getElem?_modify, h]
theorem Blk.below {B : Nat} (h : Blk w g t cs) (hb : Below B w w') (hg : g < B) : Blk w' g t cs := (hb.block g hg).trans h
theorem Blk.turned {F : List Nat} (h : Blk w g t cs) (ht : Turned F w w') (hg : g ∉ F) : Blk w' g t cs := (ht.block g h.lt hg).trans h
theorem Blk.grown {row : Option Nat} (h : Blk w g t cs) (hb : w.grownBy w' row) (hg : some g ≠ row) : Blk w' g t cs := (hb.block g h.lt hg).trans h
theorem Blk.own_ne {base : Nat} {e : TypeId} {size n : Nat} {v : Value} {xs : List Value} (hg : Blk w g t cs) (h : w.ownsRow base e size v n xs) (hne : e ≠ t) : v.ownBlock ≠ some g := by
  rcases h.2 with ⟨rfl, _⟩ | ⟨g', cap, cur, rfl, _, hh, _⟩
  · simp [Value.ownBlock]
  · intro he
    have : g' = g := by simpa [Value.ownBlock] using he
    subst this
    unfold Blk at hg
    rw [hg] at hh
    injection hh with hh
    injection hh with _ ht
    exact hne ht.symm
end

/-- An append in the lexical walk of a drawn region. -/
theorem mix_app {P : Program} {w : World} {ops : Array Oper} {R : Act → World → Prop} {rest : List Oper} {d : Option Tmp} {s x : Operand} {t ty : TypeId} {pos : String} {after : Array Edge} {gd : Option (Nat × Bool)} {a : Act}
    (base : Nat) (e : TypeId) (i : TypeInfo) (z : Value) (size bytes : Nat) (ht : P.underlying t = some (.slice e)) (hi : P.info? e = some i) (hz : i.zero = some z)
    (hsize : i.size = size) (hby : i.bytes = bytes) (hzs : z.cells.size = size) (hsz : 0 < size)
    (v : Value) (n : Nat) (xs : List Value) (hown : w.ownsRow base e size v n xs)
    (A : Option Addr) (m c : Nat) (news : List Value) (hr : Rd w size A m news) (hs : a.eval s = v) (hx : a.eval x = .slice A m c) (h1 : ∀ u ∈ news, u.oneCell' = true)
    (hbytes : (n + m) * bytes ≤ 140737488355328) (h63 : n + m ≤ 140737488355328) (hbase : base ≤ w.heap.size)
    (hw : Region.wanted (Oper.mk d (.call { callee := .builtin .append, args := #[s, x], argTypes := #[t, t] }) ty pos after gd) (yielded ops a.tmps) = true)
    (h : ∀ A' c' w', w'.ownsRow base e size (.slice A' (n + m) c') (n + m) (xs ++ news) → w.grownBy w' v.ownBlock →
      ((Value.slice A' (n + m) c').ownBlock = v.ownBlock ∨ (Value.slice A' (n + m) c').ownBlock = some w.heap.size) → wpMix P (fun _ => True) ops kd R rest (a.put d (.slice A' (n + m) c')) w') :
    wpMix P (fun _ => True) ops kd R (Oper.mk d (.call { callee := .builtin .append, args := #[s, x], argTypes := #[t, t] }) ty pos after gd :: rest) a w := by
  simp only [wpMix]
  rw [if_pos hw, if_neg (show ¬ kd (.call { callee := .builtin .append, args := #[s, x], argTypes := #[t, t] }) = 0 from fun h => Nat.noConfusion (show (2 : Nat) = 0 from h)), if_neg (show ¬ kd (.call { callee := .builtin .append, args := #[s, x], argTypes := #[t, t] }) = 1 from fun h => Nat.noConfusion (Nat.succ.inj (show (2 : Nat) = 1 from h)))]
  exact wp_app w s x t rfl base e i z size bytes ht hi hz hsize hby hzs hsz v n xs hs hown A m c news hx hr h1 hbytes h63 hbase fun A' c' w' h2 h3 h4 => ⟨trivial, h A' c' w' h2 h3 h4⟩
/-- It reads as ints. -/
def Is (w : World) (A : Option Addr) (n : Nat) (l : List Int) : Prop := Rd w 1 A n (l.map (Value.int .i64))
/-- Element i of a slice of ints. -/
theorem Is.at_ {w : World} {A : Option Addr} {n : Nat} {l : List Int} (h : Is w A n l) {i : Nat} (hi : i < n) : ∃ b o x, A = some ⟨b, o, none⟩ ∧ l[i]? = some x ∧ w.cell? ⟨b, o + i, none⟩ = some (.int .i64 x) := by
  obtain ⟨b, o, e, hc⟩ := h.2 (by omega)
  have hl : i < l.length := by have := h.1; simp at this; omega
  refine ⟨b, o, l[i], e, List.getElem?_eq_getElem hl, hc i _ ?_⟩
  simp [List.getElem?_eq_getElem hl]
theorem Is.below {w w' : World} {A : Option Addr} {n : Nat} {l : List Int} (h : Is w A n l) (hb : Below w.heap.size w w') : Is w' A n l := Rd.below h hb

/-! What the builtins min and max answer, as words: to be laid as [local go_sem]. -/
theorem if_min (a b : Int) : (if a < b then a else b) = min a b := by omega
theorem if_max (a b : Int) : (if a < b then b else a) = max a b := by omega

theorem if_minN (a b : Nat) : (if a < b then (a : Int) else (b : Int)) = min (a : Int) (b : Int) := by omega
theorem if_maxN (a b : Nat) : (if a < b then (b : Int) else (a : Int)) = max (a : Int) (b : Int) := by omega

/-! The address of 's[k:]' as one word: lay [local go_sem ↓] sliced_word and [local go_sem] offA_zero, and no slice parts the walk. -/
def offA (A : Option Addr) (k c size : Nat) : Option Addr := if c = k then A else A.map (·.add (k * size))
theorem sliced_word (a : Option Addr) (l h m s : Nat) : sliced a l h m s = .slice (offA a l m s) (h - l) (m - l) := rfl
theorem offA_zero (A : Option Addr) (c s : Nat) : offA A 0 c s = A := by
  unfold offA
  split
  · rfl
  · rcases A with _ | a
    · rfl
    · simp [Addr.add]
theorem Rd.off {w : World} {A : Option Addr} {n size : Nat} {xs : List Value} (h : Rd w size A n xs) {k cap : Nat} (hk : k ≤ n) (hc : n ≤ cap) : Rd w size (offA A k cap size) (n - k) (xs.drop (k * size)) := h.drop hk hc
theorem Bs.off {w : World} {A : Option Addr} {n : Nat} {l : List UInt8} (h : Bs w A n l) {k cap : Nat} (hk : k ≤ n) (hc : n ≤ cap) : Bs w (offA A k cap 1) (n - k) (l.drop k) := by
  have h1 := Rd.off h hk hc
  rw [Nat.mul_one, ← List.map_drop] at h1
  exact h1
theorem Bs.to {w : World} {A : Option Addr} {n : Nat} {l : List UInt8} (h : Bs w A n l) {k : Nat} (hk : k ≤ n) : Bs w A k (l.take k) := by
  have h1 := Rd.take h hk
  rw [Nat.mul_one, ← List.map_take] at h1
  exact h1

theorem own_le {w : World} {base : Nat} {e : TypeId} {size n c : Nat} {A : Option Addr} {xs : List Value} (h : w.ownsRow base e size (.slice A n c) n xs) : n ≤ c := by
  obtain ⟨A', c', e, hle⟩ := own_shape h
  injection e with _ _ e
  omega

section
variable {P : Program} (w : World)
/-- The same behind a guard that is up. -/
theorem wpList_appG {ops : Array Oper} {rest : List Oper} {o : Oper} {a : Act} {Q : Exit → Act → World → Prop} (hgd : Region.wanted o (yielded ops a.tmps) = true) (s x : Operand) (t : TypeId)
    (ho : o.op = .call { callee := .builtin .append, args := #[s, x], argTypes := #[t, t] })
    (base : Nat) (e : TypeId) (i : TypeInfo) (z : Value) (size bytes : Nat) (ht : P.underlying t = some (.slice e)) (hi : P.info? e = some i) (hz : i.zero = some z)
    (hsize : i.size = size) (hby : i.bytes = bytes) (hzs : z.cells.size = size) (hsz : 0 < size)
    (v : Value) (n : Nat) (xs : List Value) (hs : a.eval s = v) (hown : w.ownsRow base e size v n xs)
    (A : Option Addr) (m c : Nat) (news : List Value) (hx : a.eval x = .slice A m c) (hr : Rd w size A m news) (h1 : ∀ u ∈ news, u.oneCell' = true)
    (hbytes : (n + m) * bytes ≤ 140737488355328) (h63 : n + m ≤ 140737488355328) (hbase : base ≤ w.heap.size)
    (h : ∀ A' c' w', w'.ownsRow base e size (.slice A' (n + m) c') (n + m) (xs ++ news) → w.grownBy w' v.ownBlock →
      ((Value.slice A' (n + m) c').ownBlock = v.ownBlock ∨ (Value.slice A' (n + m) c').ownBlock = some w.heap.size) → wpList P ops Q rest (a.put o.dst (.slice A' (n + m) c')) w') : wpList P ops Q (o :: rest) a w :=
  wpList_step fun K hK => by
    rw [if_pos hgd]
    exact wp_app w s x t ho base e i z size bytes ht hi hz hsize hby hzs hsz v n xs hs hown A m c news hx hr h1 hbytes h63 hbase fun A' c' w' h2 h3 h4 => hK _ _ (h A' c' w' h2 h3 h4)

end

/-- A guard: an append comes up in the lexical walk. -/
theorem at_mapp {P : Program} {S : World → Prop} {ld : Op → Nat} {ops : Array Oper} {R : Act → World → Prop} {rest : List Oper} {d : Option Tmp} {args : Array Operand} {ts : Array TypeId} {ty : TypeId} {pos : String} {after : Array Edge} {gd : Option (Nat × Bool)} {a : Act} {w : World}
    (h : wpMix P S ops ld R (Oper.mk d (.call { callee := .builtin .append, args := args, argTypes := ts }) ty pos after gd :: rest) a w) :
    wpMix P S ops ld R (Oper.mk d (.call { callee := .builtin .append, args := args, argTypes := ts }) ty pos after gd :: rest) a w := h

/-- A drawn region in a class of worlds of the caller's own, whose loads yield one value in all of it. -/
theorem wp_mixC {P : Program} {id : Nat} {Q : Exit → Act → World → Prop} {a : Act} {w : World} {l : List Oper} (S : World → Prop) (hm : P.follows .mixedOrders = true) (hB : mixB kdS l (depsOf l) = true) (hS : S w.drew)
    (h : ∀ K : Act → World → Prop, (∀ a w', Q .normal a w' → K a w') → wpMix P S l.toArray kdS K l a w.drew) : (Code.region id l.toArray true).wp P Q a w :=
  wp_region_mix S kdS (depsOf l) hm hB hS fun _ hK => wpMix_mono (fun a w' hs hq => hK a w' hs hq) (h (fun a w' => Q .normal a w') (fun _ _ hq => hq)) hS
end Go.Proofs.YtjeocmglcgnclaaDoor

/- Copies of bytes, each call once: wlvref.Copy and bytes.Clone answer a slice of the call's own. Condition: at most 2^46 bytes. -/
namespace Go.Proofs.YtjeocmglcgnclaaDoor
open Go.RowKit

theorem info_parts {t : TypeId} {z : Value} {size bytes : Nat} (h : (Tryd.prog.info? t).map (fun i => (i.zero, i.size, i.bytes)) = some (some z, size, bytes)) :
    ∃ i, Tryd.prog.info? t = some i ∧ i.zero = some z ∧ i.size = size ∧ i.bytes = bytes := by
  rcases hi : Tryd.prog.info? t with _ | i
  · rw [hi] at h; cases h
  · rw [hi] at h
    simp only [Option.map_some, Option.some.injEq, Prod.mk.injEq] at h
    exact ⟨i, rfl, h.1, h.2.1, h.2.2⟩
theorem u8_info : (Tryd.prog.info? 5).map (fun i => (i.zero, i.size, i.bytes)) = some (some (.int .u8 0), 1, 1) := by kernel_rfl



theorem same_bytes (A A' : Option Addr) (n c n' c' : Nat) (l l' : List UInt8) (w : World) (h : Bs w A n l) (h' : Bs w A' n' l') :
    Calls Tryd.prog 19 #[.slice A n c, .slice A' n' c'] w fun e w' => e = .returned (.bool (l == l')) ∧ w = w' := by
  have k1 := run_str (P := Tryd.prog) (c := c) h 29 9 5 Tryd.underlying29 Tryd.underlying5 Tryd.underlying9
  have k2 := run_str (P := Tryd.prog) (c := c') h' 29 9 5 Tryd.underlying29 Tryd.underlying5 Tryd.underlying9
  clear h h'
  go_enter Tryd.func19, Tryd.ntmps19
  go_wp2_with fail
  go_ret
  exact ⟨rfl, rfl⟩

end Go.Proofs.YtjeocmglcgnclaaDoor

/- A drawn region whose last operation waits for all the others: those go as in Mix, in worlds of a class that they keep, and the last one may turn what they read. -/
namespace Go.Proofs.YtjeocmglcgnclaaDoor
open Go Go.RowKit

/-- What the last operation makes of the frame. -/
def wpLast (P : Program) (ops : Array Oper) (z : Oper) (Q : Exit → Act → World → Prop) (a : Act) (w : World) : Prop :=
  if Region.wanted z (yielded ops a.tmps) = true then z.wp P a w (fun a' w' => Q .normal a' w') noQ else Q .normal (a.put z.dst undef) w

def finB (ld : Op → Nat) (l : List Oper) (z : Oper) : Bool :=
  mixB ld l (depsOf l) && (z.after.toList.all fun e => !Region.binds .any e || decide (e.on < l.length)) &&
  (depStep (fun j => (depsOf l).getD j 0) z.after.toList % 2 ^ l.length == 2 ^ l.length - 1) &&
  (l.all fun o => match o.guard with | none => true | some (j, _) => decide (j < l.length))

section
variable {P : Program} {S : World → Prop} {ld : Op → Nat} {R : Act → World → Prop}

theorem snoc_lt {l : List Oper} {z : Oper} {i : Nat} (h : i < l.length) : (l ++ [z]).toArray[i]? = l.toArray[i]? := by
  simp [List.getElem?_append_left h]
theorem snoc_at {l : List Oper} {z : Oper} : (l ++ [z]).toArray[l.length]? = some z := by
  simp

theorem wanted_snoc {l : List Oper} {z o : Oper} {tmps : Array Value} (h : (match o.guard with | none => true | some (j, _) => decide (j < l.length)) = true) :
    Region.wanted o (yielded (l ++ [z]).toArray tmps) = Region.wanted o (yielded l.toArray tmps) := by
  unfold Region.wanted
  rcases hg : o.guard with _ | ⟨j, b⟩
  · rfl
  · rw [hg] at h
    have h : j < l.length := by simpa using h
    simp only [yielded, snoc_lt h]

/-- Everything that bears a listed bit is listed. -/
theorem all_listed {l : List Oper} {z : Oper} {listed : Array Bool} (hB : finB ld l z = true) (hcl : Closed .any l.toArray listed)
    (hz : ∀ e ∈ z.after, Region.binds .any e = true → listed.getD e.on false = true) : ∀ i, i < l.length → listed.getD i false = true := by
  simp only [finB, Bool.and_eq_true, List.all_eq_true] at hB
  obtain ⟨⟨⟨h1, h2⟩, h3⟩, h4⟩ := hB
  obtain ⟨_, hzero, hdep, _, _⟩ := mixB_spec h1
  intro i hi
  have hb : (depStep (fun j => (depsOf l).getD j 0) z.after.toList).testBit i = true := by
    have e := congrArg (fun x => Nat.testBit x i) (beq_iff_eq.1 h3)
    simp only [Nat.testBit_mod_two_pow, Nat.testBit_two_pow_sub_one] at e
    simpa [hi] using e
  unfold depStep at hb
  rcases depStep_spec (fun j => (depsOf l).getD j 0) i z.after.toList 0 hb with h | ⟨e, he, hbi, hh⟩
  · simp at h
  · have hle := hz e (by simpa using he) hbi
    rcases hh with hh | hh
    · rw [← hh]; exact hle
    · exact dep_none hzero hdep hcl e.on hle hh

/-- Where nothing is ready, all is listed. -/
theorem none_ready {l : List Oper} {listed : Array Bool} (hsz : l.length ≤ listed.size) (hback : ∀ j oj, l[j]? = some oj → ∀ e ∈ oj.after, Region.binds .any e = true → e.on < j)
    (h : Region.ready .any l.toArray listed = []) : ∀ i, i < l.length → listed.getD i false = true := by
  intro i
  induction i using Nat.strongRecOn with
  | _ i ih =>
    intro hi
    rcases hb : listed.getD i false with _ | _
    · exfalso
      have : i ∈ Region.ready .any l.toArray listed := mem_ready.2 ⟨by
        have hl : i < listed.size := by omega
        simp [hl] at hb ⊢
        exact hb, l[i], by simp [hi], fun e he hbi => ih e.on (hback i l[i] (List.getElem?_eq_getElem hi) e he hbi) (by have := hback i l[i] (List.getElem?_eq_getElem hi) e he hbi; omega)⟩
      rw [h] at this
      cases this
    · rfl

theorem rel_getD {l : List Oper} {listed lis : Array Bool} (hrel : ∀ i, i < l.length → lis[i]? = listed[i]?) {i : Nat} (hi : i < l.length) (d : Bool) : lis.getD i d = listed.getD i d := by
  rw [Array.getD_eq_getD_getElem?, Array.getD_eq_getD_getElem?, hrel i hi]

theorem ready_lt {l : List Oper} {z : Oper} {listed lis : Array Bool} (hback : ∀ j oj, l[j]? = some oj → ∀ e ∈ oj.after, Region.binds .any e = true → e.on < j)
    (hrel : ∀ i, i < l.length → lis[i]? = listed[i]?) {i : Nat} (hi : i < l.length) : i ∈ Region.ready .any (l ++ [z]).toArray listed ↔ i ∈ Region.ready .any l.toArray lis := by
  rw [mem_ready, mem_ready, snoc_lt hi, rel_getD hrel hi]
  have ho : l.toArray[i]? = some l[i] := by simp [hi]
  constructor
  · rintro ⟨h1, o, h2, h3⟩
    refine ⟨h1, o, h2, fun e he hb => ?_⟩
    rw [ho] at h2
    injection h2 with h2
    subst h2
    have := hback i l[i] (List.getElem?_eq_getElem hi) e he hb
    rw [rel_getD hrel (by omega)]
    exact h3 e he hb
  · rintro ⟨h1, o, h2, h3⟩
    refine ⟨h1, o, h2, fun e he hb => ?_⟩
    rw [ho] at h2
    injection h2 with h2
    subst h2
    have := hback i l[i] (List.getElem?_eq_getElem hi) e he hb
    rw [← rel_getD hrel (by omega)]
    exact h3 e he hb

theorem rel_set {l : List Oper} {listed lis : Array Bool} (hsz : listed.size = l.length + 1) (hsz2 : lis.size = l.length) (hrel : ∀ i, i < l.length → lis[i]? = listed[i]?) {j : Nat} (hj : j < l.length) :
    ∀ i, i < l.length → (lis.setIfInBounds j true)[i]? = (listed.setIfInBounds j true)[i]? := by
  intro i hi
  by_cases hij : j = i
  · subst hij
    rw [Array.getElem?_setIfInBounds, Array.getElem?_setIfInBounds, if_pos rfl, if_pos rfl, if_pos (by omega), if_pos (by omega)]
  · rw [Array.getElem?_setIfInBounds_ne hij, Array.getElem?_setIfInBounds_ne hij]
    exact hrel i hi

theorem le_size {l : List Oper} {z o : Oper} {i : Nat} (ho : (l ++ [z]).toArray[i]? = some o) : i < l.length ∨ i = l.length := by
  rcases Nat.lt_or_ge i (l.length + 1) with h | h
  · omega
  · rw [Array.getElem?_eq_none (by simpa using h)] at ho; cases ho

theorem none_of_all {l : List Oper} {lis : Array Bool} (hsz : lis.size = l.length) (hall : ∀ i, i < l.length → lis.getD i false = true) : Region.ready .any l.toArray lis = [] := by
  rw [List.eq_nil_iff_forall_not_mem]
  intro j hj
  obtain ⟨hu, o, ho, _⟩ := mem_ready.1 hj
  have hjl : j < l.length := by
    rcases Nat.lt_or_ge j l.length with h | h
    · exact h
    · simp [h] at ho
  have := hall j hjl
  have hlt : j < lis.size := by omega
  simp [hlt] at hu this
  rw [hu] at this
  cases this

theorem wpAny_snoc {Q : Exit → Act → World → Prop} {l : List Oper} {z : Oper} (hB : finB ld l z = true) (hR : ∀ a w, S w → R a w → wpLast P (l ++ [z]).toArray z Q a w) :
    ∀ (fuel : Nat) (listed lis : Array Bool) (a : Act) (w : World), S w → listed.size = l.length + 1 → lis.size = l.length → (∀ i, i < l.length → lis[i]? = listed[i]?) → listed.getD l.length true = false → Closed .any l.toArray lis →
      mAny P S .any l.toArray ld R fuel lis a w → wpAny P .any (l ++ [z]).toArray Q (fuel + 1) listed a w := by
  have hB0 := hB
  simp only [finB, Bool.and_eq_true, List.all_eq_true] at hB
  obtain ⟨⟨⟨h1, h2⟩, h3⟩, h4⟩ := hB
  obtain ⟨_, hzero, hdep, hback, _⟩ := mixB_spec h1
  have hzb : ∀ e ∈ z.after, Region.binds .any e = true → e.on < l.length := fun e he hb => by
    have := h2 e (by simpa using he)
    simp [hb] at this
    exact this
  have last : ∀ (fuel : Nat) (listed lis : Array Bool) (a : Act) (w : World), S w → listed.size = l.length + 1 → (∀ i, i < l.length → lis[i]? = listed[i]?) → (∀ i, i < l.length → lis.getD i false = true) → R a w →
      wpOp P (l ++ [z]).toArray Q l.length (wpAny P .any (l ++ [z]).toArray Q fuel (listed.setIfInBounds l.length true)) a w := by
    intro fuel listed lis a w hS hsz hrel hall hr
    have hl := hR a w hS hr
    have hnil : Region.ready .any (l ++ [z]).toArray (listed.setIfInBounds l.length true) = [] := by
      rw [List.eq_nil_iff_forall_not_mem]
      intro j hj
      obtain ⟨hu, o, ho, _⟩ := mem_ready.1 hj
      rcases le_size ho with hj2 | hjl
      · rw [getD_set_ne true (by omega)] at hu
        have := hall j hj2
        rw [rel_getD hrel hj2] at this
        have hlt : j < listed.size := by omega
        simp [hlt] at hu this
        rw [hu] at this
        cases this
      · subst hjl
        simp [hsz] at hu
    have fin : ∀ a' w', Q .normal a' w' → wpAny P .any (l ++ [z]).toArray Q fuel (listed.setIfInBounds l.length true) a' w' := by
      intro a' w' hq
      cases fuel with
      | zero => exact ⟨hnil, hq⟩
      | succ f => exact ⟨fun _ => hq, fun i hi => by rw [hnil] at hi; cases hi⟩
    unfold wpOp
    rw [snoc_at]
    unfold wpLast at hl
    simp only []
    split at hl
    · rename_i hw
      rw [if_pos hw]
      exact .inl (Oper.wp_mono fin (wp_noQ hl))
    · rename_i hw
      rw [if_neg hw]
      exact fin _ _ hl
  have noneAt : ∀ (listed lis : Array Bool), (∀ i, i < l.length → lis[i]? = listed[i]?) → listed.size = l.length + 1 → lis.size = l.length → listed.getD l.length true = false → Region.ready .any (l ++ [z]).toArray listed = [] → False := by
    intro listed lis hrel hsz hsz2 hun hr
    have hr' : Region.ready .any l.toArray lis = [] := by
      rw [List.eq_nil_iff_forall_not_mem]
      intro j hj
      have hjl : j < l.length := by
        obtain ⟨_, o, ho, _⟩ := mem_ready.1 hj
        rcases Nat.lt_or_ge j l.length with h | h
        · exact h
        · simp [h] at ho
      rw [← ready_lt (z := z) hback hrel hjl, hr] at hj
      cases hj
    have hall := none_ready (by omega) hback hr'
    have : l.length ∈ Region.ready .any (l ++ [z]).toArray listed := mem_ready.2 ⟨hun, z, snoc_at, fun e he hb => by
      have hlt := hzb e he hb
      rw [← rel_getD hrel hlt]
      exact hall e.on hlt⟩
    rw [hr] at this
    cases this
  intro fuel
  induction fuel with
  | zero =>
    intro listed lis a w hS hsz hsz2 hrel hun hcl h
    have hall := none_ready (by omega) hback h.1
    refine ⟨fun hr => (noneAt listed lis hrel hsz hsz2 hun hr).elim, fun i hi => ?_⟩
    obtain ⟨_, o, ho, _⟩ := mem_ready.1 hi
    rcases le_size ho with hil | hil
    · rw [ready_lt hback hrel hil, h.1] at hi
      cases hi
    · subst hil
      exact last 0 listed lis a w hS hsz hrel hall h.2
  | succ fuel ih =>
    intro listed lis a w hS hsz hsz2 hrel hun hcl h
    refine ⟨fun hr => (noneAt listed lis hrel hsz hsz2 hun hr).elim, fun i hi => ?_⟩
    obtain ⟨_, o, ho, hall0⟩ := mem_ready.1 hi
    rcases le_size ho with hil | hil
    · have hi' := (ready_lt hback hrel hil).1 hi
      have hm := h.2 i hi'
      have hop := wpOp_of_mOp (Q := Q) hS hm
      have hnext : ∀ a' w', (S w' ∧ mAny P S .any l.toArray ld R fuel (lis.setIfInBounds i true) a' w') → wpAny P .any (l ++ [z]).toArray Q (fuel + 1) (listed.setIfInBounds i true) a' w' := fun a' w' hh =>
        ih _ _ a' w' hh.1 (by simpa using hsz) (by simpa using hsz2) (rel_set hsz hsz2 hrel hil) (by rw [getD_set_ne true (by omega)]; exact hun) (hcl.set hi') hh.2
      have hop2 := wpOp_mono hnext hop
      unfold wpOp at hop2 ⊢
      rw [snoc_lt hil]
      have hoi : l.toArray[i]? = some l[i] := by simp [hil]
      rw [hoi] at hop2 ⊢
      simp only [] at hop2 ⊢
      have hg := h4 l[i] (List.getElem_mem _)
      rw [wanted_snoc hg]
      exact hop2
    · subst hil
      rw [snoc_at] at ho
      injection ho with ho
      subst ho
      have hall := all_listed hB0 hcl (fun e he hb => by rw [rel_getD hrel (hzb e he hb)]; exact hall0 e he hb)
      exact last (fuel + 1) listed lis a w hS hsz hrel hall (h.1 (none_of_all hsz2 hall))

theorem wp_region_mixZ {id : Nat} {Q : Exit → Act → World → Prop} {a : Act} {w : World} {l : List Oper} {z : Oper} (S : World → Prop) (ld : Op → Nat) (hm : P.follows .mixedOrders = true) (hB : finB ld l z = true)
    (hS : S w.drew) (h : ∀ K : Act → World → Prop, (∀ a w, S w → wpLast P (l ++ [z]).toArray z Q a w → K a w) → wpMix P S l.toArray ld K l a w.drew) : (Code.region id (l ++ [z]).toArray true).wp P Q a w := by
  have hB1 := hB
  simp only [finB, Bool.and_eq_true] at hB1
  obtain ⟨⟨⟨h1, _⟩, _⟩, _⟩ := hB1
  refine wp_region_any hm ?_
  have hlex := mAny_lex (P := P) (R := fun a w => wpLast P (l ++ [z]).toArray z Q a w) h1 l 0 (Array.replicate l.length false) a w.drew hS (by simp) (by simp)
    ⟨by simp, fun j hj => by simp [hj]⟩ (h _ (fun _ _ _ h => h))
  have := wpAny_snoc (P := P) (S := S) (R := fun a w => wpLast P (l ++ [z]).toArray z Q a w) (Q := Q) hB (fun a w _ h => h) l.length (Array.replicate (l.length + 1) false) (Array.replicate l.length false) a w.drew hS (by simp) (by simp)
    (fun i hi => by rw [Array.getElem?_replicate, Array.getElem?_replicate, if_pos hi, if_pos (by omega)]) (by simp)
    (fun m om hm hl => by
      exfalso
      rw [Array.getD_eq_getD_getElem?] at hl
      rcases Nat.lt_or_ge m l.length with h | h
      · simp [h] at hl
      · simp [h] at hl) hlex
  simpa using this

/-- The last one of a list. -/
def lastO : List Oper → Option Oper
  | [] => none
  | [z] => some z
  | _ :: r => lastO r
theorem lastO_cut : ∀ {l : List Oper} {z : Oper}, lastO l = some z → l = l.dropLast ++ [z]
  | [], _, h => by cases h
  | [x], z, h => by
    injection h with h
    subst h
    rfl
  | x :: y :: r, z, h => by
    have := lastO_cut (l := y :: r) (z := z) h
    rw [List.dropLast_cons_cons, List.cons_append, ← this]

/-- The form for use: hz by rfl, the list's cut by simp only [List.dropLast_cons_cons, List.dropLast_singleton]. -/
theorem wp_mixZ {id : Nat} {Q : Exit → Act → World → Prop} {a : Act} {w : World} {l : List Oper} {z : Oper} (S : World → Prop) (hz : lastO l = some z) (hm : P.follows .mixedOrders = true) (hB : finB kdS l.dropLast z = true)
    (hS : S w.drew) (h : ∀ K : Act → World → Prop, (∀ a w, S w → wpLast P l.toArray z Q a w → K a w) → wpMix P S l.dropLast.toArray kdS K l.dropLast a w.drew) : (Code.region id l.toArray true).wp P Q a w := by
  have e := lastO_cut hz
  have h2 := wp_region_mixZ (id := id) (Q := Q) (a := a) (w := w) S kdS hm hB hS (by rw [← e]; exact h)
  rw [← e] at h2
  exact h2
/-- The last operation is wanted. -/
theorem last_on {ops : Array Oper} {z : Oper} {Q : Exit → Act → World → Prop} {a : Act} {w : World} (hw : Region.wanted z (yielded ops a.tmps) = true) (h : ∀ K : Act → World → Prop, (∀ a' w', Q .normal a' w' → K a' w') → z.wp P a w K noQ) : wpLast P ops z Q a w := by
  unfold wpLast
  rw [if_pos hw]
  exact h _ (fun _ _ h => h)
/-- An append in the lexical walk, in a class. -/
theorem mixS_app {P : Program} {S : World → Prop} {w : World} {ops : Array Oper} {R : Act → World → Prop} {rest : List Oper} {d : Option Tmp} {s x : Operand} {t ty : TypeId} {pos : String} {after : Array Edge} {gd : Option (Nat × Bool)} {a : Act}
    (base : Nat) (e : TypeId) (i : TypeInfo) (z : Value) (size bytes : Nat) (ht : P.underlying t = some (.slice e)) (hi : P.info? e = some i) (hz : i.zero = some z)
    (hsize : i.size = size) (hby : i.bytes = bytes) (hzs : z.cells.size = size) (hsz : 0 < size)
    (v : Value) (n : Nat) (xs : List Value) (hown : w.ownsRow base e size v n xs)
    (A : Option Addr) (m c : Nat) (news : List Value) (hr : Rd w size A m news) (hs : a.eval s = v) (hx : a.eval x = .slice A m c) (h1 : ∀ u ∈ news, u.oneCell' = true)
    (hbytes : (n + m) * bytes ≤ 140737488355328) (h63 : n + m ≤ 140737488355328) (hbase : base ≤ w.heap.size)
    (hw : Region.wanted (Oper.mk d (.call { callee := .builtin .append, args := #[s, x], argTypes := #[t, t] }) ty pos after gd) (yielded ops a.tmps) = true)
    (h : ∀ A' c' w', w'.ownsRow base e size (.slice A' (n + m) c') (n + m) (xs ++ news) → w.grownBy w' v.ownBlock →
      ((Value.slice A' (n + m) c').ownBlock = v.ownBlock ∨ (Value.slice A' (n + m) c').ownBlock = some w.heap.size) → S w' ∧ wpMix P S ops kdS R rest (a.put d (.slice A' (n + m) c')) w') :
    wpMix P S ops kdS R (Oper.mk d (.call { callee := .builtin .append, args := #[s, x], argTypes := #[t, t] }) ty pos after gd :: rest) a w := by
  simp only [wpMix]
  rw [if_pos hw, if_neg (show ¬ kdS (.call { callee := .builtin .append, args := #[s, x], argTypes := #[t, t] }) = 0 from fun h => Nat.noConfusion (show (2 : Nat) = 0 from h)), if_neg (show ¬ kdS (.call { callee := .builtin .append, args := #[s, x], argTypes := #[t, t] }) = 1 from fun h => Nat.noConfusion (Nat.succ.inj (show (2 : Nat) = 1 from h)))]
  exact wp_app w s x t rfl base e i z size bytes ht hi hz hsize hby hzs hsz v n xs hs hown A m c news hx hr h1 hbytes h63 hbase h
/-- The block of a row, if any. -/
def rowF (A : Option Addr) : List Nat := match A with | none => [] | some ad => [ad.block]
theorem rowF_own {A : Option Addr} {n c k : Nat} (h : (Value.slice A n c).ownBlock = some k) : k ∈ rowF A := by
  rcases A with _ | ad
  · cases h
  · have e : some ad.block = some k := h
    injection e with e
    subst e
    simp [rowF]
theorem rowF_ge {w : World} {base : Nat} {e : TypeId} {size n c : Nat} {A : Option Addr} {xs : List Value} (h : w.ownsRow base e size (.slice A n c) n xs) : ∀ b ∈ rowF A, base ≤ b := by
  intro b hb
  rcases A with _ | ad
  · cases hb
  · have : b = ad.block := by simpa [rowF] using hb
    subst this
    exact (h.lt ad.block rfl).1
theorem Turned.app {w w1 w2 : World} {A : Option Addr} {n c : Nat} (h : Turned (rowF A) w w1) (hg : w1.grownBy w2 (Value.slice A n c).ownBlock) : Turned (rowF A) w w2 :=
  h.grown hg (fun _ hk => .inl (rowF_own hk))
end
end Go.Proofs.YtjeocmglcgnclaaDoor

/- Bits of int: an or of numbers whose bits lie apart is their sum; big-endian numbers put together out of their bytes. No condition beyond the ranges that each lemma names. -/
namespace Go.Proofs.YtjeocmglcgnclaaDoor
open Go.RowKit

theorem ofInt_i64 (a : Nat) (ha : a < 9223372036854775808) : (BitVec.ofInt 64 (a : Int)).toNat = a := by
  rw [BitVec.ofInt_natCast, BitVec.toNat_ofNat]; exact Nat.mod_eq_of_lt (by omega)
theorem i64_or (a b : Nat) (ha : a < 9223372036854775808) (hb : b < 9223372036854775808) : bits .or .i64 (a : Int) (b : Int) = ((a ||| b : Nat) : Int) := by
  have hx : a ||| b < 2 ^ 63 := Nat.or_lt_two_pow (by omega) (by omega)
  show IntKind.i64.wrap ((BitVec.ofInt 64 (a : Int) ||| BitVec.ofInt 64 (b : Int)).toNat : Int) = _
  rw [BitVec.toNat_or, ofInt_i64 a ha, ofInt_i64 b hb, IntKind.wrap_i64]
  omega
theorem i64_and (a b : Nat) (ha : a < 9223372036854775808) (hb : b < 9223372036854775808) : bits .and .i64 (a : Int) (b : Int) = ((a &&& b : Nat) : Int) := by
  have hx : a &&& b < 2 ^ 63 := Nat.and_lt_two_pow _ (by omega)
  show IntKind.i64.wrap ((BitVec.ofInt 64 (a : Int) &&& BitVec.ofInt 64 (b : Int)).toNat : Int) = _
  rw [BitVec.toNat_and, ofInt_i64 a ha, ofInt_i64 b hb, IntKind.wrap_i64]
  omega

/-- High bits and low bits that lie apart. -/
theorem or_add (a b : Int) (i : Nat) (_hi : i ≤ 62) (ha : 0 ≤ a) (hb : 0 ≤ b) (hb1 : b < 2 ^ i) (h : 2 ^ i * a + b < 9223372036854775808) : bits .or .i64 (2 ^ i * a) b = 2 ^ i * a + b := by
  obtain ⟨m, rfl⟩ := Int.eq_ofNat_of_zero_le ha
  obtain ⟨k, rfl⟩ := Int.eq_ofNat_of_zero_le hb
  have e : (2 : Int) ^ i * (m : Int) = ((2 ^ i * m : Nat) : Int) := by simp
  have hk : k < 2 ^ i := by
    have e2 : ((2 : Int) ^ i) = ((2 ^ i : Nat) : Int) := by simp
    rw [e2] at hb1
    omega
  rw [e] at h ⊢
  rw [i64_or _ _ (by omega) (by omega), ← Nat.two_pow_add_eq_or_of_lt hk]
  simp

theorem be3 (n : Int) (h0 : 0 ≤ n) (h1 : n ≤ 16777215) :
    bits .or .i64 (bits .or .i64 (IntKind.i64.wrap (IntKind.i64.wrap (n / 65536) * 65536)) (IntKind.i64.wrap (IntKind.i64.wrap (n / 256 % 256) * 256))) (IntKind.i64.wrap (n % 256)) = n := by
  rw [IntWalk.i64_in (n / 65536) (by omega), IntWalk.i64_in (n / 65536 * 65536) (by omega), IntWalk.i64_in (n / 256 % 256) (by omega), IntWalk.i64_in (n / 256 % 256 * 256) (by omega), IntWalk.i64_in (n % 256) (by omega)]
  have e1 := or_add (n / 65536) (n / 256 % 256 * 256) 16 (by omega) (by omega) (by omega) (by omega) (by omega)
  rw [show n / 65536 * 65536 = 2 ^ 16 * (n / 65536) by omega, e1]
  have e2 := or_add (n / 256) (n % 256) 8 (by omega) (by omega) (by omega) (by omega) (by omega)
  rw [show (2 : Int) ^ 16 * (n / 65536) + n / 256 % 256 * 256 = 2 ^ 8 * (n / 256) by omega, e2]
  omega

theorem be4 (n : Int) (h0 : 0 ≤ n) (h1 : n ≤ 4294967295) :
    bits .or .i64 (bits .or .i64 (bits .or .i64 (IntKind.i64.wrap (IntKind.i64.wrap (n / 16777216) * 16777216)) (IntKind.i64.wrap (IntKind.i64.wrap (n / 65536 % 256) * 65536))) (IntKind.i64.wrap (IntKind.i64.wrap (n / 256 % 256) * 256))) (IntKind.i64.wrap (n % 256)) = n := by
  rw [IntWalk.i64_in (n / 16777216) (by omega), IntWalk.i64_in (n / 16777216 * 16777216) (by omega), IntWalk.i64_in (n / 65536 % 256) (by omega), IntWalk.i64_in (n / 65536 % 256 * 65536) (by omega), IntWalk.i64_in (n / 256 % 256) (by omega), IntWalk.i64_in (n / 256 % 256 * 256) (by omega), IntWalk.i64_in (n % 256) (by omega)]
  have e0 := or_add (n / 16777216) (n / 65536 % 256 * 65536) 24 (by omega) (by omega) (by omega) (by omega) (by omega)
  rw [show n / 16777216 * 16777216 = 2 ^ 24 * (n / 16777216) by omega, e0]
  have e1 := or_add (n / 65536) (n / 256 % 256 * 256) 16 (by omega) (by omega) (by omega) (by omega) (by omega)
  rw [show (2 : Int) ^ 24 * (n / 16777216) + n / 65536 % 256 * 65536 = 2 ^ 16 * (n / 65536) by omega, e1]
  have e2 := or_add (n / 256) (n % 256) 8 (by omega) (by omega) (by omega) (by omega) (by omega)
  rw [show (2 : Int) ^ 16 * (n / 65536) + n / 256 % 256 * 256 = 2 ^ 8 * (n / 256) by omega, e2]
  omega
end Go.Proofs.YtjeocmglcgnclaaDoor

/- A row of zero bytes of a given length, made and turned into a string: only the length matters. -/
namespace Go.Proofs.YtjeocmglcgnclaaDoor
open Go.RowKit

theorem big_info : (Tryd.prog.info? 5).map (fun i => (i.zero, i.size, i.bytes)) = some (some (.int .u8 0), 1, 1) := by kernel_rfl
/-- make([]byte, n), then string of it. -/
theorem big_make (n : Nat) (hn : n ≤ 100000) : ∃ (O : Obj) (bs : ByteArray), bs.size = n ∧
    (∀ w : World, (Instr.makeSlice 29 (.int .i64 n) (.int .i64 n)).run Tryd.prog w = .ok (.slice (some ⟨w.heap.size, 0, none⟩) n n) (w.alloc O)) ∧
    ∀ w : World, (convert 29 9 (.slice (some ⟨w.heap.size, 0, none⟩) n n)).run Tryd.prog (w.alloc O) = .ok (.string bs) (w.alloc O) := by
  refine ⟨.cells (madeCells #[.int .u8 0] n) 5, ⟨(List.replicate n 0).toArray⟩, by simp [ByteArray.size], fun w => ?_, fun w => ?_⟩
  · exact run_make_row' 29 5 (.int .u8 0) 1 Tryd.underlying29 big_info rfl .i64 .i64 n (by omega) (by omega) w
  · have hl : (List.replicate n (0 : UInt8)).length = n := by simp
    have h := run_convert_bytes_back (P := Tryd.prog) (w.alloc (.cells (madeCells #[.int .u8 0] n) 5)) _ _ _ ⟨w.heap.size, 0, none⟩ n (List.replicate n 0) Tryd.underlying29 Tryd.underlying5 Tryd.underlying9 (fun j hj => ?_)
    · rw [hl] at h
      exact h
    · rw [hl] at hj
      have e : (⟨w.heap.size, 0, none⟩ : Addr).add j = ⟨w.heap.size, j, none⟩ := by simp [Addr.add]; try omega
      have hs : (madeCells #[.int .u8 0] n).size = n := by simp [madeCells]
      rw [e, (Blk.new w 5 (madeCells #[.int .u8 0] n)).cell j]
      have h0 : j % 1 = 0 := by omega
      simp [madeCells, hj, h0]
theorem big_4096 : ∃ (O : Obj) (bs : ByteArray), bs.size = 4096 ∧
    (∀ w : World, (Instr.makeSlice 29 (.int .i64 4096) (.int .i64 4096)).run Tryd.prog w = .ok (.slice (some ⟨w.heap.size, 0, none⟩) 4096 4096) (w.alloc O)) ∧
    ∀ w : World, (convert 29 9 (.slice (some ⟨w.heap.size, 0, none⟩) 4096 4096)).run Tryd.prog (w.alloc O) = .ok (.string bs) (w.alloc O) := big_make 4096 (by omega)
theorem big_5000 : ∃ (O : Obj) (bs : ByteArray), bs.size = 5000 ∧
    (∀ w : World, (Instr.makeSlice 29 (.int .i64 5000) (.int .i64 5000)).run Tryd.prog w = .ok (.slice (some ⟨w.heap.size, 0, none⟩) 5000 5000) (w.alloc O)) ∧
    ∀ w : World, (convert 29 9 (.slice (some ⟨w.heap.size, 0, none⟩) 5000 5000)).run Tryd.prog (w.alloc O) = .ok (.string bs) (w.alloc O) := big_make 5000 (by omega)
end Go.Proofs.YtjeocmglcgnclaaDoor

/- A scope with several labels through which the run jumps forward only. -/
namespace Go.Proofs.YtjeocmglcgnclaaDoor
open Go Go.RowKit

/-- As Q; by a goto to label l: J l. -/
def jumps (J : Nat → Act → World → Prop) (Q : Exit → Act → World → Prop) : Exit → Act → World → Prop
  | .goto l, a, w => J l a w
  | e, a, w => Q e a w

theorem wp_scope_all {P : Program} {a : Act} {w : World} {Q : Exit → Act → World → Prop} {c : Code} (J : Nat → Act → World → Prop) (μ : Nat → Nat)
    (first : c.wp P (jumps J Q) a w)
    (pass : ∀ l a w, J l a w → ∃ rest, findLabel c l = some rest ∧ rest.wp P (jumps (fun l' a' w' => J l' a' w' ∧ μ l' < μ l) Q) a w) : (Code.scope c).wp P Q a w := by
  intro b k cs
  have key : ∀ n l a w rest, μ l = n → J l a w → findLabel c l = some rest → ∃ e a' w', Q e a' w' ∧ Arrives P (lone (b.at a (.code rest :: .inScope c :: k)) cs w) b k cs e a' w' := by
    intro n
    induction n using Nat.strongRecOn with
    | _ n ih =>
      intro l a w rest hn hJ hf
      obtain ⟨rest', hf', hp⟩ := pass l a w hJ
      rw [hf] at hf'
      injection hf' with hf'
      subst hf'
      obtain ⟨e, a₁, w₁, hq, harr⟩ := hp b (.inScope c :: k) cs
      cases e with
      | normal => exact ⟨.normal, a₁, w₁, hq, Steps.trans harr (.one step_inScope)⟩
      | exit id => exact ⟨.exit id, a₁, w₁, hq, fun k' hk => harr k' (by simp [exitTo, hk])⟩
      | goto l' =>
        obtain ⟨hJ', hlt⟩ := hq
        obtain ⟨rest', hf', _⟩ := pass l' a₁ w₁ hJ'
        obtain ⟨e₂, a₂, w₂, hq₂, harr₂⟩ := ih _ (by omega) l' a₁ w₁ rest' rfl hJ' hf'
        exact ⟨e₂, a₂, w₂, hq₂, .of_steps (harr _ (by simp [gotoIn, hf'])) harr₂⟩
      | ret => exact ⟨_, a₁, w₁, hq, harr⟩
      | panic ch => exact ⟨_, a₁, w₁, hq, harr⟩
      | outgrown => exact ⟨_, a₁, w₁, hq, harr⟩
  obtain ⟨e, a₁, w₁, hq, harr⟩ := first b (.inScope c :: k) cs
  cases e with
  | normal => exact ⟨.normal, a₁, w₁, hq, .head step_scope (Steps.trans harr (.one step_inScope))⟩
  | exit id => exact ⟨.exit id, a₁, w₁, hq, fun k' hk => .head step_scope (harr k' (by simp [exitTo, hk]))⟩
  | goto l' =>
    have hJ' : J l' a₁ w₁ := hq
    obtain ⟨rest', hf', _⟩ := pass l' a₁ w₁ hJ'
    obtain ⟨e₂, a₂, w₂, hq₂, harr₂⟩ := key _ l' a₁ w₁ rest' rfl hJ' hf'
    exact ⟨e₂, a₂, w₂, hq₂, .of_steps (.head step_scope (harr _ (by simp [gotoIn, hf']))) harr₂⟩
  | ret => exact ⟨_, a₁, w₁, hq, .of_steps (.one step_scope) harr⟩
  | panic ch => exact ⟨_, a₁, w₁, hq, .of_steps (.one step_scope) harr⟩
  | outgrown => exact ⟨_, a₁, w₁, hq, .of_steps (.one step_scope) harr⟩
/-- A frame in which some slots hold whatever. -/
theorem frame_some {F : (Nat → Value) → Act} (a : Act) (h : a = F (fun i => a.tmps.getD i undef)) : ∃ us, a = F us := ⟨_, h⟩
end Go.Proofs.YtjeocmglcgnclaaDoor

/- A scope with several labels, through which the run jumps forward and back: a measure over label, frame and world falls at each jump. -/
namespace Go.Proofs.YtjeocmglcgnclaaDoor
open Go Go.RowKit
theorem wp_scope_fall {P : Program} {a : Act} {w : World} {Q : Exit → Act → World → Prop} {c : Code} (J : Nat → Act → World → Prop) (μ : Nat → Act → World → Nat)
    (first : c.wp P (jumps J Q) a w)
    (pass : ∀ l a w, J l a w → ∃ rest, findLabel c l = some rest ∧ rest.wp P (jumps (fun l' a' w' => J l' a' w' ∧ μ l' a' w' < μ l a w) Q) a w) : (Code.scope c).wp P Q a w := by
  intro b k cs
  have key : ∀ n l a w rest, μ l a w = n → J l a w → findLabel c l = some rest → ∃ e a' w', Q e a' w' ∧ Arrives P (lone (b.at a (.code rest :: .inScope c :: k)) cs w) b k cs e a' w' := by
    intro n
    induction n using Nat.strongRecOn with
    | _ n ih =>
      intro l a w rest hn hJ hf
      obtain ⟨rest', hf', hp⟩ := pass l a w hJ
      rw [hf] at hf'
      injection hf' with hf'
      subst hf'
      obtain ⟨e, a₁, w₁, hq, harr⟩ := hp b (.inScope c :: k) cs
      cases e with
      | normal => exact ⟨.normal, a₁, w₁, hq, Steps.trans harr (.one step_inScope)⟩
      | exit id => exact ⟨.exit id, a₁, w₁, hq, fun k' hk => harr k' (by simp [exitTo, hk])⟩
      | goto l' =>
        obtain ⟨hJ', hlt⟩ := hq
        obtain ⟨rest', hf', _⟩ := pass l' a₁ w₁ hJ'
        obtain ⟨e₂, a₂, w₂, hq₂, harr₂⟩ := ih _ (by omega) l' a₁ w₁ rest' rfl hJ' hf'
        exact ⟨e₂, a₂, w₂, hq₂, .of_steps (harr _ (by simp [gotoIn, hf'])) harr₂⟩
      | ret => exact ⟨_, a₁, w₁, hq, harr⟩
      | panic ch => exact ⟨_, a₁, w₁, hq, harr⟩
      | outgrown => exact ⟨_, a₁, w₁, hq, harr⟩
  obtain ⟨e, a₁, w₁, hq, harr⟩ := first b (.inScope c :: k) cs
  cases e with
  | normal => exact ⟨.normal, a₁, w₁, hq, .head step_scope (Steps.trans harr (.one step_inScope))⟩
  | exit id => exact ⟨.exit id, a₁, w₁, hq, fun k' hk => .head step_scope (harr k' (by simp [exitTo, hk]))⟩
  | goto l' =>
    have hJ' : J l' a₁ w₁ := hq
    obtain ⟨rest', hf', _⟩ := pass l' a₁ w₁ hJ'
    obtain ⟨e₂, a₂, w₂, hq₂, harr₂⟩ := key _ l' a₁ w₁ rest' rfl hJ' hf'
    exact ⟨e₂, a₂, w₂, hq₂, .of_steps (.head step_scope (harr _ (by simp [gotoIn, hf']))) harr₂⟩
  | ret => exact ⟨_, a₁, w₁, hq, .of_steps (.one step_scope) harr⟩
  | panic ch => exact ⟨_, a₁, w₁, hq, .of_steps (.one step_scope) harr⟩
  | outgrown => exact ⟨_, a₁, w₁, hq, .of_steps (.one step_scope) harr⟩
end Go.Proofs.YtjeocmglcgnclaaDoor

/- A slice in the midst of a block of the call's own: 's = s[k:]' and 'append(s, ..)' on it. Plain lemmas; each names its own conditions. -/
namespace Go.Proofs.YtjeocmglcgnclaaDoor
open Go.RowKit

/-- v owns n elements xs from some cell of a block from base on; all its capacity lies in that block. -/
def Mid (w : World) (base : Nat) (e : TypeId) (size : Nat) (v : Value) (n : Nat) (xs : List Value) : Prop :=
  xs.length = n * size ∧ ((v = .slice none 0 0 ∧ n = 0) ∨
    ∃ (g o cap : Nat) (cur : Array Value), v = .slice (some ⟨g, o, none⟩) n cap ∧ base ≤ g ∧ w.heap[g]? = some (.cells cur e (0, 0)) ∧ n ≤ cap ∧ cap ≤ maxLen ∧ o + cap * size ≤ cur.size ∧ (cur.toList.drop o).take (n * size) = xs)

section
variable {w w' : World} {base : Nat} {e : TypeId} {size n : Nat} {v : Value} {xs : List Value}

theorem Mid.of_own (h : w.ownsRow base e size v n xs) : Mid w base e size v n xs := by
  refine ⟨h.1, ?_⟩
  rcases h.2 with h1 | ⟨g, cap, cur, h1, h2, h3, h4, h5, h6, h7⟩
  · exact .inl h1
  · exact .inr ⟨g, 0, cap, cur, h1, h2, h3, h4, h5, by omega, by simpa using h7⟩

theorem Mid.shape (h : Mid w base e size v n xs) : ∃ A c, v = .slice A n c ∧ n ≤ c ∧ c ≤ maxLen := by
  rcases h.2 with ⟨h1, rfl⟩ | ⟨g, o, cap, cur, h1, h2, h3, h4, h5, h6, h7⟩
  · exact ⟨none, 0, h1, Nat.le_refl _, by unfold maxLen; omega⟩
  · exact ⟨_, cap, h1, h4, h5⟩

theorem heap_lt {w : World} {g : Nat} {o : Obj} (h : w.heap[g]? = some o) : g < w.heap.size := by
  rcases Nat.lt_or_ge g w.heap.size with h3 | h3
  · exact h3
  · rw [Array.getElem?_eq_none h3] at h; cases h

theorem Mid.lt (h : Mid w base e size v n xs) : ∀ k, v.ownBlock = some k → base ≤ k ∧ k < w.heap.size := by
  intro k hk
  rcases h.2 with ⟨h1, _⟩ | ⟨g, o, cap, cur, h1, h2, h3, h4, h5, h6, h7⟩
  · subst h1; simp [Value.ownBlock] at hk
  · subst h1
    have : g = k := by simpa [Value.ownBlock] using hk
    subst this
    exact ⟨h2, heap_lt h3⟩

theorem Mid.below (h : Mid w base e size v n xs) (hb : Below w.heap.size w w') : Mid w' base e size v n xs := by
  refine ⟨h.1, h.2.imp id ?_⟩
  rintro ⟨g, o, cap, cur, h1, h2, h3, h4⟩
  exact ⟨g, o, cap, cur, h1, h2, by rw [hb.block g (heap_lt h3)]; exact h3, h4⟩
theorem Mid.turned {F : List Nat} (h : Mid w base e size v n xs) (ht : Turned F w w') (hF : ∀ k, v.ownBlock = some k → k ∉ F) : Mid w' base e size v n xs := by
  refine ⟨h.1, h.2.imp id ?_⟩
  rintro ⟨g, o, cap, cur, rfl, h2, h3, h4⟩
  exact ⟨g, o, cap, cur, rfl, h2, by rw [ht.block g (heap_lt h3) (hF g rfl)]; exact h3, h4⟩
theorem Mid.rebase (h : Mid w base e size v n xs) {base' : Nat} (hb : base' ≤ base) : Mid w base' e size v n xs := by
  refine ⟨h.1, h.2.imp id ?_⟩
  rintro ⟨g, o, cap, cur, rfl, h2, h3⟩
  exact ⟨g, o, cap, cur, rfl, Nat.le_trans hb h2, h3⟩
theorem Mid.kept {row : Option Nat} (h : Mid w base e size v n xs) (hg : w.grownBy w' row) (hne : v.ownBlock = none ∨ v.ownBlock ≠ row) : Mid w' base e size v n xs := by
  refine ⟨h.1, h.2.imp id ?_⟩
  rintro ⟨g, o, cap, cur, rfl, h2, h3, h4⟩
  refine ⟨g, o, cap, cur, rfl, h2, ?_, h4⟩
  rw [hg.block g (heap_lt h3) (fun e => ?_)]
  · exact h3
  · rcases hne with h5 | h5
    · simp [Value.ownBlock] at h5
    · exact h5 (by simpa [Value.ownBlock] using e)
theorem Blk.mid_ne {g : Nat} {t : TypeId} {cs : Array Value} (hg : Blk w g t cs) (h : Mid w base e size v n xs) (hne : e ≠ t) : v.ownBlock ≠ some g := by
  rcases h.2 with ⟨rfl, _⟩ | ⟨g', o, cap, cur, rfl, _, hh, _⟩
  · simp [Value.ownBlock]
  · intro he
    have : g' = g := by simpa [Value.ownBlock] using he
    subst this
    unfold Blk at hg
    rw [hg] at hh
    injection hh with hh
    injection hh with _ ht
    exact hne ht.symm

/-- It reads as its elements. -/
theorem Mid.rd {A : Option Addr} {c : Nat} (h : Mid w base e size (.slice A n c) n xs) : Rd w size A n xs := by
  refine ⟨h.1, fun hn => ?_⟩
  rcases h.2 with ⟨_, h0⟩ | ⟨g, o, cap, cur, h1, h2, h3, h4, h5, h6, h7⟩
  · omega
  · injection h1 with h1
    refine ⟨g, o, h1, fun j u hu => ?_⟩
    rw [← h7] at hu
    have hj : j < n * size := by
      have := (List.getElem?_eq_some_iff.1 hu).1
      simp at this
      omega
    rw [List.getElem?_take, if_pos hj, List.getElem?_drop] at hu
    simpa [World.cell?, h3] using hu

/-- 's[k:]'. -/
theorem Mid.off {A : Option Addr} {c k : Nat} (h : Mid w base e size (.slice A n c) n xs) (hk : k ≤ n) : Mid w base e size (.slice (offA A k c size) (n - k) (c - k)) (n - k) (xs.drop (k * size)) := by
  refine ⟨by rw [List.length_drop, h.1, Nat.sub_mul], ?_⟩
  rcases h.2 with ⟨h1, rfl⟩ | ⟨g, o, cap, cur, h1, h2, h3, h4, h5, h6, h7⟩
  · injection h1 with h1 h8 h9
    subst h1 h9
    have : k = 0 := by omega
    subst this
    exact .inl ⟨by rw [offA_zero], rfl⟩
  · injection h1 with h1 h8 h9
    subst h1 h9
    refine .inr ?_
    unfold offA
    by_cases hck : c = k
    · rw [if_pos hck]
      have hnk : n = k := by omega
      subst hck
      refine ⟨g, o, c - c, cur, rfl, h2, h3, by omega, by omega, by rw [Nat.sub_self, Nat.zero_mul]; omega, ?_⟩
      rw [hnk, Nat.sub_self, Nat.zero_mul, List.take_zero, List.drop_of_length_le (by rw [h.1, hnk]; exact Nat.le_refl _)]
    · rw [if_neg hck]
      refine ⟨g, o + k * size, c - k, cur, by simp [add_plain], h2, h3, by omega, by omega, ?_, ?_⟩
      · rw [Nat.sub_mul]
        have : k * size ≤ c * size := Nat.mul_le_mul_right _ (by omega)
        omega
      · rw [← h7, List.drop_take, List.drop_drop, Nat.sub_mul]

theorem Mid.len_le {A : Option Addr} {c : Nat} (h : Mid w base e size (.slice A n c) n xs) : n ≤ c := by
  obtain ⟨A', c', e1, hle, _⟩ := h.shape
  injection e1 with _ _ e1
  omega

/-- 'append(v, x...)' on such a row. -/
theorem run_app_mid {P : Program} (w : World) (base : Nat) (t ty e : TypeId) (i : TypeInfo) (z : Value) (size bytes : Nat) (ht : P.underlying t = some (.slice e)) (hi : P.info? e = some i) (hz : i.zero = some z)
    (hsize : i.size = size) (hby : i.bytes = bytes) (hzs : z.cells.size = size) (hsz : 0 < size)
    (v : Value) (n : Nat) (xs : List Value) (hown : Mid w base e size v n xs)
    (A : Option Addr) (m c : Nat) (news : List Value) (hr : Rd w size A m news) (h1 : ∀ u ∈ news, u.oneCell' = true)
    (hbytes : (n + m) * bytes ≤ 140737488355328) (h63 : n + m ≤ 140737488355328) (hbase : base ≤ w.heap.size) :
    ∃ A' c' w', (Builtin.append_ #[t, t] ty #[v, .slice A m c]).run P w = .ok (.slice A' (n + m) c') w' ∧ Mid w' base e size (.slice A' (n + m) c') (n + m) (xs ++ news) ∧ w.grownBy w' v.ownBlock ∧
      ((Value.slice A' (n + m) c').ownBlock = v.ownBlock ∨ ∀ k, (Value.slice A' (n + m) c').ownBlock = some k → w.heap.size ≤ k) := by
  rcases hown.2 with ⟨rfl, rfl⟩ | ⟨g, o, cap, cur, rfl, hbg, hg, hnc, hcm, hcs, htake⟩
  · have hx : xs = [] := List.eq_nil_of_length_eq_zero (by rw [hown.1, Nat.zero_mul])
    subst hx
    obtain ⟨A', c', w', h2, h3, h4, h5⟩ := run_app (P := P) w base t ty e i z size bytes ht hi hz hsize hby hzs hsz (.slice none 0 0) 0 [] (World.ownsRow_nil _ _ _ _) A m c news hr h1 hbytes h63 hbase
    exact ⟨A', c', w', h2, Mid.of_own h3, h4, h5.imp id fun h k hk => by rw [h] at hk; injection hk with hk; omega⟩
  · have hlen : (xs ++ news).length = (n + m) * size := by rw [List.length_append, hown.1, hr.1, Nat.add_mul]
    rcases A with _ | ad
    · obtain ⟨rfl, rfl⟩ := Rd.none_zero hr
      refine ⟨some ⟨g, o, none⟩, cap, w, ?_, by simpa using hown, World.grownBy.refl w _, .inl rfl⟩
      simp [Builtin.append_, run_underlying ht, sizeOf, typeInfo, hi, Builtin.lenOf, Builtin.firstCells, hnc, storeCells]
    · have hcells : ∀ j u, news[j]? = some u → w.cell? (ad.add j) = some u := by
        intro j u hu
        rcases Nat.eq_zero_or_pos m with h0 | h0
        · subst h0
          have hn : news = [] := List.eq_nil_of_length_eq_zero (by rw [hr.1, Nat.zero_mul])
          subst hn
          simp at hu
        · obtain ⟨b, o', h, hc⟩ := hr.2 h0
          injection h with h
          subst h
          rw [add_plain]
          exact hc j u hu
      by_cases hroom : n + m ≤ cap
      · have hfit : o + n * size + news.length ≤ cur.size := by
          rw [hr.1]
          have : (n + m) * size ≤ cap * size := Nat.mul_le_mul_right _ hroom
          rw [Nat.add_mul] at this
          omega
        subst hsize
        have hf := run_firstCells_some (P := P) w i.size m ad m c news hr.1 hcells
        have hst := run_storeCells_at P g (o + n * i.size) e news 0 cur w hg (by simpa using hfit) h1
        simp only [Nat.add_zero] at hst
        have hrun : (Builtin.append_ #[t, t] ty #[.slice (some ⟨g, o, none⟩) n cap, .slice (some ad) m c]).run P w =
            .ok (.slice (some ⟨g, o, none⟩) (n + m) cap) (w.setRow g (cur.toList.take (o + n * i.size) ++ news ++ cur.toList.drop (o + n * i.size + news.length)).toArray) := by
          simp [Builtin.append_, run_underlying ht, sizeOf, typeInfo, hi, Builtin.lenOf, hroom, hf, Addr.add_lit, hst]
        refine ⟨_, _, _, hrun, ⟨hlen, .inr ⟨g, o, cap, _, rfl, hbg, setRow_heap w g cur _ e _ hg, hroom, hcm, ?_, ?_⟩⟩, ⟨rfl, rfl, rfl, by simp, fun k _ hk => setRow_other w g k _ (fun e => hk (by simp [Value.ownBlock, e]))⟩, .inl rfl⟩
        · simp only [List.size_toArray, List.length_append, List.length_take, List.length_drop, Array.length_toList]
          omega
        · rw [← htake]
          have hle : o ≤ cur.toList.length := by simp; omega
          rw [List.append_assoc, List.drop_append_of_le_length (by simp; omega), List.drop_take, Nat.add_sub_cancel_left, ← List.append_assoc]
          have hl2 : ((cur.toList.drop o).take (n * i.size) ++ news).length = (n + m) * i.size := by rw [htake]; exact hlen
          rw [← hl2]
          exact List.take_left
      · have hrd := Mid.rd hown
        have holds : ∀ j u, xs[j]? = some u → w.cell? ((⟨g, o, none⟩ : Addr).add j) = some u := by
          intro j u hu
          rcases Nat.eq_zero_or_pos n with h0 | h0
          · have hx : xs = [] := List.eq_nil_of_length_eq_zero (by rw [hown.1, h0, Nat.zero_mul])
            subst hx
            simp at hu
          · obtain ⟨b, o', h, hc⟩ := hrd.2 h0
            injection h with h
            rw [h, add_plain]
            exact hc j u hu
        obtain ⟨v', w', hrun, r1, r2⟩ := run_append_arg_grows (P := P) w t ty e i z size bytes ht hi hz hsize hby hzs hsz ⟨g, o, none⟩ n cap xs hown.1 holds ad m c news hr.1 hcells (by omega) (by simp only [maxLen]; omega) hbytes
        obtain ⟨A', c', rfl, _⟩ := own_shape r1
        exact ⟨A', c', w', hrun, (Mid.of_own r1).rebase hbase, ⟨r2.os, r2.tape, r2.output, r2.size, fun k hk _ => r2.block k hk (by simp)⟩, .inr fun k hk => (r1.lt k hk).1⟩

/-- The same at a plain list of operations. -/
theorem wpList_mid {P : Program} (w : World) {ops : Array Oper} {rest : List Oper} {o : Oper} {a : Act} {Q : Exit → Act → World → Prop} (hgd : o.guard = none) (s x : Operand) (t : TypeId)
    (ho : o.op = .call { callee := .builtin .append, args := #[s, x], argTypes := #[t, t] })
    (base : Nat) (e : TypeId) (i : TypeInfo) (z : Value) (size bytes : Nat) (ht : P.underlying t = some (.slice e)) (hi : P.info? e = some i) (hz : i.zero = some z)
    (hsize : i.size = size) (hby : i.bytes = bytes) (hzs : z.cells.size = size) (hsz : 0 < size)
    (v : Value) (n : Nat) (xs : List Value) (hs : a.eval s = v) (hown : Mid w base e size v n xs)
    (A : Option Addr) (m c : Nat) (news : List Value) (hx : a.eval x = .slice A m c) (hr : Rd w size A m news) (h1 : ∀ u ∈ news, u.oneCell' = true)
    (hbytes : (n + m) * bytes ≤ 140737488355328) (h63 : n + m ≤ 140737488355328) (hbase : base ≤ w.heap.size)
    (h : ∀ A' c' w', Mid w' base e size (.slice A' (n + m) c') (n + m) (xs ++ news) → w.grownBy w' v.ownBlock →
      ((Value.slice A' (n + m) c').ownBlock = v.ownBlock ∨ ∀ k, (Value.slice A' (n + m) c').ownBlock = some k → w.heap.size ≤ k) → wpList P ops Q rest (a.put o.dst (.slice A' (n + m) c')) w') : wpList P ops Q (o :: rest) a w :=
  wpList_plain hgd fun K hK => by
    obtain ⟨A', c', w', hrun, h2, h3, h4⟩ := run_app_mid (P := P) w base t o.type e i z size bytes ht hi hz hsize hby hzs hsz v n xs hown A m c news hr h1 hbytes h63 hbase
    unfold Oper.wp execOp
    simp only [ho, resolve, invoke, builtin, Sem.run_bind, Sem.run_pure, Result.andThen_ok, List.map_toArray, List.map_cons, List.map_nil, hs, hx, hrun]
    exact hK _ _ (h A' c' w' h2 h3 h4)

/-- An append on such a row in the lexical walk of a drawn region. -/
theorem mix_mid {P : Program} {w : World} {ops : Array Oper} {R : Act → World → Prop} {rest : List Oper} {d : Option Tmp} {s x : Operand} {t ty : TypeId} {pos : String} {after : Array Edge} {gd : Option (Nat × Bool)} {a : Act}
    (base : Nat) (e : TypeId) (i : TypeInfo) (z : Value) (size bytes : Nat) (ht : P.underlying t = some (.slice e)) (hi : P.info? e = some i) (hz : i.zero = some z)
    (hsize : i.size = size) (hby : i.bytes = bytes) (hzs : z.cells.size = size) (hsz : 0 < size)
    (v : Value) (n : Nat) (xs : List Value) (hown : Mid w base e size v n xs)
    (A : Option Addr) (m c : Nat) (news : List Value) (hr : Rd w size A m news) (hs : a.eval s = v) (hx : a.eval x = .slice A m c) (h1 : ∀ u ∈ news, u.oneCell' = true)
    (hbytes : (n + m) * bytes ≤ 140737488355328) (h63 : n + m ≤ 140737488355328) (hbase : base ≤ w.heap.size)
    (hw : Region.wanted (Oper.mk d (.call { callee := .builtin .append, args := #[s, x], argTypes := #[t, t] }) ty pos after gd) (yielded ops a.tmps) = true)
    (h : ∀ A' c' w', Mid w' base e size (.slice A' (n + m) c') (n + m) (xs ++ news) → w.grownBy w' v.ownBlock →
      ((Value.slice A' (n + m) c').ownBlock = v.ownBlock ∨ ∀ k, (Value.slice A' (n + m) c').ownBlock = some k → w.heap.size ≤ k) → wpMix P (fun _ => True) ops kd R rest (a.put d (.slice A' (n + m) c')) w') :
    wpMix P (fun _ => True) ops kd R (Oper.mk d (.call { callee := .builtin .append, args := #[s, x], argTypes := #[t, t] }) ty pos after gd :: rest) a w := by
  simp only [wpMix]
  rw [if_pos hw, if_neg (show ¬ kd (.call { callee := .builtin .append, args := #[s, x], argTypes := #[t, t] }) = 0 from fun h => Nat.noConfusion (show (2 : Nat) = 0 from h)), if_neg (show ¬ kd (.call { callee := .builtin .append, args := #[s, x], argTypes := #[t, t] }) = 1 from fun h => Nat.noConfusion (Nat.succ.inj (show (2 : Nat) = 1 from h)))]
  obtain ⟨A', c', w', hrun, h2, h3, h4⟩ := run_app_mid (P := P) w base t ty e i z size bytes ht hi hz hsize hby hzs hsz v n xs hown A m c news hr h1 hbytes h63 hbase
  unfold Oper.wp execOp
  simp only [resolve, invoke, builtin, Sem.run_bind, Sem.run_pure, Result.andThen_ok, List.map_toArray, List.map_cons, List.map_nil, hs, hx, hrun]
  exact ⟨trivial, h A' c' w' h2 h3 h4⟩

/-- The same at a step of a region that draws its order, the operation written out. -/
theorem stepL_mid {P : Program} {w : World} {ops : Array Oper} {d : Option Tmp} {s x : Operand} {t ty : TypeId} {pos : String} {after : Array Edge} {a : Act} {K : Act → World → Prop} {Q : Exit → Act → World → Prop} {E : Prop}
    (base : Nat) (e : TypeId) (i : TypeInfo) (z : Value) (size bytes : Nat) (ht : P.underlying t = some (.slice e)) (hi : P.info? e = some i) (hz : i.zero = some z)
    (hsize : i.size = size) (hby : i.bytes = bytes) (hzs : z.cells.size = size) (hsz : 0 < size)
    (v : Value) (n : Nat) (xs : List Value) (hown : Mid w base e size v n xs)
    (A : Option Addr) (m c : Nat) (news : List Value) (hr : Rd w size A m news) (hs : a.eval s = v) (hx : a.eval x = .slice A m c) (h1 : ∀ u ∈ news, u.oneCell' = true)
    (hbytes : (n + m) * bytes ≤ 140737488355328) (h63 : n + m ≤ 140737488355328) (hbase : base ≤ w.heap.size)
    (h : ∀ A' c' w', Mid w' base e size (.slice A' (n + m) c') (n + m) (xs ++ news) → w.grownBy w' v.ownBlock →
      ((Value.slice A' (n + m) c').ownBlock = v.ownBlock ∨ ∀ k, (Value.slice A' (n + m) c').ownBlock = some k → w.heap.size ≤ k) → K (a.put d (.slice A' (n + m) c')) w') :
    if Region.wanted (Oper.mk d (.call { callee := .builtin .append, args := #[s, x], argTypes := #[t, t] }) ty pos after none) (yielded ops a.tmps) = true
      then Oper.wp P (Oper.mk d (.call { callee := .builtin .append, args := #[s, x], argTypes := #[t, t] }) ty pos after none) a w K Q else E := by
  have hw : Region.wanted (Oper.mk d (.call { callee := .builtin .append, args := #[s, x], argTypes := #[t, t] }) ty pos after none) (yielded ops a.tmps) = true := by simp [Region.wanted]
  rw [if_pos hw]
  obtain ⟨A', c', w', hrun, h2, h3, h4⟩ := run_app_mid (P := P) w base t ty e i z size bytes ht hi hz hsize hby hzs hsz v n xs hown A m c news hr h1 hbytes h63 hbase
  unfold Oper.wp execOp
  simp only [resolve, invoke, builtin, Sem.run_bind, Sem.run_pure, Result.andThen_ok, List.map_toArray, List.map_cons, List.map_nil, hs, hx, hrun]
  exact h A' c' w' h2 h3 h4
end
end Go.Proofs.YtjeocmglcgnclaaDoor

/- Fields: a name, a value, and a mark; how they lie in memory, and what they take. -/
namespace Go.Proofs.YtjeocmglcgnclaaDoor
open Go.RowKit

structure Fd where
  n : ByteArray
  v : ByteArray
  x : Bool
def Fd.cells (f : Fd) : List Value := [.string f.n, .string f.v, .bool f.x]
abbrev Fd.val (f : Fd) : Value := .agg #[.string f.n, .string f.v, .bool f.x]
def Fd.size (f : Fd) : Nat := f.n.size + f.v.size + 32
/-- Cells of fields, one behind another. -/
def flat (l : List Fd) : List Value := l.flatMap Fd.cells
theorem flat_len (l : List Fd) : (flat l).length = l.length * 3 := by
  unfold flat
  induction l with
  | nil => rfl
  | cons f l ih => rw [List.flatMap_cons, List.length_append, ih]; simp [Fd.cells]; omega
theorem flat_append (l l' : List Fd) : flat (l ++ l') = flat l ++ flat l' := by simp [flat]
theorem flat_drop (l : List Fd) (k : Nat) : (flat l).drop (k * 3) = flat (l.drop k) := by
  induction l generalizing k with
  | nil => simp [flat]
  | cons f l ih =>
    cases k with
    | zero => simp
    | succ k =>
      rw [List.drop_succ_cons, ← ih k, show flat (f :: l) = f.cells ++ flat l from rfl, show (k + 1) * 3 = f.cells.length + k * 3 by simp [Fd.cells]; omega, ← List.drop_drop, List.drop_left]
theorem flat_take (l : List Fd) (k : Nat) : (flat l).take (k * 3) = flat (l.take k) := by
  induction l generalizing k with
  | nil => simp [flat]
  | cons f l ih =>
    cases k with
    | zero => simp [flat]
    | succ k =>
      rw [List.take_succ_cons, show flat (f :: l) = f.cells ++ flat l from rfl, show flat (f :: l.take k) = f.cells ++ flat (l.take k) from rfl, ← ih k]
      rw [show (k + 1) * 3 = f.cells.length + k * 3 by simp [Fd.cells]; omega, List.take_length_add_append]
theorem flat_at {l : List Fd} {i : Nat} {f : Fd} (h : l[i]? = some f) : (flat l)[i * 3]? = some (.string f.n) ∧ (flat l)[i * 3 + 1]? = some (.string f.v) ∧ (flat l)[i * 3 + 2]? = some (.bool f.x) := by
  induction l generalizing i with
  | nil => simp at h
  | cons f0 l ih =>
    cases i with
    | zero =>
      have e : f0 = f := by simpa using h
      subst e
      exact ⟨rfl, rfl, rfl⟩
    | succ i =>
      have := ih (i := i) (by simpa using h)
      rw [show flat (f0 :: l) = f0.cells ++ flat l from rfl]
      have hc : f0.cells.length = 3 := rfl
      rw [List.getElem?_append_right (by rw [hc]; omega), List.getElem?_append_right (by rw [hc]; omega), List.getElem?_append_right (by rw [hc]; omega), hc]
      rw [show (i + 1) * 3 - 3 = i * 3 by omega, show (i + 1) * 3 + 1 - 3 = i * 3 + 1 by omega, show (i + 1) * 3 + 2 - 3 = i * 3 + 2 by omega]
      exact this
theorem flat_one (l : List Fd) : ∀ u ∈ flat l, u.oneCell' = true := by
  intro u hu
  obtain ⟨f, _, h⟩ := List.mem_flatMap.1 hu
  simp [Fd.cells] at h
  rcases h with rfl | rfl | rfl <;> rfl

/-- What fields take. -/
def total (l : List Fd) : Nat := (l.map Fd.size).sum
theorem total_cons (f : Fd) (l : List Fd) : total (f :: l) = f.size + total l := by simp [total]
theorem total_append (l l' : List Fd) : total (l ++ l') = total l + total l' := by simp [total]

/-- A slice of fields. -/
def Fs (w : World) (A : Option Addr) (n : Nat) (l : List Fd) : Prop := Rd w 3 A n (flat l)
theorem Fs.len {w : World} {A : Option Addr} {n : Nat} {l : List Fd} (h : Fs w A n l) : l.length = n := by
  have := h.1
  rw [flat_len] at this
  omega
theorem Fs.at_ {w : World} {A : Option Addr} {n : Nat} {l : List Fd} (h : Fs w A n l) {i : Nat} (hi : i < n) : ∃ b o f, A = some ⟨b, o, none⟩ ∧ l[i]? = some f ∧ w.cell? ⟨b, o + i * 3, none⟩ = some (.string f.n) ∧ w.cell? ⟨b, o + i * 3 + 1, none⟩ = some (.string f.v) ∧ w.cell? ⟨b, o + i * 3 + 2, none⟩ = some (.bool f.x) := by
  obtain ⟨b, o, e, hc⟩ := h.2 (by omega)
  have hl : i < l.length := by have := h.len; omega
  obtain ⟨h0, h1, h2⟩ := flat_at (List.getElem?_eq_getElem hl)
  exact ⟨b, o, l[i], e, List.getElem?_eq_getElem hl, hc _ _ h0, hc _ _ h1, hc _ _ h2⟩
theorem Fs.below {w w' : World} {A : Option Addr} {n : Nat} {l : List Fd} (h : Fs w A n l) (hb : Below w.heap.size w w') : Fs w' A n l := Rd.below h hb

set_option maxHeartbeats 400000 in
set_option maxRecDepth 100000 in
theorem size_any (f : Fd) (w : World) (h : f.size ≤ 70368744177664) :
    Calls Tryd.prog 63 #[f.val] w fun e w' => e = .returned (.int .i64 (f.size : Nat)) ∧ Below w.heap.size w w' := by
  obtain ⟨a, b, x⟩ := f
  simp only [Fd.size] at h ⊢
  go_enter Tryd.func63, Tryd.ntmps63
  go_wp2_with fail
  go_ret
  exact ⟨by first | rfl | (congr 2; omega), (Below.refl _ _).alloc (Nat.le_refl _) _⟩
set_option maxHeartbeats 400000 in
set_option maxRecDepth 100000 in
theorem rsize_any (f : Fd) (w : World) (h : f.size ≤ 70368744177664) :
    Calls Tryd.prog 77 #[f.val] w fun e w' => e = .returned (.int .i64 (f.size : Nat)) ∧ Below w.heap.size w w' := by
  obtain ⟨a, b, x⟩ := f
  simp only [Fd.size] at h ⊢
  go_enter Tryd.func77, Tryd.ntmps77
  go_wp2_with fail
  go_ret
  exact ⟨by first | rfl | (congr 2; omega), (Below.refl _ _).alloc (Nat.le_refl _) _⟩
end Go.Proofs.YtjeocmglcgnclaaDoor
