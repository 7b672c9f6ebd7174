/- What a frame's body says: its values, and how a call hands them back. -/
import Derived.Test.YtdiahjeplaegnaaTurn
import Derived.Test.YtdiahjeplaegnaaBytesFn
import Derived.Test.YtdiahjeplaegnaaBits
import Derived.Outline
namespace Go.Proofs.Ytdiahjeplaegnaa
open Go.RowKit

def pv (Ad : Option Addr) (nd cd : Nat) (pad code last step : Int) (As : Option Addr) (ns cs : Nat) (e a w : Bool) : Value :=
  .agg #[.slice Ad nd cd, .int .i64 pad, .int .i64 code, .int .i64 last, .int .i64 step, .slice As ns cs, .bool e, .bool a, .bool w]
def ft (b c : Bool) (k : Int) : Value := .agg #[.bool b, .bool c, .int .i64 k]
/-- What Read answers, in plain words. -/
structure PR where
  d : List UInt8 := []
  pad : Int := 0
  code : Int := 0
  last : Int := 0
  step : Int := 0
  sets : List (Int × Int) := []
  e : Bool := false
  a : Bool := false
  w : Bool := false
  bad : Bool := false
  conn : Bool := false
  fc : Int := 0
def connP (k : Int) : PR := { bad := true, conn := true, fc := k }
def streamP (k : Int) : PR := { bad := true, fc := k }
def setCells (l : List (Int × Int)) : List Value := l.flatMap fun x => [.int .i64 x.1, .int .i64 x.2]
def Sts (w : World) (A : Option Addr) (n : Nat) (l : List (Int × Int)) : Prop := Rd w 2 A n (setCells l)
theorem Sts.nil (w : World) (A : Option Addr) : Sts w A 0 [] := Rd.nil w 2 A
theorem setCells_len (l : List (Int × Int)) : (setCells l).length = l.length * 2 := by
  induction l with
  | nil => rfl
  | cons x l ih =>
    have : setCells (x :: l) = [.int .i64 x.1, .int .i64 x.2] ++ setCells l := rfl
    rw [this, List.length_append, ih]
    simp
    omega
theorem Sts.len {w : World} {A : Option Addr} {n : Nat} {l : List (Int × Int)} (h : Sts w A n l) : l.length = n := by
  have := h.1
  rw [setCells_len] at this
  omega
/-- It lies above what was there. -/
def Above (w : World) (A : Option Addr) : Prop := ∀ ad, A = some ad → w.heap.size ≤ ad.block
theorem Above.none (w : World) : Above w none := fun _ h => by cases h
theorem Above.own {w w0 : World} {e : TypeId} {size n c m : Nat} {A : Option Addr} {xs : List Value} (h : w.ownsRow m e size (.slice A n c) n xs) (hm : w0.heap.size ≤ m) : Above w0 A := fun ad he => by
  subst he
  have := (h.lt ad.block rfl).1
  omega
theorem Above.off {w : World} {A : Option Addr} (h : Above w A) {F : List Nat} (hF : ∀ b ∈ F, b < w.heap.size) : Off A F := fun ad he hm => by
  have := h ad he
  have := hF _ hm
  omega
theorem Above.le {w w0 : World} {A : Option Addr} (h : Above w A) (hw : w0.heap.size ≤ w.heap.size) : Above w0 A := fun ad he => Nat.le_trans hw (h ad he)
def PartPost (P : PR) (w : World) (e : Ending) (w' : World) : Prop :=
  ∃ (Ad : Option Addr) (nd cd : Nat) (As : Option Addr) (ns cs : Nat), e = .returned (.tuple #[pv Ad nd cd P.pad P.code P.last P.step As ns cs P.e P.a P.w, ft P.bad P.conn P.fc]) ∧ Bs w' Ad nd P.d ∧ Sts w' As ns P.sets ∧ Above w Ad ∧ Above w As ∧ Below w.heap.size w w'
theorem PartPost.plain {P : PR} {w w' : World} (hd : P.d = []) (hs : P.sets = []) (hb : Below w.heap.size w w') :
    PartPost P w (.returned (.tuple #[pv none 0 0 P.pad P.code P.last P.step none 0 0 P.e P.a P.w, ft P.bad P.conn P.fc])) w' :=
  ⟨none, 0, 0, none, 0, 0, rfl, by rw [hd]; exact Bs.nil _ _, by rw [hs]; exact Sts.nil _ _, Above.none _, Above.none _, hb⟩

theorem step_set {w : World} {p : Nat} {T : TypeId} {cs : Array Value} (i : Nat) (v : Value) (h : Blk w p T cs) : ∃ w1, w.setCell ⟨p, i, none⟩ v = w1 ∧ Blk w1 p T (cs.setIfInBounds i v) ∧ Turned [p] w w1 :=
  ⟨_, rfl, h.set_ i v, (Turned.refl [p] w).setCell (p := ⟨p, i, none⟩) (by simp) v⟩
theorem t_on {w w1 w2 : World} {p : Nat} (h : Turned [p] w w1) (k : Turned [p] w1 w2) : Turned [p] w w2 := h.trans k (fun _ hb => .inl hb)

set_option maxHeartbeats 1000000 in
/-- A call that stored a part and a fault into its results. -/
theorem part_end {fn : Func} {R : Ending → World → Prop} {tm : Array Value} {w : World} {p q : Nat} {cs ds : Array Value} {v0 v1 v2 v3 v4 v5 v6 v7 v8 u0 u1 u2 : Value}
    (hfn : fn.results = #[.cell 2 28, .cell 3 30]) (h2 : tm.getD 2 undef = .pointer (some ⟨p, 0, none⟩)) (h3 : tm.getD 3 undef = .pointer (some ⟨q, 0, none⟩))
    (hp : Blk w p 28 cs) (hcs : cs.size = 9) (hq : Blk w q 30 ds) (hds : ds.size = 3) (hne : p ≠ q)
    (hR : ∀ w', Turned [p, q] w w' → R (.returned (.tuple #[.agg #[v0, v1, v2, v3, v4, v5, v6, v7, v8], .agg #[u0, u1, u2]])) w') :
    bodyPost Try.prog fn R .ret { tmps := tm, defers := [] } ((((((((((((w.setCell ⟨p, 0, none⟩ v0).setCell ⟨p, 1, none⟩ v1).setCell ⟨p, 2, none⟩ v2).setCell ⟨p, 3, none⟩ v3).setCell ⟨p, 4, none⟩ v4).setCell ⟨p, 5, none⟩ v5).setCell ⟨p, 6, none⟩ v6).setCell ⟨p, 7, none⟩ v7).setCell ⟨p, 8, none⟩ v8).setCell ⟨q, 0, none⟩ u0).setCell ⟨q, 1, none⟩ u1).setCell ⟨q, 2, none⟩ u2) := by
  obtain ⟨w1, e1, h1p, t1⟩ := step_set 0 v0 hp
  rw [e1]
  obtain ⟨w2, e2, h2p, t2⟩ := step_set 1 v1 h1p
  rw [e2]
  obtain ⟨w3, e3, h3p, t3⟩ := step_set 2 v2 h2p
  rw [e3]
  obtain ⟨w4, e4, h4p, t4⟩ := step_set 3 v3 h3p
  rw [e4]
  obtain ⟨w5, e5, h5p, t5⟩ := step_set 4 v4 h4p
  rw [e5]
  obtain ⟨w6, e6, h6p, t6⟩ := step_set 5 v5 h5p
  rw [e6]
  obtain ⟨w7, e7, h7p, t7⟩ := step_set 6 v6 h6p
  rw [e7]
  obtain ⟨w8, e8, h8p, t8⟩ := step_set 7 v7 h7p
  rw [e8]
  obtain ⟨w9, e9, h9p, t9⟩ := step_set 8 v8 h8p
  rw [e9]
  have tp := (t_on (t_on (t_on (t_on (t_on (t_on (t_on (t_on t1 t2) t3) t4) t5) t6) t7) t8) t9)
  have hq0 := hq.turned tp (by simp; omega)
  obtain ⟨z1, f1, g1q, s1⟩ := step_set 0 u0 hq0
  rw [f1]
  obtain ⟨z2, f2, g2q, s2⟩ := step_set 1 u1 g1q
  rw [f2]
  obtain ⟨z3, f3, g3q, s3⟩ := step_set 2 u2 g2q
  rw [f3]
  have tq := t_on (t_on s1 s2) s3
  have hA2 := h9p.turned tq (by simp; omega)
  have hB := g3q
  have ht : Turned [p, q] w z3 := (tp.mono (by simp)).trans (tq.mono (G := [p, q]) (by simp)) (fun b hb => .inl hb)
  have a0 := hA2.cell 0
  have a1 := hA2.cell 1
  have a2 := hA2.cell 2
  have a3 := hA2.cell 3
  have a4 := hA2.cell 4
  have a5 := hA2.cell 5
  have a6 := hA2.cell 6
  have a7 := hA2.cell 7
  have a8 := hA2.cell 8
  have b0 := hB.cell 0
  have b1 := hB.cell 1
  have b2 := hB.cell 2
  rw [Array.getD_eq_getD_getElem?] at h2 h3
  simp [hcs] at a0 a1 a2 a3 a4 a5 a6 a7 a8
  simp [hds] at b0 b1 b2
  exact bodyPost_ret (v := .tuple #[.agg #[v0, v1, v2, v3, v4, v5, v6, v7, v8], .agg #[u0, u1, u2]]) (by simp [results, hfn, go_sem, h2, h3, a0, a1, a2, a3, a4, a5, a6, a7, a8, b0, b1, b2]) rfl (hR _ ht)

/-- Byte i as a number. -/
def nb (l : List UInt8) (i : Nat) : Int := ((l.getD i 0).toNat : Int)
theorem nb_le (l : List UInt8) (i : Nat) : 0 ≤ nb l i ∧ nb l i < 256 := by
  have := (l.getD i 0).toNat_lt
  unfold nb
  omega
theorem nb_cell {w : World} {b o n : Nat} {l : List UInt8} (h : Bs w (some ⟨b, o, none⟩) n l) {i : Nat} (hi : i < n) : w.cell? ⟨b, o + i, none⟩ = some (.int .u8 (nb l i)) := by
  obtain ⟨b', o', x, hA, hx, hc⟩ := h.at_ hi
  injection hA with hA
  injection hA with h1 h2
  subst h1 h2
  rw [hc]
  unfold bv nb
  rw [List.getD_eq_getElem?_getD, hx]
  rfl
theorem nb_drop (l : List UInt8) (k i : Nat) : nb (l.drop k) i = nb l (k + i) := by
  unfold nb
  rw [List.getD_eq_getElem?_getD, List.getD_eq_getElem?_getD, List.getElem?_drop]
/-- The first four bytes as a number. -/
def n4 (l : List UInt8) : Int := nb l 0 * 16777216 + nb l 1 * 65536 + nb l 2 * 256 + nb l 3
theorem n4_le (l : List UInt8) : 0 ≤ n4 l ∧ n4 l < 4294967296 := by
  have h0 := nb_le l 0
  have h1 := nb_le l 1
  have h2 := nb_le l 2
  have h3 := nb_le l 3
  unfold n4
  omega
theorem n4b (l : List UInt8) : bits .or .i64 (bits .or .i64 (bits .or .i64 (IntKind.i64.wrap (IntKind.i64.wrap (nb l 0) * 16777216)) (IntKind.i64.wrap (IntKind.i64.wrap (nb l 1) * 65536))) (IntKind.i64.wrap (IntKind.i64.wrap (nb l 2) * 256))) (IntKind.i64.wrap (nb l 3)) = n4 l := by
  have h0 := nb_le l 0
  have h1 := nb_le l 1
  have h2 := nb_le l 2
  have h3 := nb_le l 3
  rw [IntWalk.i64_in (nb l 0) (by omega), IntWalk.i64_in (nb l 0 * 16777216) (by omega), IntWalk.i64_in (nb l 1) (by omega), IntWalk.i64_in (nb l 1 * 65536) (by omega), IntWalk.i64_in (nb l 2) (by omega), IntWalk.i64_in (nb l 2 * 256) (by omega), IntWalk.i64_in (nb l 3) (by omega)]
  have e0 := or_add (nb l 0) (nb l 1 * 65536) 24 (by omega) (by omega) (by omega) (by omega) (by omega)
  rw [show nb l 0 * 16777216 = 2 ^ 24 * nb l 0 by omega, e0]
  have e1 := or_add (nb l 0 * 256 + nb l 1) (nb l 2 * 256) 16 (by omega) (by omega) (by omega) (by omega) (by omega)
  rw [show (2 : Int) ^ 24 * nb l 0 + nb l 1 * 65536 = 2 ^ 16 * (nb l 0 * 256 + nb l 1) by omega, e1]
  have e2 := or_add (nb l 0 * 65536 + nb l 1 * 256 + nb l 2) (nb l 3) 8 (by omega) (by omega) (by omega) (by omega) (by omega)
  rw [show (2 : Int) ^ 16 * (nb l 0 * 256 + nb l 1) + nb l 2 * 256 = 2 ^ 8 * (nb l 0 * 65536 + nb l 1 * 256 + nb l 2) by omega, e2]
  unfold n4
  omega
theorem n4c (l : List UInt8) : bits .or .i64 (bits .or .i64 (bits .or .i64 (wrap64 (wrap64 (nb l 0) * 16777216)) (wrap64 (wrap64 (nb l 1) * 65536))) (wrap64 (wrap64 (nb l 2) * 256))) (wrap64 (nb l 3)) = n4 l := by
  have h0 := nb_le l 0
  have h1 := nb_le l 1
  have h2 := nb_le l 2
  have h3 := nb_le l 3
  have h4 := n4b l
  rw [IntWalk.i64_in (nb l 0) (by omega), IntWalk.i64_in (nb l 0 * 16777216) (by omega), IntWalk.i64_in (nb l 1) (by omega), IntWalk.i64_in (nb l 1 * 65536) (by omega), IntWalk.i64_in (nb l 2) (by omega), IntWalk.i64_in (nb l 2 * 256) (by omega), IntWalk.i64_in (nb l 3) (by omega)] at h4
  rw [IntWalk.wrap64_in (nb l 0) (by omega), IntWalk.wrap64_in (nb l 0 * 16777216) (by omega), IntWalk.wrap64_in (nb l 1) (by omega), IntWalk.wrap64_in (nb l 1 * 65536) (by omega), IntWalk.wrap64_in (nb l 2) (by omega), IntWalk.wrap64_in (nb l 2 * 256) (by omega), IntWalk.wrap64_in (nb l 3) (by omega)]
  exact h4
/-- Without the highest bit. -/
def m31 (n : Int) : Int := n % 2147483648
theorem m31_le (n : Int) : 0 ≤ m31 n ∧ m31 n < 2147483648 := by
  unfold m31
  omega
theorem m31b {n : Int} (h0 : 0 ≤ n) (h1 : n < 4294967296) : bits .and .i64 n 2147483647 = m31 n := by
  obtain ⟨q, rfl⟩ : ∃ q : Nat, n = q := ⟨n.toNat, by omega⟩
  have h5 := i64_and q (2 ^ 31 - 1) (by omega) (by omega)
  rw [Nat.and_two_pow_sub_one_eq_mod] at h5
  rw [show (2147483647 : Int) = ((2 ^ 31 - 1 : Nat) : Int) by omega, h5]
  unfold m31
  omega
/-- Is a flag up? -/
def fl (f m : Int) : Bool := decide (0 < bits .and .i64 f m)

/-- The world behind the making of the results of a call that takes a frame, and the one behind whatever only made memory since. -/
structure Pro (w w1 : World) : Prop where
  p : Blk w1 (w.heap.size + 1) 28 #[.slice none 0 0, .int .i64 0, .int .i64 0, .int .i64 0, .int .i64 0, .slice none 0 0, .bool false, .bool false, .bool false]
  q : Blk w1 (w.heap.size + 2) 30 #[.bool false, .bool false, .int .i64 0]
  lt : w.heap.size + 2 < w1.heap.size
  below_ : Below w.heap.size w w1
theorem Pro.new (w : World) (o : Obj) : Pro w (((w.alloc o).alloc (.cells #[.slice none 0 0, .int .i64 0, .int .i64 0, .int .i64 0, .int .i64 0, .slice none 0 0, .bool false, .bool false, .bool false] 28)).alloc (.cells #[.bool false, .bool false, .int .i64 0] 30)) := by
  have h1 := Blk.new (w.alloc o) 28 #[.slice none 0 0, .int .i64 0, .int .i64 0, .int .i64 0, .int .i64 0, .slice none 0 0, .bool false, .bool false, .bool false]
  have h2 := Blk.new ((w.alloc o).alloc (.cells #[.slice none 0 0, .int .i64 0, .int .i64 0, .int .i64 0, .int .i64 0, .slice none 0 0, .bool false, .bool false, .bool false] 28)) 30 #[.bool false, .bool false, .int .i64 0]
  have e1 : (w.alloc o).heap.size = w.heap.size + 1 := by simp
  have e2 : ((w.alloc o).alloc (.cells #[.slice none 0 0, .int .i64 0, .int .i64 0, .int .i64 0, .int .i64 0, .slice none 0 0, .bool false, .bool false, .bool false] 28)).heap.size = w.heap.size + 2 := by simp
  rw [e1] at h1
  rw [e2] at h2
  exact ⟨h1.alloc _, h2, by simp, (((Below.refl _ _).alloc (Nat.le_refl _) _).alloc (by simp) _).alloc (by simp; omega) _⟩
theorem Pro.on {w w1 w2 : World} (h : Pro w w1) (hb : Below w1.heap.size w1 w2) : Pro w w2 :=
  ⟨h.p.below hb h.p.lt, h.q.below hb h.q.lt, Nat.lt_of_lt_of_le h.lt hb.size, h.below_.trans (hb.mono h.below_.size)⟩
theorem Pro.cells {w w1 : World} (h : Pro w w1) : w1.cell? ⟨w.heap.size + 1, 0, none⟩ = some (.slice none 0 0) ∧ w1.cell? ⟨w.heap.size + 1, 1, none⟩ = some (.int .i64 0) ∧ w1.cell? ⟨w.heap.size + 1, 2, none⟩ = some (.int .i64 0) ∧ w1.cell? ⟨w.heap.size + 1, 3, none⟩ = some (.int .i64 0) ∧ w1.cell? ⟨w.heap.size + 1, 4, none⟩ = some (.int .i64 0) ∧ w1.cell? ⟨w.heap.size + 1, 5, none⟩ = some (.slice none 0 0) ∧ w1.cell? ⟨w.heap.size + 1, 6, none⟩ = some (.bool false) ∧ w1.cell? ⟨w.heap.size + 1, 7, none⟩ = some (.bool false) ∧ w1.cell? ⟨w.heap.size + 1, 8, none⟩ = some (.bool false) ∧ w1.cell? ⟨w.heap.size + 2, 0, none⟩ = some (.bool false) ∧ w1.cell? ⟨w.heap.size + 2, 1, none⟩ = some (.bool false) ∧ w1.cell? ⟨w.heap.size + 2, 2, none⟩ = some (.int .i64 0) ∧ w1.frozen? ⟨w.heap.size + 1, 0, none⟩ = false ∧ w1.frozen? ⟨w.heap.size + 1, 1, none⟩ = false ∧ w1.frozen? ⟨w.heap.size + 1, 2, none⟩ = false ∧ w1.frozen? ⟨w.heap.size + 1, 3, none⟩ = false ∧ w1.frozen? ⟨w.heap.size + 1, 4, none⟩ = false ∧ w1.frozen? ⟨w.heap.size + 1, 5, none⟩ = false ∧ w1.frozen? ⟨w.heap.size + 1, 6, none⟩ = false ∧ w1.frozen? ⟨w.heap.size + 1, 7, none⟩ = false ∧ w1.frozen? ⟨w.heap.size + 1, 8, none⟩ = false ∧ w1.frozen? ⟨w.heap.size + 2, 0, none⟩ = false ∧ w1.frozen? ⟨w.heap.size + 2, 1, none⟩ = false ∧ w1.frozen? ⟨w.heap.size + 2, 2, none⟩ = false := by
  have p0 := fun i => h.p.cell i
  have q0 := fun i => h.q.cell i
  exact ⟨p0 0, p0 1, p0 2, p0 3, p0 4, p0 5, p0 6, p0 7, p0 8, q0 0, q0 1, q0 2, h.p.frozen 0, h.p.frozen 1, h.p.frozen 2, h.p.frozen 3, h.p.frozen 4, h.p.frozen 5, h.p.frozen 6, h.p.frozen 7, h.p.frozen 8, h.q.frozen 0, h.q.frozen 1, h.q.frozen 2⟩
theorem Pro.fin {w w1 w2 : World} (h : Pro w w1) (ht : Turned [w.heap.size + 1, w.heap.size + 2] w1 w2) : Below w.heap.size w w2 :=
  h.below_.trans (ht.below (B := w.heap.size) (by simp) h.below_.size)

/-- The same, with the frame that came in. -/
structure ProF (w w1 : World) (k f s : Int) (A : Option Addr) (n c : Nat) : Prop where
  pro : Pro w w1
  fr : Blk w1 w.heap.size 34 #[.int .i64 k, .int .i64 f, .int .i64 s, .slice A n c]
theorem ProF.new (w : World) (k f s : Int) (A : Option Addr) (n c : Nat) : ProF w (((w.alloc (.cells #[.int .i64 k, .int .i64 f, .int .i64 s, .slice A n c] 34)).alloc (.cells #[.slice none 0 0, .int .i64 0, .int .i64 0, .int .i64 0, .int .i64 0, .slice none 0 0, .bool false, .bool false, .bool false] 28)).alloc (.cells #[.bool false, .bool false, .int .i64 0] 30)) k f s A n c :=
  ⟨Pro.new w _, ((Blk.new w 34 _).alloc _).alloc _⟩
theorem ProF.cells {w w1 : World} {k f s : Int} {A : Option Addr} {n c : Nat} (h : ProF w w1 k f s A n c) : w1.cell? ⟨w.heap.size, 0, none⟩ = some (.int .i64 k) ∧ w1.cell? ⟨w.heap.size, 1, none⟩ = some (.int .i64 f) ∧ w1.cell? ⟨w.heap.size, 2, none⟩ = some (.int .i64 s) ∧ w1.cell? ⟨w.heap.size, 3, none⟩ = some (.slice A n c) :=
  ⟨h.fr.cell 0, h.fr.cell 1, h.fr.cell 2, h.fr.cell 3⟩
theorem turned9 {F : List Nat} {w w1 : World} {p : Nat} {v0 v1 v2 v3 v4 v5 v6 v7 v8 : Value} (h : Turned F w w1) (hp : p ∈ F) : Turned F w (((((((((w1.setCell ⟨p, 0, none⟩ v0).setCell ⟨p, 1, none⟩ v1).setCell ⟨p, 2, none⟩ v2).setCell ⟨p, 3, none⟩ v3).setCell ⟨p, 4, none⟩ v4).setCell ⟨p, 5, none⟩ v5).setCell ⟨p, 6, none⟩ v6).setCell ⟨p, 7, none⟩ v7).setCell ⟨p, 8, none⟩ v8) := by
  have h1 := Turned.setCell h (p := ⟨p, 0, none⟩) hp v0
  have h2 := Turned.setCell h1 (p := ⟨p, 1, none⟩) hp v1
  have h3 := Turned.setCell h2 (p := ⟨p, 2, none⟩) hp v2
  have h4 := Turned.setCell h3 (p := ⟨p, 3, none⟩) hp v3
  have h5 := Turned.setCell h4 (p := ⟨p, 4, none⟩) hp v4
  have h6 := Turned.setCell h5 (p := ⟨p, 5, none⟩) hp v5
  have h7 := Turned.setCell h6 (p := ⟨p, 6, none⟩) hp v6
  have h8 := Turned.setCell h7 (p := ⟨p, 7, none⟩) hp v7
  have h9 := Turned.setCell h8 (p := ⟨p, 8, none⟩) hp v8
  exact h9
theorem Turned.then {F : List Nat} {w w1 w2 : World} (h : Turned F w w1) (hb : Below w1.heap.size w1 w2) : Turned F w w2 :=
  h.trans (Turned.of_below (F := []) hb) (by simp)
theorem own_off {w : World} {e : TypeId} {size n c m : Nat} {A : Option Addr} {xs : List Value} {F : List Nat} (h : w.ownsRow m e size (.slice A n c) n xs) (hF : ∀ b ∈ F, b < m) : Off A F := fun ad e hm => by
  subst e
  have := (h.lt ad.block rfl).1
  have := hF _ hm
  omega
theorem Pro.turn {w w1 w2 : World} (h : Pro w w1) (ht : Turned [w.heap.size + 3] w1 w2) : Pro w w2 :=
  ⟨h.p.turned ht (by simp), h.q.turned ht (by simp), Nat.lt_of_lt_of_le h.lt ht.size, h.below_.trans (ht.below (by simp) h.below_.size)⟩
theorem ProF.turn {w w1 w2 : World} {k f s : Int} {A : Option Addr} {n c : Nat} (h : ProF w w1 k f s A n c) (ht : Turned [w.heap.size + 3] w1 w2) : ProF w w2 k f s A n c :=
  ⟨h.pro.turn ht, h.fr.turned ht (by simp)⟩
theorem ProF.on {w w1 w2 : World} {k f s : Int} {A : Option Addr} {n c : Nat} (h : ProF w w1 k f s A n c) (hb : Below w1.heap.size w1 w2) : ProF w w2 k f s A n c :=
  ⟨h.pro.on hb, h.fr.below hb h.fr.lt⟩
theorem set3 {w w1 : World} (i : Nat) (v : Value) : Turned [w.heap.size + 3] w1 (w1.setCell ⟨w.heap.size + 3, i, none⟩ v) := (Turned.refl _ _).setCell (by simp) v
theorem blk9 {w : World} {p : Nat} {T : TypeId} {a0 a1 a2 a3 a4 a5 a6 a7 a8 : Value} (h : Blk w p T #[a0, a1, a2, a3, a4, a5, a6, a7, a8]) : w.cell? ⟨p, 0, none⟩ = some a0 ∧ w.cell? ⟨p, 1, none⟩ = some a1 ∧ w.cell? ⟨p, 2, none⟩ = some a2 ∧ w.cell? ⟨p, 3, none⟩ = some a3 ∧ w.cell? ⟨p, 4, none⟩ = some a4 ∧ w.cell? ⟨p, 5, none⟩ = some a5 ∧ w.cell? ⟨p, 6, none⟩ = some a6 ∧ w.cell? ⟨p, 7, none⟩ = some a7 ∧ w.cell? ⟨p, 8, none⟩ = some a8 ∧ w.frozen? ⟨p, 0, none⟩ = false ∧ w.frozen? ⟨p, 1, none⟩ = false ∧ w.frozen? ⟨p, 5, none⟩ = false :=
  ⟨h.cell 0, h.cell 1, h.cell 2, h.cell 3, h.cell 4, h.cell 5, h.cell 6, h.cell 7, h.cell 8, h.frozen 0, h.frozen 1, h.frozen 5⟩
theorem ProF.row {w w1 w2 : World} {k f s : Int} {A : Option Addr} {n c : Nat} {F : List Nat} (h : ProF w w1 k f s A n c) (ht : Turned F w1 w2) (hF : ∀ b ∈ F, w.heap.size + 2 < b) : ProF w w2 k f s A n c :=
  ⟨⟨h.pro.p.turned ht (fun hm => by have := hF _ hm; omega), h.pro.q.turned ht (fun hm => by have := hF _ hm; omega), Nat.lt_of_lt_of_le h.pro.lt ht.size, h.pro.below_.trans (ht.below (fun b hb => by have := hF _ hb; omega) h.pro.below_.size)⟩, h.fr.turned ht (fun hm => by have := hF _ hm; omega)⟩
end Go.Proofs.Ytdiahjeplaegnaa
