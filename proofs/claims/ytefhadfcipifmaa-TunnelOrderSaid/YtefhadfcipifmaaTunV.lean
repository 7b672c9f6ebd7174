/- A tunnel as it lies in memory: plain. Each lemma names its own conditions. -/
import Derived.Test.YtefhadfcipifmaaTunPipe
import Derived.Test.YtefhadfcipifmaaFloat
namespace Go.Proofs.Ytefhadfcipifmaa
open Go.RowKit

/-- What a tunnel holds: the two lists, their bounds, and what was counted. -/
structure TV where
  id : Int
  conn : Int
  stm : Int
  mv : Int
  bf : Int
  st : Int
  ended : Bool
  shut : Bool
  came : Bool
  sent : Bool
  up : List UInt8
  dn : List UInt8
  pu : Nat
  pd : Nat
  ku : Nat
  kd : Nat

/-- A pipe whose counters stay below k. -/
def PB (w : World) (B g : Nat) (room : Int) (l : List UInt8) (k : Nat) (R : Option Nat) : Prop :=
  ∃ i o : Int, 0 ≤ i ∧ i ≤ k + l.length ∧ 0 ≤ o ∧ o ≤ k ∧ PA w B g room l i o R
/-- Its cells. -/
def tunC (σ : TV) (us ha hi ip po : Value) (x y gu gd : Nat) : Array Value :=
  #[.int .i64 σ.id, .int .i64 σ.conn, .int .i64 σ.stm, us, ha, hi, ip, po, .int .i64 σ.st, .int .i64 σ.mv, .int .i64 σ.bf, .pointer (some ⟨gu, 0, none⟩), .pointer (some ⟨gd, 0, none⟩), .bool σ.ended, .bool σ.shut, .bool σ.came, .bool σ.sent, .complex .f64 x y]
structure TunA (w : World) (B tb : Nat) (σ : TV) (us ha hi ip po : Value) (x y gu gd : Nat) (Ru Rd : Option Nat) : Prop where
  blk : Blk w tb 57 (tunC σ us ha hi ip po x y gu gd)
  pu : PB w B gu 65535 σ.up σ.pu Ru
  pd : PB w B gd σ.bf σ.dn σ.pd Rd
  vx : V x σ.ku
  vy : V y σ.kd
  ne : gu ≠ gd
  nr : ∀ b, Ru = some b → Rd ≠ some b
  base : B ≤ tb
def GG (tb gu gd : Nat) (Ru Rd : Option Nat) : List Nat := tb :: gu :: gd :: (Ru.toList ++ Rd.toList)
/-- A tunnel in block tb; all its blocks are G. -/
def Tun (w : World) (B tb : Nat) (σ : TV) (G : List Nat) : Prop :=
  ∃ us ha hi ip po x y gu gd Ru Rd, G = GG tb gu gd Ru Rd ∧ TunA w B tb σ us ha hi ip po x y gu gd Ru Rd
/-- What a call on it turns. -/
def TK (G G' : List Nat) (w w' : World) : Prop := Turned G w w' ∧ ∀ b ∈ G', b ∈ G ∨ w.heap.size ≤ b

theorem mem_GG {tb gu gd : Nat} {Ru Rd : Option Nat} {b : Nat} : b ∈ GG tb gu gd Ru Rd ↔ b = tb ∨ b = gu ∨ b = gd ∨ Ru = some b ∨ Rd = some b := by
  unfold GG
  simp

section
variable {w w' : World} {B g : Nat} {room : Int} {l : List UInt8} {k : Nat} {R : Option Nat}
theorem PB.below (h : PB w B g room l k R) (hb : Below w.heap.size w w') : PB w' B g room l k R := by
  obtain ⟨i, o, h1, h2, h3, h4, h5⟩ := h
  exact ⟨i, o, h1, h2, h3, h4, h5.below hb⟩
theorem PB.turned {F : List Nat} (h : PB w B g room l k R) (ht : Turned F w w') (hg : g ∉ F) (hR : ∀ b, R = some b → b ∉ F) : PB w' B g room l k R := by
  obtain ⟨i, o, h1, h2, h3, h4, h5⟩ := h
  exact ⟨i, o, h1, h2, h3, h4, h5.turned ht hg hR⟩
theorem PB.lt (h : PB w B g room l k R) : B ≤ g ∧ g < w.heap.size ∧ ∀ b, R = some b → B ≤ b ∧ b < w.heap.size := by
  obtain ⟨i, o, h1, h2, h3, h4, h5⟩ := h
  exact h5.lt
theorem PB.fits (h : PB w B g room l k R) : (l.length : Int) ≤ room := by
  obtain ⟨i, o, h1, h2, h3, h4, h5⟩ := h
  exact h5.fits
theorem PB.rebase {B' : Nat} (h : PB w B g room l k R) (hB : B' ≤ B) : PB w B' g room l k R := by
  obtain ⟨i, o, h1, h2, h3, h4, h5⟩ := h
  exact ⟨i, o, h1, h2, h3, h4, h5.rebase hB⟩
theorem PB.row_ne (h : PB w B g room l k R) {t : TypeId} {cs : Array Value} {q : Nat} (hk : Blk w q t cs) (ht : 5 ≠ t) : R ≠ some q := by
  obtain ⟨i, o, h1, h2, h3, h4, h5⟩ := h
  exact h5.row_ne hk ht
theorem PB.blk_ne (h : PB w B g room l k R) {t : TypeId} {cs : Array Value} {q : Nat} (hk : Blk w q t cs) (ht : 64 ≠ t) : g ≠ q := by
  obtain ⟨i, o, h1, h2, h3, h4, h5⟩ := h
  exact h5.blk_ne hk ht
theorem PB.other {B' g' : Nat} {room' : Int} {l' : List UInt8} {k' : Nat} {R' : Option Nat} (h : PB w B g room l k R) (h' : PB w B' g' room' l' k' R') : R ≠ some g' := by
  obtain ⟨i, o, h1, h2, h3, h4, h5⟩ := h
  obtain ⟨i', o', h1', h2', h3', h4', h5'⟩ := h'
  exact h5.other h5'
end

section
variable {w w' : World} {B tb : Nat} {σ : TV} {us ha hi ip po : Value} {x y gu gd : Nat} {Ru Rd : Option Nat} {G : List Nat}
theorem TunA.tun (h : TunA w B tb σ us ha hi ip po x y gu gd Ru Rd) : Tun w B tb σ (GG tb gu gd Ru Rd) := ⟨us, ha, hi, ip, po, x, y, gu, gd, Ru, Rd, rfl, h⟩
theorem TunA.apart (h : TunA w B tb σ us ha hi ip po x y gu gd Ru Rd) : gu ≠ tb ∧ gd ≠ tb ∧ Ru ≠ some tb ∧ Rd ≠ some tb ∧ Ru ≠ some gu ∧ Ru ≠ some gd ∧ Rd ≠ some gu ∧ Rd ≠ some gd :=
  ⟨h.pu.blk_ne h.blk (by decide), h.pd.blk_ne h.blk (by decide), h.pu.row_ne h.blk (by decide), h.pd.row_ne h.blk (by decide), h.pu.other h.pu, h.pu.other h.pd, h.pd.other h.pu, h.pd.other h.pd⟩
theorem Tun.lt (h : Tun w B tb σ G) : tb ∈ G ∧ B ≤ tb ∧ tb < w.heap.size ∧ ∀ b ∈ G, B ≤ b ∧ b < w.heap.size := by
  obtain ⟨us, ha, hi, ip, po, x, y, gu, gd, Ru, Rd, rfl, h⟩ := h
  have h1 := h.pu.lt
  have h2 := h.pd.lt
  have h3 := h.blk.lt
  have h4 := h.base
  refine ⟨by simp [GG], h4, h3, fun b hb => ?_⟩
  rcases mem_GG.1 hb with rfl | rfl | rfl | hb | hb
  · exact ⟨h4, h3⟩
  · exact ⟨h1.1, h1.2.1⟩
  · exact ⟨h2.1, h2.2.1⟩
  · exact h1.2.2 b hb
  · exact h2.2.2 b hb
theorem TunA.below (h : TunA w B tb σ us ha hi ip po x y gu gd Ru Rd) (hb : Below w.heap.size w w') : TunA w' B tb σ us ha hi ip po x y gu gd Ru Rd :=
  ⟨h.blk.below hb h.blk.lt, h.pu.below hb, h.pd.below hb, h.vx, h.vy, h.ne, h.nr, h.base⟩
theorem Tun.below (h : Tun w B tb σ G) (hb : Below w.heap.size w w') : Tun w' B tb σ G := by
  obtain ⟨us, ha, hi, ip, po, x, y, gu, gd, Ru, Rd, rfl, h⟩ := h
  exact (h.below hb).tun
theorem TunA.turned {F : List Nat} (h : TunA w B tb σ us ha hi ip po x y gu gd Ru Rd) (ht : Turned F w w') (hF : ∀ b ∈ GG tb gu gd Ru Rd, b ∉ F) : TunA w' B tb σ us ha hi ip po x y gu gd Ru Rd :=
  ⟨h.blk.turned ht (hF tb (mem_GG.2 (.inl rfl))), h.pu.turned ht (hF gu (mem_GG.2 (.inr (.inl rfl)))) (fun b hb => hF b (mem_GG.2 (.inr (.inr (.inr (.inl hb)))))),
    h.pd.turned ht (hF gd (mem_GG.2 (.inr (.inr (.inl rfl))))) (fun b hb => hF b (mem_GG.2 (.inr (.inr (.inr (.inr hb)))))), h.vx, h.vy, h.ne, h.nr, h.base⟩
theorem Tun.turned {F : List Nat} (h : Tun w B tb σ G) (ht : Turned F w w') (hF : ∀ b ∈ G, b ∉ F) : Tun w' B tb σ G := by
  obtain ⟨us, ha, hi, ip, po, x, y, gu, gd, Ru, Rd, rfl, h⟩ := h
  exact (h.turned ht hF).tun
/-- Its own block alone was turned. -/
theorem TunA.store {σ' : TV} {us' ha' hi' ip' po' : Value} {x' y' : Nat} (h : TunA w B tb σ us ha hi ip po x y gu gd Ru Rd) (ht : Turned [tb] w w') (hb : Blk w' tb 57 (tunC σ' us' ha' hi' ip' po' x' y' gu gd))
    (e1 : σ'.up = σ.up) (e2 : σ'.dn = σ.dn) (e3 : σ'.pu = σ.pu) (e4 : σ'.pd = σ.pd) (e5 : σ'.bf = σ.bf) (hx : V x' σ'.ku) (hy : V y' σ'.kd) : TunA w' B tb σ' us' ha' hi' ip' po' x' y' gu gd Ru Rd := by
  obtain ⟨a1, a2, a3, a4, _⟩ := h.apart
  refine ⟨hb, ?_, ?_, hx, hy, h.ne, h.nr, h.base⟩
  · rw [e1, e3]
    exact h.pu.turned ht (by simpa using a1) (fun b hb => by simp; intro e; exact a3 (e ▸ hb))
  · rw [e2, e4, e5]
    exact h.pd.turned ht (by simpa using a2) (fun b hb => by simp; intro e; exact a4 (e ▸ hb))
/-- The upward pipe was turned. -/
theorem TunA.upP {R' : Option Nat} {l : List UInt8} {k : Nat} {F : List Nat} (h : TunA w B tb σ us ha hi ip po x y gu gd Ru Rd) (ht : Turned F w w') (hF : ∀ b ∈ F, b = gu ∨ Ru = some b)
    (hp : PB w' B gu 65535 l k R') (hR : ∀ b, R' = some b → Ru = some b ∨ w.heap.size ≤ b) : TunA w' B tb { σ with up := l, pu := k } us ha hi ip po x y gu gd R' Rd := by
  obtain ⟨a1, a2, a3, a4, a5, a6, a7, a8⟩ := h.apart
  refine ⟨h.blk.turned ht (fun hm => ?_), hp, h.pd.turned ht (fun hm => ?_) (fun b hb hm => ?_), h.vx, h.vy, h.ne, fun b hb hd => ?_, h.base⟩
  · rcases hF _ hm with e | e
    · exact a1 e.symm
    · exact a3 e
  · rcases hF _ hm with e | e
    · exact h.ne e.symm
    · exact a6 e
  · rcases hF _ hm with e | e
    · exact a7 (e ▸ hb)
    · exact h.nr b e hb
  · rcases hR b hb with e | e
    · exact h.nr b e hd
    · have := (h.pd.lt.2.2 b hd).2
      omega
/-- The downward pipe was turned. -/
theorem TunA.dnP {R' : Option Nat} {l : List UInt8} {k : Nat} {F : List Nat} (h : TunA w B tb σ us ha hi ip po x y gu gd Ru Rd) (ht : Turned F w w') (hF : ∀ b ∈ F, b = gd ∨ Rd = some b)
    (hp : PB w' B gd σ.bf l k R') (hR : ∀ b, R' = some b → Rd = some b ∨ w.heap.size ≤ b) : TunA w' B tb { σ with dn := l, pd := k } us ha hi ip po x y gu gd Ru R' := by
  obtain ⟨a1, a2, a3, a4, a5, a6, a7, a8⟩ := h.apart
  refine ⟨h.blk.turned ht (fun hm => ?_), h.pu.turned ht (fun hm => ?_) (fun b hb hm => ?_), hp, h.vx, h.vy, h.ne, fun b hu hb => ?_, h.base⟩
  · rcases hF _ hm with e | e
    · exact a2 e.symm
    · exact a4 e
  · rcases hF _ hm with e | e
    · exact h.ne e
    · exact a7 e
  · rcases hF _ hm with e | e
    · exact a6 (e ▸ hb)
    · exact h.nr b hb e
  · rcases hR b hb with e | e
    · exact h.nr b hu e
    · have := (h.pu.lt.2.2 b hu).2
      omega
theorem TK.refl (G : List Nat) (w : World) : TK G G w w := ⟨Turned.refl _ _, fun _ hb => .inl hb⟩
theorem TK.trans {G G' G'' : List Nat} {w w' w'' : World} (h : TK G G' w w') (k : TK G' G'' w' w'') : TK G G'' w w'' := by
  refine ⟨h.1.trans k.1 h.2, fun b hb => ?_⟩
  rcases k.2 b hb with h1 | h1
  · exact h.2 b h1
  · exact .inr (Nat.le_trans h.1.size h1)
theorem TK.of_below {G : List Nat} {w w' : World} (h : Below w.heap.size w w') : TK G G w w' := ⟨Turned.of_below h, fun _ hb => .inl hb⟩
theorem TK.mono {G : List Nat} {F : List Nat} {w w' : World} (h : Turned F w w') (hF : ∀ b ∈ F, b ∈ G) : TK G G w w' := ⟨h.mono hF, fun _ hb => .inl hb⟩
/-- All that lies below stays. -/
theorem TK.low {G G' : List Nat} {w w' : World} (h : TK G G' w w') (hG : ∀ b ∈ G, B ≤ b) (hB : B ≤ w.heap.size) : Below B w w' := h.1.below hG hB
theorem TK.base {G G' : List Nat} {w w' : World} (h : TK G G' w w') (hG : ∀ b ∈ G, B ≤ b) (hB : B ≤ w.heap.size) : ∀ b ∈ G', B ≤ b := fun b hb => by
  rcases h.2 b hb with h1 | h1
  · exact hG b h1
  · omega
end
/-- The sum of two that stand for whole numbers. -/
theorem csum_V {x y u v n m p q : Nat} (hx : V x n) (hy : V y m) (hu : V u p) (hv : V v q) (h1 : n + p < 2 ^ 53) (h2 : m + q < 2 ^ 53) :
    ∃ r1 r2, (∀ (P : Program) (t : TypeId) (w : World), (binOp .add t (.complex .f64 x y) (.complex .f64 u v)).run P w = .ok (.complex .f64 r1 r2) w) ∧ V r1 (n + p) ∧ V r2 (m + q) := by
  obtain ⟨r1, e1, v1⟩ := V_add hx hu h1
  obtain ⟨r2, e2, v2⟩ := V_add hy hv h2
  refine ⟨r1, r2, fun P t w => ?_, v1, v2⟩
  have c1 := run_carith (P := P) w e1
  have c2 := run_carith (P := P) w e2
  simp [binOp, Op.complexOp, c1, c2]
end Go.Proofs.Ytefhadfcipifmaa
