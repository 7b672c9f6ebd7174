/- A pipe with its row hidden: each call once. Conditions: at most 2^45 bytes at a call. -/
import Derived.Test.YtefhadfcipifmaaPipe
namespace Go.Proofs.Ytefhadfcipifmaa
open Go.RowKit

/-- A pipe in block g that holds l; its row lies in R. -/
def PA (w : World) (B g : Nat) (room : Int) (l : List UInt8) (i o : Int) (R : Option Nat) : Prop :=
  ∃ A c, (Value.slice A l.length c).ownBlock = R ∧ PipeAt 64 w B g room A l.length c l i o
theorem own_size (A : Option Addr) (n m c d : Nat) : (Value.slice A n c).ownBlock = (Value.slice A m d).ownBlock := by cases A <;> rfl
theorem PA.of {w : World} {B g : Nat} {room : Int} {A : Option Addr} {n c : Nat} {l : List UInt8} {i o : Int} (h : PipeAt 64 w B g room A n c l i o) : PA w B g room l i o (Value.slice A n c).ownBlock := by
  have : n = l.length := by
    have := h.own.1
    simp at this
    omega
  subst this
  exact ⟨A, c, rfl, h⟩
theorem PA.below {w w' : World} {B g : Nat} {room : Int} {l : List UInt8} {i o : Int} {R : Option Nat} (h : PA w B g room l i o R) (hb : Below w.heap.size w w') : PA w' B g room l i o R := by
  obtain ⟨A, c, hR, hp⟩ := h
  exact ⟨A, c, hR, hp.below hb⟩
theorem PA.turned {w w' : World} {B g : Nat} {room : Int} {l : List UInt8} {i o : Int} {R : Option Nat} {F : List Nat} (h : PA w B g room l i o R) (ht : Turned F w w') (hg : g ∉ F) (hR : ∀ b, R = some b → b ∉ F) : PA w' B g room l i o R := by
  obtain ⟨A, c, rfl, hp⟩ := h
  exact ⟨A, c, rfl, hp.turned ht hg hR⟩
theorem PA.lt {w : World} {B g : Nat} {room : Int} {l : List UInt8} {i o : Int} {R : Option Nat} (h : PA w B g room l i o R) : B ≤ g ∧ g < w.heap.size ∧ ∀ b, R = some b → B ≤ b ∧ b < w.heap.size := by
  obtain ⟨A, c, rfl, hp⟩ := h
  exact ⟨hp.base, hp.blk.lt, fun b hb => hp.own.lt b hb⟩
theorem PA.fits {w : World} {B g : Nat} {room : Int} {l : List UInt8} {i o : Int} {R : Option Nat} (h : PA w B g room l i o R) : (l.length : Int) ≤ room := by
  obtain ⟨A, c, rfl, hp⟩ := h
  exact hp.fits
theorem PA.rebase {w : World} {B B' g : Nat} {room : Int} {l : List UInt8} {i o : Int} {R : Option Nat} (h : PA w B g room l i o R) (hB : B' ≤ B) : PA w B' g room l i o R := by
  obtain ⟨A, c, hR, h⟩ := h
  exact ⟨A, c, hR, h.blk, Nat.le_trans hB h.base, own_base h.own hB, h.fits⟩
/-- Its row lies in no block of another type. -/
theorem PA.row_ne {w : World} {B g : Nat} {room : Int} {l : List UInt8} {i o : Int} {R : Option Nat} (h : PA w B g room l i o R) {t : TypeId} {cs : Array Value} {k : Nat} (hk : Blk w k t cs) (ht : 5 ≠ t) : R ≠ some k := by
  obtain ⟨A, c, rfl, hp⟩ := h
  exact hk.own_ne hp.own ht
theorem PA.blk_ne {w : World} {B g : Nat} {room : Int} {l : List UInt8} {i o : Int} {R : Option Nat} (h : PA w B g room l i o R) {t : TypeId} {cs : Array Value} {k : Nat} (hk : Blk w k t cs) (ht : 64 ≠ t) : g ≠ k := by
  obtain ⟨A, c, rfl, hp⟩ := h
  intro e
  subst e
  have h1 := hp.blk
  unfold Blk at h1 hk
  rw [h1] at hk
  injection hk with hk
  injection hk with _ hk
  exact ht hk
theorem PA.other {w : World} {B B' g g' : Nat} {room room' : Int} {l l' : List UInt8} {i o i' o' : Int} {R R' : Option Nat} (h : PA w B g room l i o R) (h' : PA w B' g' room' l' i' o' R') : R ≠ some g' := by
  obtain ⟨A, c, rfl, hp⟩ := h'
  exact h.row_ne hp.blk (by decide)

section
variable {B g : Nat} {room : Int} {l : List UInt8} {i o : Int} {R : Option Nat} {w : World}
theorem pnew (room : Int) (w : World) (hr : 0 ≤ room) : Calls Try.prog 32 #[.int .i64 room] w fun e w' => e = .returned (.pointer (some ⟨w.heap.size, 0, none⟩)) ∧ PA w' w.heap.size w.heap.size room [] 0 0 none ∧ Below w.heap.size w w' ∧ w.heap.size < w'.heap.size := by
  refine (new_any room w).mono ?_
  rw [Int.max_eq_left hr]
  rintro e w' ⟨rfl, hp, hb⟩
  exact ⟨rfl, PA.of hp, hb, hp.blk.lt⟩
theorem plen (h : PA w B g room l i o R) : Calls Try.prog 36 #[.pointer (some ⟨g, 0, none⟩)] w fun e w' => e = .returned (.int .i64 l.length) ∧ w = w' := by
  obtain ⟨A, c, _, hp⟩ := h
  exact len_any B g room A _ c l i o w hp
theorem plook (m : Int) (h : PA w B g room l i o R) (hn : l.length ≤ 70368744177664) : Calls Try.prog 37 #[.pointer (some ⟨g, 0, none⟩), .int .i64 m] w fun e w' => ∃ A' c', e = .returned (.slice A' (lookN m l.length) c') ∧
      w'.ownsRow w.heap.size 5 1 (.slice A' (lookN m l.length) c') (lookN m l.length) ((l.take (lookN m l.length)).map bv) ∧ Below w.heap.size w w' := by
  obtain ⟨A, c, _, hp⟩ := h
  exact look_any m B g room A _ c l i o w hp hn
theorem ptake (m : Int) (h : PA w B g room l i o R) (hn : l.length ≤ 70368744177664) (ho : 0 ≤ o) (ho' : o ≤ 70368744177664) (hB : B ≤ w.heap.size) :
    Calls Try.prog 34 #[.pointer (some ⟨g, 0, none⟩), .int .i64 m] w fun e w' => ∃ A' c' R', e = .returned (.slice A' (lookN m l.length) c') ∧
      w'.ownsRow w.heap.size 5 1 (.slice A' (lookN m l.length) c') (lookN m l.length) ((l.take (lookN m l.length)).map bv) ∧
      PA w' B g room (l.drop (lookN m l.length)) i (o + lookN m l.length) R' ∧ Turned [g] w w' ∧ (∀ b, R' = some b → w.heap.size ≤ b) ∧ (∀ b, R' = some b → (Value.slice A' (lookN m l.length) c').ownBlock ≠ some b) := by
  obtain ⟨A, c, _, hp⟩ := h
  refine (take2_any m B g room A _ c l i o w hp hn ho ho' hB).mono ?_
  rintro e w' ⟨A', c', A2, c2, rfl, h1, h2, h3, h4, h5⟩
  exact ⟨A', c', _, rfl, h1, PA.of h2, h3, h4, h5⟩
theorem pput (A1 : Option Addr) (n1 c1 : Nat) (l1 : List UInt8) (h : PA w B g room l i o R) (hs : Bs w A1 n1 l1) (hc1 : n1 ≤ c1) (hn : l.length + n1 ≤ 70368744177664) (hi : 0 ≤ i) (hi' : i ≤ 70368744177664) (hB : B ≤ w.heap.size) (hr : room ≤ 9223372036854775807) :
    Calls Try.prog 33 #[.pointer (some ⟨g, 0, none⟩), .slice A1 n1 c1] w fun e w' => ∃ R', e = .returned (.int .i64 (putN n1 room l.length)) ∧
      PA w' B g room (l ++ l1.take (putN n1 room l.length)) (i + putN n1 room l.length) o R' ∧ Turned (g :: R.toList) w w' ∧ (∀ b, R' = some b → R = some b ∨ w.heap.size ≤ b) := by
  obtain ⟨A, c, rfl, hp⟩ := h
  refine (put_any A1 n1 c1 l1 B g room A _ c l i o w hp hs hc1 hn hi hi' hB hr).mono ?_
  rintro e w' ⟨A2, c2, rfl, h2, h3, h4⟩
  exact ⟨_, rfl, PA.of h2, h3, h4⟩
end
end Go.Proofs.Ytefhadfcipifmaa
