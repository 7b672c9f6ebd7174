/- What the operations ahead of Read yield in PartCuts' two drawn regions. No condition. -/
import Derived.Test.YtdiahjeplaegnaaCutsJ
namespace Go.Proofs.Ytdiahjeplaegnaa
open Go.RowKit

/-- The two tables of the loop. -/
structure Tabs (w : World) (g : Nat) : Prop where
  sizes : Blk w g 3 #[.int .i64 5, .int .i64 4, .int .i64 6, .int .i64 8, .int .i64 8, .int .i64 4]
  kinds : Blk w (g + 1) 3 #[.int .i64 2, .int .i64 3, .int .i64 4, .int .i64 6, .int .i64 7, .int .i64 8]
theorem Tabs.below {w w' : World} {g : Nat} (h : Tabs w g) (hb : Below w.heap.size w w') : Tabs w' g := ⟨h.sizes.below hb h.sizes.lt, h.kinds.below hb h.kinds.lt⟩
/-- A body of zeros. -/
def G16 (g kn : Nat) (ki kd s : Int) (n : Nat) (d : Nat → Bool) (w : World) (j : Nat) (v : Value) : Prop :=
  match j with
  | 0 => v = .slice (some ⟨g + 1, 0, none⟩) 6 6
  | 1 => v = .int .i64 ki
  | 2 => v = .pointer (some ⟨g + 1, kn, none⟩)
  | 3 => v = .int .i64 kd
  | 4 => v = .int .i64 s
  | 5 => v = .int .i64 (n : Nat)
  | 6 => ∃ b, v = .slice (some ⟨b, 0, none⟩) n n ∧ (d 8 = true ∨ Bs w (some ⟨b, 0, none⟩) n (zl n))
  | 7 => ∃ b, v = .agg #[.int .i64 kd, .int .i64 0, .int .i64 s, .slice (some ⟨b, 0, none⟩) n n] ∧ (d 8 = true ∨ Bs w (some ⟨b, 0, none⟩) n (zl n))
  | _ => True
theorem g16_ok (g kn : Nat) (ki kd s : Int) (n : Nat) : GpOk (G16 g kn ki kd s n) 8 := by
  constructor
  · intro d w w' i j v hj hb hg
    match j, hj with
    | 0, _ => exact hg
    | 1, _ => exact hg
    | 2, _ => exact hg
    | 3, _ => exact hg
    | 4, _ => exact hg
    | 5, _ => exact hg
    | 6, _ =>
      obtain ⟨b, e, h⟩ := hg
      exact ⟨b, e, h.imp setB_of (fun h => h.below hb)⟩
    | 7, _ =>
      obtain ⟨b, e, h⟩ := hg
      exact ⟨b, e, h.imp setB_of (fun h => h.below hb)⟩
  · intro d w w' i j v hj h8 hg
    match j, hj with
    | 0, _ => exact hg
    | 1, _ => exact hg
    | 2, _ => exact hg
    | 3, _ => exact hg
    | 4, _ => exact hg
    | 5, _ => exact hg
    | 6, _ =>
      obtain ⟨b, e, _⟩ := hg
      exact ⟨b, e, .inl (setB_of h8)⟩
    | 7, _ =>
      obtain ⟨b, e, _⟩ := hg
      exact ⟨b, e, .inl (setB_of h8)⟩
/-- A body of zeros with a one behind. -/
def G20 (base : Nat) (g kn : Nat) (ki kd sz s : Int) (n : Nat) (d : Nat → Bool) (w : World) (j : Nat) (v : Value) : Prop :=
  match j with
  | 0 => v = .slice (some ⟨g + 1, 0, none⟩) 6 6
  | 1 => v = .int .i64 ki
  | 2 => v = .pointer (some ⟨g + 1, kn, none⟩)
  | 3 => v = .int .i64 kd
  | 4 => v = .int .i64 s
  | 5 => v = .slice (some ⟨g, 0, none⟩) 6 6
  | 6 => v = .int .i64 ki
  | 7 => v = .pointer (some ⟨g, kn, none⟩)
  | 8 => v = .int .i64 sz
  | 9 => v = .int .i64 (n : Nat)
  | 10 => d 12 = true ∨ d 14 = true ∨ w.ownsRow base 5 1 v n ((zl n).map bv)
  | 11 => d 12 = true ∨ d 14 = true ∨ ∃ b, v = .slice (some ⟨b, 0, none⟩) 1 1 ∧ Bs w (some ⟨b, 0, none⟩) 1 [1]
  | 12 => ∃ A c, v = .slice A (n + 1) c ∧ (d 14 = true ∨ n + 1 ≤ c ∧ Bs w A (n + 1) (zl n ++ [1]))
  | 13 => d 12 = true ∧ ∃ A c, v = .agg #[.int .i64 kd, .int .i64 0, .int .i64 s, .slice A (n + 1) c] ∧ (d 14 = true ∨ n + 1 ≤ c ∧ Bs w A (n + 1) (zl n ++ [1]))
  | _ => True
theorem g20_ok (base : Nat) (g kn : Nat) (ki kd sz s : Int) (n : Nat) : GpOk (G20 base g kn ki kd sz s n) 14 := by
  constructor
  · intro d w w' i j v hj hb hg
    match j, hj with
    | 0, _ => exact hg
    | 1, _ => exact hg
    | 2, _ => exact hg
    | 3, _ => exact hg
    | 4, _ => exact hg
    | 5, _ => exact hg
    | 6, _ => exact hg
    | 7, _ => exact hg
    | 8, _ => exact hg
    | 9, _ => exact hg
    | 10, _ => exact Or.imp setB_of (Or.imp setB_of (fun h => own_below h hb)) hg
    | 11, _ => exact Or.imp setB_of (Or.imp setB_of (fun ⟨b, e, h⟩ => ⟨b, e, Bs.below h hb⟩)) hg
    | 12, _ =>
      obtain ⟨A, c, e, h⟩ := hg
      exact ⟨A, c, e, h.imp setB_of (fun h => ⟨h.1, h.2.below hb⟩)⟩
    | 13, _ =>
      obtain ⟨h12, A, c, e, h⟩ := hg
      exact ⟨setB_of h12, A, c, e, h.imp setB_of (fun h => ⟨h.1, h.2.below hb⟩)⟩
  · intro d w w' i j v hj h8 hg
    match j, hj with
    | 0, _ => exact hg
    | 1, _ => exact hg
    | 2, _ => exact hg
    | 3, _ => exact hg
    | 4, _ => exact hg
    | 5, _ => exact hg
    | 6, _ => exact hg
    | 7, _ => exact hg
    | 8, _ => exact hg
    | 9, _ => exact hg
    | 10, _ => exact .inr (.inl (setB_of h8))
    | 11, _ => exact .inr (.inl (setB_of h8))
    | 12, _ =>
      obtain ⟨A, c, e, _⟩ := hg
      exact ⟨A, c, e, .inl (setB_of h8)⟩
    | 13, _ =>
      obtain ⟨h12, A, c, e, _⟩ := hg
      exact ⟨setB_of h12, A, c, e, .inl (setB_of h8)⟩
end Go.Proofs.Ytdiahjeplaegnaa
