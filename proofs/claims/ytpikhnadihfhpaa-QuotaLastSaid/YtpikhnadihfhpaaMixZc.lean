/- The lexical walk with the last operation free, where conversions may look at the world. Each lemma names its own conditions. -/
import Derived.Test.YtpikhnadihfhpaaMixZ
namespace Go.Proofs.Ytpikhnadihfhpaa
open Go Go.RowKit

/-- Loads yield one value in the class; conversions and look-ups look at the world. -/
def kdZ : Op → Nat
  | .load .. => 0
  | .convert .. => 1
  | op => kd op

theorem wp_mixZc {P : Program} {id : Nat} {Q : Exit → Act → World → Prop} {a : Act} {w : World} {l : List Oper} {z : Oper} (S : World → Prop) (hz : lastO l = some z) (hm : P.follows .mixedOrders = true) (hB : finB kdZ l.dropLast z = true)
    (hS : S w.drew) (h : ∀ K : Act → World → Prop, (∀ a w, S w → wpLast P l.toArray z Q a w → K a w) → wpMix P S l.dropLast.toArray kdZ K l.dropLast a w.drew) : (Code.region id l.toArray true).wp P Q a w := by
  have e := lastO_cut hz
  have h2 := wp_region_mixZ (id := id) (Q := Q) (a := a) (w := w) S kdZ hm hB hS (by rw [← e]; exact h)
  rw [← e] at h2
  exact h2
/-- A load in a class: one value in every world of it. -/
theorem mixZ_load {P : Program} {S : World → Prop} {ops : Array Oper} {R : Act → World → Prop} {d : Option Tmp} {t ty : TypeId} {x : Operand} {pos : String} {after : Array Edge} {g : Option (Nat × Bool)} {rest : List Oper} {a : Act} {w : World} {p v : Value}
    (hl : ∀ w', S w' → (Instr.loadAt t p).run P w' = .ok v w') (hp : a.eval x = p) (hw : Region.wanted (Oper.mk d (.load t x) ty pos after g) (yielded ops a.tmps) = true)
    (h : wpMix P S ops kdZ R rest (a.put d v) w) : wpMix P S ops kdZ R (Oper.mk d (.load t x) ty pos after g :: rest) a w := by
  simp only [wpMix]
  rw [if_pos hw, if_pos (show kdZ (.load t x) = 0 from rfl)]
  refine ⟨v, fun w' hs => ?_, h⟩
  have := hl w' hs
  subst hp
  simp [execOp, this]
/-- An append in the lexical walk, in a class. -/
theorem mixZ_app {P : Program} {S : World → Prop} {w : World} {ops : Array Oper} {R : Act → World → Prop} {rest : List Oper} {d : Option Tmp} {s x : Operand} {t ty : TypeId} {pos : String} {after : Array Edge} {gd : Option (Nat × Bool)} {a : Act}
    (base : Nat) (e : TypeId) (i : TypeInfo) (z : Value) (size bytes : Nat) (ht : P.underlying t = some (.slice e)) (hi : P.info? e = some i) (hz : i.zero = some z)
    (hsize : i.size = size) (hby : i.bytes = bytes) (hzs : z.cells.size = size) (hsz : 0 < size)
    (v : Value) (n : Nat) (xs : List Value) (hown : w.ownsRow base e size v n xs)
    (A : Option Addr) (m c : Nat) (news : List Value) (hr : Rd w size A m news) (hs : a.eval s = v) (hx : a.eval x = .slice A m c) (h1 : ∀ u ∈ news, u.oneCell' = true)
    (hbytes : (n + m) * bytes ≤ 140737488355328) (h63 : n + m ≤ 140737488355328) (hbase : base ≤ w.heap.size)
    (hw : Region.wanted (Oper.mk d (.call { callee := .builtin .append, args := #[s, x], argTypes := #[t, t] }) ty pos after gd) (yielded ops a.tmps) = true)
    (h : ∀ A' c' w', w'.ownsRow base e size (.slice A' (n + m) c') (n + m) (xs ++ news) → w.grownBy w' v.ownBlock →
      ((Value.slice A' (n + m) c').ownBlock = v.ownBlock ∨ (Value.slice A' (n + m) c').ownBlock = some w.heap.size) → S w' ∧ wpMix P S ops kdZ R rest (a.put d (.slice A' (n + m) c')) w') :
    wpMix P S ops kdZ R (Oper.mk d (.call { callee := .builtin .append, args := #[s, x], argTypes := #[t, t] }) ty pos after gd :: rest) a w := by
  simp only [wpMix]
  rw [if_pos hw, if_neg (show ¬ kdZ (.call { callee := .builtin .append, args := #[s, x], argTypes := #[t, t] }) = 0 from fun h => Nat.noConfusion (show (2 : Nat) = 0 from h)), if_neg (show ¬ kdZ (.call { callee := .builtin .append, args := #[s, x], argTypes := #[t, t] }) = 1 from fun h => Nat.noConfusion (Nat.succ.inj (show (2 : Nat) = 1 from h)))]
  exact wp_app w s x t rfl base e i z size bytes ht hi hz hsize hby hzs hsz v n xs hs hown A m c news hx hr h1 hbytes h63 hbase h
end Go.Proofs.Ytpikhnadihfhpaa
