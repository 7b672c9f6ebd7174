/- What StatTable asks of the table, told by the kernel's own run. Plain. -/
import Derived.Test.YtnmadedmclcdnaaDoorStatQ
namespace Go.Proofs.YtnmadedmclcdnaaDoor
open Go.RowKit

/-- "no such value" -/
def noneL : List UInt8 := [110, 111, 32, 115, 117, 99, 104, 32, 118, 97, 108, 117, 101]
/-- The first place of entry i's name. -/
def oneF (i : Nat) : Nat := (findP (tabF i).1 noneL 61).2
def okT (i : Nat) : Bool :=
  let q := tabF (i + 1)
  let r := (findP q.1 noneL 61).2
  (q.1 != []) && decide (q.1.length ≤ 1000) && ((q.1.headD 0 == 58) == decide (i + 1 ≤ 14)) && q.1.all (fun c => !(decide (65 ≤ c.toNat) && decide (c.toNat ≤ 90)))
    && decide (1 ≤ r) && decide (r ≤ i + 1) && (List.range 61).all (fun m => decide (m + 1 < r) || decide (i < m) || ((tabF (m + 1)).1 == q.1))
set_option maxRecDepth 100000 in
theorem okT_all : ((List.range 61).all okT) = true := by decide +kernel
theorem okT_at {i : Nat} (h1 : 1 ≤ i) (h2 : i ≤ 61) : (tabF i).1 ≠ [] ∧ (tabF i).1.length ≤ 1000 ∧ (((tabF i).1.headD 0 = 58) ↔ i ≤ 14) ∧ (∀ c ∈ (tabF i).1, c.toNat < 65 ∨ 90 < c.toNat) ∧ 1 ≤ oneF i ∧ oneF i ≤ i ∧ ∀ k, oneF i ≤ k → k ≤ i → (tabF k).1 = (tabF i).1 := by
  have h := List.all_eq_true.1 okT_all (i - 1) (List.mem_range.2 (by omega))
  unfold okT at h
  rw [show i - 1 + 1 = i by omega] at h
  simp only [Bool.and_eq_true, decide_eq_true_eq, bne_iff_ne, ne_eq, List.all_eq_true, List.mem_range, beq_iff_eq, Bool.or_eq_true] at h
  obtain ⟨⟨⟨⟨⟨⟨a, a2⟩, b⟩, c⟩, d⟩, e⟩, f⟩ := h
  refine ⟨a, a2, ?_, ?_, d, e, ?_⟩
  · rw [Bool.eq_iff_iff] at b
    simpa using b
  · intro x hx
    have := c x hx
    simp at this
    omega
  · intro k hk1 hk2
    have h4 : 1 ≤ oneF i := d
    have := f (k - 1) (by omega)
    rw [show k - 1 + 1 = k by omega] at this
    rcases this with (h | h) | h
    · unfold oneF at hk1; omega
    · omega
    · exact h
/-- A string's byte. -/
theorem str_ix {q : List UInt8} {k : Nat} {c : UInt8} (h : q[k]? = some c) (w : World) (hu : Tryd.prog.underlying 9 = some .string) :
    (Instr.index 9 (.string ⟨q.toArray⟩) (.int .i64 (k : Int))).run Tryd.prog w = .ok (.int .u8 (c.toNat : Int)) w := by
  obtain ⟨hk, hc⟩ := List.getElem?_eq_some_iff.1 h
  rw [Go.run_index_string w _ _ _ _ hu]
  have hs : (⟨q.toArray⟩ : ByteArray).size = q.length := by simp [ByteArray.size]
  rw [dif_pos ⟨by omega, by omega⟩]
  congr 3
  rw [← hc]
  simp [ByteArray.getElem_eq_getElem_data]
end Go.Proofs.YtnmadedmclcdnaaDoor
