/- The dynamic table's Find. Conditions: at most 2^40 fields. -/
import Derived.Test.YtlnhnnejmofpcaaDynOps
namespace Go.Proofs.Ytlnhnnejmofpcaa
open Go.RowKit
attribute [local go_sem] kd kdS

/-- The newest with both, and the newest with the name, among the first k. -/
def findK (l : List Fd) (nm vl : ByteArray) : Nat → Nat × Nat
  | 0 => (0, 0)
  | k + 1 => match l[k]? with
    | none => findK l nm vl k
    | some f => if f.n.toList == nm.toList then (if f.v.toList == vl.toList then (l.length - k, l.length - k) else ((findK l nm vl k).1, l.length - k)) else findK l nm vl k

theorem findK_some {l : List Fd} {nm vl : ByteArray} {k : Nat} {f : Fd} (h : l[k]? = some f) : findK l nm vl (k + 1) = if f.n.toList == nm.toList then (if f.v.toList == vl.toList then (l.length - k, l.length - k) else ((findK l nm vl k).1, l.length - k)) else findK l nm vl k := by
  rw [findK, h]

set_option maxHeartbeats 1000000 in
set_option maxRecDepth 100000 in
theorem find_any (nm vl : ByteArray) (B g : Nat) (most : Int) (A : Option Addr) (n c : Nat) (l : List Fd) (w : World) (h : TabAt w B g most A n c l) (hn : n ≤ 1099511627776) :
    Calls Try.prog 16 #[.pointer (some ⟨g, 0, none⟩), .string nm, .string vl] w fun e w' => e = .returned (.tuple #[.int .i64 ((findK l nm vl n).1 : Nat), .int .i64 ((findK l nm vl n).2 : Nat)]) ∧ Below w.heap.size w w' := by
  have H := hid h
  have hlen := h.len
  have h0 : w.cell? ⟨g, 0, none⟩ = some (.slice A n c) := h.blk.cell 0
  have H0 := hid h0
  clear h
  go_enter Try.func16, Try.ntmps16
  go_wp2_with fail
  go_loopw [8, 9, 18] (fun x y i wr => ∃ k : Nat, k ≤ n ∧ i = .int .i64 k ∧ x = .int .i64 ((findK l nm vl k).1 : Nat) ∧ y = .int .i64 ((findK l nm vl k).2 : Nat) ∧ Below w.heap.size w wr) (fun _ _ i _ => n - (intOf i).toNat)
  case atStart => exact ⟨0, Nat.zero_le _, rfl, rfl, rfl, Below.refl _ _⟩
  case round =>
    obtain ⟨k, hk, rfl, rfl, rfl, hb⟩ := hrel
    have HB := hid hb
    clear h0
    by_cases hkn : k < n
    · obtain ⟨b, o, f, rfl, hf, f0, f1, f2⟩ := Fs.at_ (w := wr) (l := l) ((H.out.own.below hb).rd) hkn
      have c0 := below_keep hb _ _ H0.out
      have HF := hid hf
      have ga0 := below_keep ((Below.refl wr.heap.size wr).alloc (Nat.le_refl _) (.cells #[.string f.n, .string f.v, .bool f.x] 30)) _ _ c0
      clear hf hb
      go_wp2_with fail
      · have a1 : (f.n.toList == nm.toList) = true := by assumption
        have a2 : (f.v.toList == vl.toList) = true := by assumption
        have e : findK l nm vl (k + 1) = (n - k, n - k) := by rw [findK_some HF.out, a1, a2, hlen]; rfl
        go_roundw
        case rel => exact ⟨k + 1, by omega, by go_num, by rw [e]; go_num, by rw [e]; go_num, HB.out.alloc HB.out.size _⟩
        case measure => simp [intOf]; omega
      · have a1 : (f.n.toList == nm.toList) = true := by assumption
        have a2 : (f.v.toList == vl.toList) = false := by assumption
        have e : findK l nm vl (k + 1) = ((findK l nm vl k).1, n - k) := by rw [findK_some HF.out, a1, a2, hlen]; rfl
        go_roundw
        case rel => exact ⟨k + 1, by omega, by go_num, by rw [e], by rw [e]; go_num, HB.out.alloc HB.out.size _⟩
        case measure => simp [intOf]; omega
      · have a1 : (f.n.toList == nm.toList) = false := by assumption
        have e : findK l nm vl (k + 1) = findK l nm vl k := by rw [findK_some HF.out, a1]; rfl
        go_roundw
        case rel => exact ⟨k + 1, by omega, by go_num, by rw [e], by rw [e], HB.out.alloc HB.out.size _⟩
        case measure => simp [intOf]; omega
    · obtain rfl : k = n := by omega
      clear hb
      go_wp2_with fail
      go_ret2
      exact ⟨rfl, HB.out⟩
end Go.Proofs.Ytlnhnnejmofpcaa
