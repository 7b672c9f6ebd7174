/- stat.Total and stat.Same, for all fields. Conditions: at most 2^40 bytes in all. -/
import Derived.Test.YtnmadedmclcdnaaDoorFdFew
import Derived.Test.YtnmadedmclcdnaaDoorStatFinds
namespace Go.Proofs.YtnmadedmclcdnaaDoor
open Go.RowKit
attribute [local go_sem] kd kdS
attribute [local go_sem ↓] sliced_word
attribute [local go_sem] offA_zero

/-- A field's cells in a block of its own. -/
def BoxAt (w : World) (g : Nat) (f : Fd) : Prop := Blk w g 24 #[.string f.n, .string f.v, .bool f.x]
theorem BoxAt.below {w w' : World} {g : Nat} {f : Fd} (h : BoxAt w g f) (hb : Below w.heap.size w w') : BoxAt w' g f := Blk.below h hb (Blk.lt h)
theorem BoxAt.c {w : World} {g : Nat} {f : Fd} (h : BoxAt w g f) : w.cell? ⟨g, 0, none⟩ = some (.string f.n) ∧ w.cell? ⟨g, 1, none⟩ = some (.string f.v) ∧ w.cell? ⟨g, 2, none⟩ = some (.bool f.x) := ⟨Blk.cell h 0, Blk.cell h 1, Blk.cell h 2⟩

set_option maxHeartbeats 400000 in
set_option maxRecDepth 100000 in
theorem total_any (A : Option Addr) (n c : Nat) (l : List Fd) (w : World) (h : Fs w A n l) (ht : total l ≤ 1099511627776) (hn : n ≤ 1099511627776) :
    Calls Tryd.prog 12 #[.slice A n c] w fun e w' => e = .returned (.int .i64 (total l : Nat)) ∧ Below w.heap.size w w' := by
  have H := hid h
  have hlen := h.len
  clear h
  go_enter Tryd.func12, Tryd.ntmps12
  go_wp2_with fail
  go_loopw [3, 8] (fun s i wr => ∃ k : Nat, k ≤ n ∧ i = .int .i64 k ∧ s = .int .i64 (total (l.take k) : Nat) ∧ Below w.heap.size w wr) (fun _ i _ => n - (intOf i).toNat)
  case atStart => exact ⟨0, Nat.zero_le _, rfl, rfl, Below.refl _ _⟩
  case round =>
    obtain ⟨k, hk, rfl, rfl, hb⟩ := hrel
    have HB := hid hb
    by_cases hgo : k < n
    · obtain ⟨b, o, f, rfl, hf, c0, c1, c2⟩ := Fs.at_ (H.out.below hb) hgo
      have hst : total (l.take (k + 1)) = total (l.take k) + f.size := by
        rw [List.take_add_one, hf, total_append]
        simp [total]
      have hle : total (l.take (k + 1)) ≤ total l := by
        have := total_append (l.take (k + 1)) (l.drop (k + 1))
        rw [List.take_append_drop] at this
        omega
      have HST := hid hst
      have hfs : ((total (l.take k) : Nat) : Int) + (f.size : Nat) ≤ 1099511627776 := by omega
      have hfz : f.size ≤ 1099511627776 := by omega
      clear hst hle hf hb
      go_upto_region 5 with fail
      have hF : BoxAt (wr.alloc (.cells #[.string f.n, .string f.v, .bool f.x] 24)) wr.heap.size f := Blk.new wr _ _
      have hba : Below wr.heap.size wr (wr.alloc (.cells #[.string f.n, .string f.v, .bool f.x] 24)) := (Below.refl _ _).alloc (Nat.le_refl _) _
      generalize wr.alloc (.cells #[.string f.n, .string f.v, .bool f.x] 24) = wa at hF hba ⊢
      generalize wr.heap.size = g at hF ⊢
      obtain ⟨k0, k1, k2⟩ := hF.c
      have HBA := hid (HB.out.trans (hba.mono HB.out.size))
      clear hF hba c0 c1 c2
      go_wp2_with fail
      refine (size_any f wa (by omega)).mono ?_
      rintro e w2 ⟨rfl, hb2⟩
      have HB2 := hid (HBA.out.trans (hb2.mono HBA.out.size))
      clear hb2 k0 k1 k2 HBA
      go_wp2_with fail
      go_roundw
      case rel => exact ⟨k + 1, by omega, by go_num, by rw [HST.out]; go_num, HB2.out⟩
      case measure => simp [intOf]; omega
    · obtain rfl : k = n := by omega
      have he : l.take k = l := List.take_of_length_le (by omega)
      rw [he]
      clear hb he hgo
      go_wp2_with fail
      go_ret
      exact ⟨rfl, HB.out⟩

/-- Names and values. -/
def nv (f : Fd) : List UInt8 × List UInt8 := (f.n.toList, f.v.toList)
def sameF (f g : Fd) : Bool := decide (nv f = nv g)
def sameL (a b : List Fd) : Bool := decide (a.map nv = b.map nv)

set_option maxHeartbeats 400000 in
set_option maxRecDepth 100000 in
theorem same1_any (f g : Fd) (w : World) :
    Calls Tryd.prog 22 #[f.val, g.val] w fun e w' => e = .returned (.bool (sameF f g)) ∧ Below w.heap.size w w' := by
  obtain ⟨a, b, x⟩ := f
  obtain ⟨a', b', x'⟩ := g
  have hall : Below w.heap.size w ((w.alloc (.cells #[.string a, .string b, .bool x] 24)).alloc (.cells #[.string a', .string b', .bool x'] 24)) := ((Below.refl _ _).alloc (Nat.le_refl _) _).alloc (by simp) _
  have HA := hid hall
  clear hall
  by_cases h1 : a.toList = a'.toList
  · have z1 : (a.toList == a'.toList) = true := beq_iff_eq.2 h1
    by_cases h2 : b.toList = b'.toList
    · have z2 : (b.toList == b'.toList) = true := beq_iff_eq.2 h2
      have HD : Hid (sameF ⟨a, b, x⟩ ⟨a', b', x'⟩ = true) := hid (by unfold sameF nv; simp [h1, h2])
      clear h1 h2
      go_enter Tryd.func22, Tryd.ntmps22
      go_wp2_with fail
      go_ret
      exact ⟨by rw [HD.out]; rfl, HA.out⟩
    · have z2 : (b.toList == b'.toList) = false := beq_eq_false_iff_ne.2 h2
      have HD : Hid (sameF ⟨a, b, x⟩ ⟨a', b', x'⟩ = false) := hid (by unfold sameF nv; simp [h1, h2])
      clear h1 h2
      go_enter Tryd.func22, Tryd.ntmps22
      go_wp2_with fail
      go_ret
      exact ⟨by rw [HD.out]; rfl, HA.out⟩
  · have z1 : (a.toList == a'.toList) = false := beq_eq_false_iff_ne.2 h1
    have HD : Hid (sameF ⟨a, b, x⟩ ⟨a', b', x'⟩ = false) := hid (by unfold sameF nv; simp [h1])
    clear h1
    go_enter Tryd.func22, Tryd.ntmps22
    go_wp2_with fail
    go_ret
    exact ⟨by rw [HD.out]; rfl, HA.out⟩

theorem sameL_len {a b : List Fd} (h : a.length ≠ b.length) : sameL a b = false := by
  unfold sameL
  rw [decide_eq_false_iff_not]
  intro e
  have := congrArg List.length e
  simp at this
  exact h this
theorem sameL_step {a b : List Fd} {k : Nat} {f g : Fd} (hf : a[k]? = some f) (hg : b[k]? = some g) (h : (a.take k).map nv = (b.take k).map nv) (h1 : sameF f g = true) : (a.take (k + 1)).map nv = (b.take (k + 1)).map nv := by
  unfold sameF at h1
  rw [decide_eq_true_eq] at h1
  rw [List.take_add_one, List.take_add_one, hf, hg]
  simp [h, h1]
theorem sameL_not {a b : List Fd} {k : Nat} {f g : Fd} (hf : a[k]? = some f) (hg : b[k]? = some g) (h1 : sameF f g = false) : sameL a b = false := by
  unfold sameF at h1
  unfold sameL
  rw [decide_eq_false_iff_not] at h1 ⊢
  intro e
  apply h1
  have : (a.map nv)[k]? = (b.map nv)[k]? := by rw [e]
  rw [List.getElem?_map, List.getElem?_map, hf, hg] at this
  simpa using this
theorem sameL_all {a b : List Fd} {n : Nat} (ha : a.length = n) (hb : b.length = n) (h : (a.take n).map nv = (b.take n).map nv) : sameL a b = true := by
  unfold sameL
  rw [List.take_of_length_le (by omega), List.take_of_length_le (by omega)] at h
  exact decide_eq_true h

set_option maxHeartbeats 1000000 in
set_option maxRecDepth 100000 in
theorem eqf_any (A : Option Addr) (n c : Nat) (l : List Fd) (A' : Option Addr) (n' c' : Nat) (l' : List Fd) (w : World) (h : Fs w A n l) (h' : Fs w A' n' l') (hn : n ≤ 1099511627776) :
    Calls Tryd.prog 21 #[.slice A n c, .slice A' n' c', .func (.func 22) #[] #[]] w fun e w' => e = .returned (.bool (sameL l l')) ∧ Below w.heap.size w w' := by
  have H := hid h
  have H' := hid h'
  have hlen := h.len
  have hlen' := h'.len
  clear h h'
  by_cases hnn : n = n'
  · subst hnn
    go_enter Tryd.func21, Tryd.ntmps21
    go_wp2_with fail
    go_loopw [17] (fun i wr => ∃ k : Nat, k ≤ n ∧ i = .int .i64 k ∧ (l.take k).map nv = (l'.take k).map nv ∧ Below w.heap.size w wr) (fun i _ => n - (intOf i).toNat)
    case atStart => exact ⟨0, Nat.zero_le _, rfl, rfl, Below.refl _ _⟩
    case round =>
      obtain ⟨k, hk, rfl, hq, hb⟩ := hrel
      have HB := hid hb
      have HQ := hid hq
      by_cases hgo : k < n
      · obtain ⟨b, o, f, rfl, hf, c0, c1, c2⟩ := Fs.at_ (H.out.below hb) hgo
        obtain ⟨b', o', f', rfl, hf', d0, d1, d2⟩ := Fs.at_ (H'.out.below hb) hgo
        have HF := hid hf
        have HF' := hid hf'
        clear hb hq hf hf'
        go_upto_region 6 with fail
        have hF : BoxAt (wr.alloc (.cells #[.string f.n, .string f.v, .bool f.x] 24)) wr.heap.size f := Blk.new wr _ _
        have hba : Below wr.heap.size wr (wr.alloc (.cells #[.string f.n, .string f.v, .bool f.x] 24)) := (Below.refl _ _).alloc (Nat.le_refl _) _
        generalize wr.alloc (.cells #[.string f.n, .string f.v, .bool f.x] 24) = wa at hF hba ⊢
        generalize wr.heap.size = g at hF ⊢
        have d0 := below_keep hba _ _ d0
        have d1 := below_keep hba _ _ d1
        have d2 := below_keep hba _ _ d2
        have HX := hid hF
        have HBA := hid (HB.out.trans (hba.mono HB.out.size))
        clear hF hba c0 c1 c2 HB
        go_upto_region 7 with fail
        have hF : BoxAt (wa.alloc (.cells #[.string f'.n, .string f'.v, .bool f'.x] 24)) wa.heap.size f' := Blk.new wa _ _
        have hba : Below wa.heap.size wa (wa.alloc (.cells #[.string f'.n, .string f'.v, .bool f'.x] 24)) := (Below.refl _ _).alloc (Nat.le_refl _) _
        generalize wa.alloc (.cells #[.string f'.n, .string f'.v, .bool f'.x] 24) = wb at hF hba ⊢
        generalize wa.heap.size = g' at hF ⊢
        obtain ⟨k0, k1, k2⟩ := (HX.out.below hba).c
        obtain ⟨q0, q1, q2⟩ := hF.c
        have HBB := hid (HBA.out.trans (hba.mono HBA.out.size))
        clear hF hba d0 d1 d2 HBA HX
        go_wp2_with fail
        refine (same1_any f f' wb).mono ?_
        rintro e w2 ⟨rfl, hb2⟩
        have HB2 := hid (HBB.out.trans (hb2.mono HBB.out.size))
        clear hb2 k0 k1 k2 q0 q1 q2 HBB
        rcases hsf : sameF f f' with _ | _
        · have HN := hid (sameL_not HF.out HF'.out hsf)
          clear hsf
          go_wp2_with fail
          go_ret
          exact ⟨by rw [HN.out]; rfl, HB2.out⟩
        · have HN := hid (sameL_step HF.out HF'.out HQ.out hsf)
          clear hsf
          go_wp2_with fail
          go_roundw
          case rel => exact ⟨k + 1, by omega, by go_num, HN.out, HB2.out⟩
          case measure => simp [intOf]; omega
      · obtain rfl : k = n := by omega
        have HN := hid (sameL_all hlen hlen' hq)
        clear hb hq hgo
        go_wp2_with fail
        go_ret
        exact ⟨by rw [HN.out]; rfl, HB.out⟩
  · have HN := hid (sameL_len (a := l) (b := l') (by omega))
    have z1 : ((n : Int) == (n' : Int)) = false := by rw [beq_eq_false_iff_ne]; omega
    have z2 : ¬ (n : Int) = (n' : Int) := by omega
    clear hlen hlen' hnn
    go_enter Tryd.func21, Tryd.ntmps21
    go_wp2_with fail
    go_ret
    exact ⟨by rw [HN.out]; rfl, Below.refl _ _⟩

set_option maxHeartbeats 400000 in
set_option maxRecDepth 100000 in
theorem same_any (A : Option Addr) (n c : Nat) (l : List Fd) (A' : Option Addr) (n' c' : Nat) (l' : List Fd) (w : World) (h : Fs w A n l) (h' : Fs w A' n' l') (hn : n ≤ 1099511627776) :
    Calls Tryd.prog 13 #[.slice A n c, .slice A' n' c'] w fun e w' => e = .returned (.bool (sameL l l')) ∧ Below w.heap.size w w' := by
  have H := hid h
  have H' := hid h'
  have hlen := h.len
  have hlen' := h'.len
  clear h h'
  go_enter Tryd.func13, Tryd.ntmps13
  go_wp2_with fail
  refine (eqf_any A n c l A' n' c' l' w H.out H'.out hn).mono ?_
  rintro e w2 ⟨rfl, hb2⟩
  go_wp2_with fail
  go_ret
  exact ⟨rfl, hb2⟩
end Go.Proofs.YtnmadedmclcdnaaDoor
