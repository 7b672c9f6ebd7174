/- Arguments opened to the words of these texts: a slice of bytes that came in reads as bytes. -/
import Derived.Test.YtdiahjeplaegnaaLaw
import Derived.Deep.Slices
import Derived.Deep.Fields
namespace Go.Proofs.Ytdiahjeplaegnaa
open Go.ChangeShapes Go.WideShapes Go.ChangeAt Go.RowKit Go.Deep

theorem byte_wf {n : Int} (h : (Lit.int .u8 n).wf = true) : 0 ≤ n ∧ n < 256 := by
  have := bounds_u8 h
  omega

section
variable {H : Type} {enc : TypeId × Value → H} {P : Program} {w : World} {base : Nat} {spare : Nat → Bool} {held : Bool}

theorem spot_none {w : World} {a : Addr} {v : Value} (h : w.cell? a = some v) : a.spot = none := World.cell?_spot h

/-- A []byte. -/
theorem trod_bytes {t e : TypeId} {fuel : Nat} {cs : List Value} {y : DataW H × List MemPlace} (ht : P.underlying t = some (.slice e)) (he : P.underlying e = some (.int .u8)) (hc : P.cellsOf e = 1)
    (h : DataW.trod enc P w base spare held fuel t cs = some y) : ∃ A n c l, cs = [.slice A n c] ∧ Bs w A n l ∧ n ≤ c ∧ c ≤ maxLen ∧ (y.1 = .nil ∧ c = 0 ∨ ∃ elems sp, y.1 = .slice elems sp ∧ elems.length = n ∧ (spare = (fun _ => true) → elems.length + sp.length = c)) := by
  rcases open_ints ht he hc h with ⟨hcs, hx⟩ | ⟨a, len, cap, zs, hcs, _, hl, hm, hz, hx, hcell, hwf⟩
  · exact ⟨none, 0, 0, [], hcs, Bs.nil w none, Nat.le_refl _, by unfold maxLen; omega, .inl ⟨by rw [hx], rfl⟩⟩
  · have hle : len ≤ zs.length := by rw [hz]; split <;> omega
    refine ⟨some a, len, cap, (zs.take len).map fun z => UInt8.ofNat z.toNat, hcs, ⟨by simp; omega, fun hn => ?_⟩, hl, hm, .inr ⟨lits .u8 (zs.take len), lits .u8 (zs.drop len), by rw [hx], by simp [lits]; omega, fun hs => ?_⟩⟩
    · obtain ⟨b, o, s⟩ := a
      have hs : s = none := by
        have := spot_none (hcell 0 (by omega))
        simpa [Addr.add] using this
      subst hs
      refine ⟨b, o, rfl, fun j u hu => ?_⟩
      have hj : j < len := by
        have := (List.getElem?_eq_some_iff.1 hu).1
        simp at this
        omega
      have h1 := hcell j (by omega)
      rw [add_plain] at h1
      rw [h1]
      have hjz : j < zs.length := by omega
      have hb := byte_wf (hwf zs[j] (List.getElem_mem hjz))
      simp only [List.map_map, List.getElem?_map, List.getElem?_take, if_pos hj, List.getElem?_eq_getElem hjz, Option.map_some, Option.some.injEq, Function.comp] at hu
      rw [← hu, ← bv_mk _ hb.1 hb.2]
      simp [List.getElem?_eq_getElem hjz]
    · have : zs.length = cap := by rw [hz, hs]; rfl
      simp [lits]
      omega
end
end Go.Proofs.Ytdiahjeplaegnaa
