/- Joined texts: Law Open ArgsS LawT. Each names its own conditions. -/
import Derived.Test.YtdiejemhhcaicaaDoorGa
import Derived.ProofKit
import Derived.OpenShut
import Derived.SizedLaws
import Derived.Deep.Slices
import Derived.Deep.Fields
import Derived.LaidMore
import Derived.Lay
import Derived.SevenTiedAt
import Derived.Stop.Joined

/- From a walk of a law to the given statement: a law whose call returns true and turns nothing that was there meets its row. No condition beyond the lemma's own hypotheses. -/
namespace Go.Proofs.YtdiejemhhcaicaaDoor
open Go.ChangeShapes Go.WideShapes Go.ChangeAt Go.RowKit

theorem Tryd.own : ownKnob Tryd.prog.godebug = none := by kernel_rfl
theorem Tryd.laidOut : laidOutB Tryd.prog = true := by kernel_rfl

section
variable {H : Type} {enc : TypeId × Value → H} {P : Program}
theorem trodAll_stays (hl : laidOutB P = true) {W W' : World} {sp : Nat → Bool} : ∀ {ts : List TypeId} {vs : List Value} {ds : List (DataW H)} {ps : List MemPlace},
    (∀ t ∈ ts, P.readableRec t = true ∧ t < P.types.size) → DataW.TrodAll enc P W 0 (fun _ => true) true ts vs ds ps → (∀ x ∈ ps, W.sameAt W' x) → (∀ x ∈ ps, sp x.block = true) → DataW.TrodAll enc P W' 0 sp true ts vs ds ps
  | [], vs, ds, ps, _, h, _, _ => by
    obtain ⟨rfl, rfl, rfl⟩ := trodAll_nil h
    exact trodAll_mk0
  | t :: ts, vs, ds, ps, hr, h, hsame, hsp => by
    obtain ⟨v, vs', d, ds', p, q, rfl, rfl, rfl, h1, h2⟩ := trodAll_cons h
    obtain ⟨r1, r2⟩ := hr t List.mem_cons_self
    refine trodAll_cons_mk (WideElems.Trod_stays hl r1 r2 h1 (fun x hx => hsame x (List.mem_append_left _ hx)) (fun x hx => hsp x (List.mem_append_left _ hx))) ?_
    exact trodAll_stays hl (fun t' ht' => hr t' (List.mem_cons_of_mem _ ht')) h2 (fun x hx => hsame x (List.mem_append_right _ hx)) (fun x hx => hsp x (List.mem_append_right _ hx))
end

theorem trodAll_length {H : Type} {enc : TypeId × Value → H} {P : Program} {W : World} {b : Nat} {sp : Nat → Bool} {hd : Bool} : ∀ {ts : List TypeId} {vs : List Value} {ds : List (DataW H)} {ps : List MemPlace},
    DataW.TrodAll enc P W b sp hd ts vs ds ps → ds.length = ts.length
  | [], _, _, _, h => by
    obtain ⟨_, rfl, _⟩ := trodAll_nil h
    rfl
  | _ :: ts, _, _, _, h => by
    obtain ⟨_, _, _, ds', _, _, _, rfl, _, _, h2⟩ := trodAll_cons h
    simp [trodAll_length h2]

/-- A law: its call returns true and turns nothing that was there. -/
def LawWalk (F : FuncId) (fn : Func) : Prop :=
  ∀ (H : Type) (enc : TypeId × Value → H) (W : World) (base : Nat) (args : Array Value) (ds : List (DataW H)) (p : List MemPlace),
    (∀ (j : Nat) t v, fn.params[j]? = some t → args[j]? = some v → Value.okWide Tryd.prog W .any base t v) →
    DataW.TrodAll enc Tryd.prog W 0 (fun _ => true) true fn.params.toList args.toList ds p →
    (DataW.weightsEach Tryd.prog (fn.params.toList ++ []) (ds ++ [])).all (· ≤ reachBytes) = true →
    Calls Tryd.prog F args W fun e W' => e = .returned (.bool true) ∧ Below W.heap.size W W'

set_option maxRecDepth 100000 in
theorem law_lifted {F : FuncId} {fn : Func} {s : ChangeSpec} (walk : LawWalk F fn) (hres : fn.resultTypes = #[4]) (hv : s.vars = [])
    (hsp : ∀ (H : Type) (ds : List (DataW H)), ds.length = fn.params.toList.length → s.fn H (ds ++ []) = { results := [.lit (.bool true)], args := ds })
    (hread : ∀ t ∈ fn.params.toList, Tryd.prog.readableRec t = true ∧ t < Tryd.prog.types.size)
    (noInit : Tryd.checked.prog.inits.idxOf? F = none) (hfn : Tryd.checked.prog.funcs[F]? = some fn)
    (os : Os) (started : os.Started) (H : Type) (enc : TypeId × Value → H)
    (witness : ∃ (w : World) (tape : Tape) (i : Input), w.os = os ∧ (w.forCall tape i).Shaped Tryd.checked.prog ∧ i.vars = [] ∧ Input.okWide Tryd.checked.prog (w.forCall tape i) .any w.heap.size F i ∧
      s.pre6 enc Tryd.checked.prog fn [] false (w.forCall tape i).memory i.args ∧ ({} : Assume).holds Tryd.checked.prog (lone (Frame.enter Tryd.checked.prog F i.args .normal) [] (w.forCall tape i))) :
    ReturnsInHanded {} Tryd.checked os F .any (s.pre6 enc Tryd.prog fn [] false) (s.post enc Tryd.prog fn false true false false) := by
  refine returnsInHanded_of_change_sized (C := Tryd.checked) (s := s) (fn := fn) (conds := []) Tryd.own started noInit hfn witness ?_
  intro W base args ds gs before hval hW _ hsz _
  have hW' := hW
  obtain ⟨p, q, hA, hV, rfl, _, _⟩ := hW
  rw [hv] at hV
  obtain ⟨rfl, rfl⟩ := trodVars_none hV
  simp only [List.append_nil] at hW'
  have hlt : ∀ x ∈ p, x.block < W.heap.size := fun x hx => by simpa using hW'.lt x hx
  have hvt : s.plain.varTypes Tryd.checked.prog = [] := by
    have : s.plain.vars = [] := hv
    simp [DataSpec.varTypes, this]
  rw [hvt] at hsz
  refine (walk H enc W base args ds p hval hA hsz).mono fun e W' ⟨he, hb⟩ => ?_
  subst he
  have e1 := hsp H ds (trodAll_length hA)
  refine ⟨_, rfl, ds, [], p, [], p, [], hW', ?_, ?_, ?_, World.keptBut_mono (fun x hx => ⟨hx, .inr (.inl hx)⟩) (hb.frame (· ∈ p)), fun h => by cases h⟩
  · rw [e1, hres]
    exact trodAll_mk1 (shut_bool Tryd.underlying4 _)
  · rw [e1]
    exact trodAll_stays Tryd.laidOut hread hA (fun x hx => hb.same (hlt x hx)) (fun x hx => by simpa using hlt x hx)
  · rw [e1, hv]
    rfl
end Go.Proofs.YtdiejemhhcaicaaDoor

/- Arguments opened to the words of these texts: a slice of bytes that came in reads as bytes. -/
namespace Go.Proofs.YtdiejemhhcaicaaDoor
open Go.ChangeShapes Go.WideShapes Go.ChangeAt Go.RowKit Go.Deep

theorem byte_wf {n : Int} (h : (Lit.int .u8 n).wf = true) : 0 ≤ n ∧ n < 256 := by
  have := bounds_u8 h
  omega

section
variable {H : Type} {enc : TypeId × Value → H} {P : Program} {w : World} {base : Nat} {spare : Nat → Bool} {held : Bool}

theorem spot_none {w : World} {a : Addr} {v : Value} (h : w.cell? a = some v) : a.spot = none := World.cell?_spot h

/-- A []byte. -/
theorem trod_bytes {t e : TypeId} {fuel : Nat} {cs : List Value} {y : DataW H × List MemPlace} (ht : P.underlying t = some (.slice e)) (he : P.underlying e = some (.int .u8)) (hc : P.cellsOf e = 1)
    (h : DataW.trod enc P w base spare held fuel t cs = some y) : ∃ A n c l, cs = [.slice A n c] ∧ Bs w A n l ∧ n ≤ c ∧ c ≤ maxLen ∧ (y.1 = .nil ∧ c = 0 ∨ ∃ elems sp, y.1 = .slice elems sp ∧ elems.length = n ∧ (spare = (fun _ => true) → elems.length + sp.length = c)) := by
  rcases open_ints ht he hc h with ⟨hcs, hx⟩ | ⟨a, len, cap, zs, hcs, _, hl, hm, hz, hx, hcell, hwf⟩
  · exact ⟨none, 0, 0, [], hcs, Bs.nil w none, Nat.le_refl _, by unfold maxLen; omega, .inl ⟨by rw [hx], rfl⟩⟩
  · have hle : len ≤ zs.length := by rw [hz]; split <;> omega
    refine ⟨some a, len, cap, (zs.take len).map fun z => UInt8.ofNat z.toNat, hcs, ⟨by simp; omega, fun hn => ?_⟩, hl, hm, .inr ⟨lits .u8 (zs.take len), lits .u8 (zs.drop len), by rw [hx], by simp [lits]; omega, fun hs => ?_⟩⟩
    · obtain ⟨b, o, s⟩ := a
      have hs : s = none := by
        have := spot_none (hcell 0 (by omega))
        simpa [Addr.add] using this
      subst hs
      refine ⟨b, o, rfl, fun j u hu => ?_⟩
      have hj : j < len := by
        have := (List.getElem?_eq_some_iff.1 hu).1
        simp at this
        omega
      have h1 := hcell j (by omega)
      rw [add_plain] at h1
      rw [h1]
      have hjz : j < zs.length := by omega
      have hb := byte_wf (hwf zs[j] (List.getElem_mem hjz))
      simp only [List.map_map, List.getElem?_map, List.getElem?_take, if_pos hj, List.getElem?_eq_getElem hjz, Option.map_some, Option.some.injEq, Function.comp] at hu
      rw [← hu, ← bv_mk _ hb.1 hb.2]
      simp [List.getElem?_eq_getElem hjz]
    · have : zs.length = cap := by rw [hz, hs]; rfl
      simp [lits]
      omega
end
end Go.Proofs.YtdiejemhhcaicaaDoor

/- Numbers and texts that came in. No condition. -/
namespace Go.Proofs.YtdiejemhhcaicaaDoor
open Go.ChangeShapes Go.WideShapes Go.ChangeAt Go.RowKit Go.Deep
section
variable {H : Type} {enc : TypeId × Value → H} {W : World} {b0 base : Nat} {spare : Nat → Bool} {held : Bool} {v : Value} {d : DataW H} {p : List MemPlace}
set_option maxRecDepth 100000 in
theorem arg_num (hv : Value.okWide Tryd.prog W .any b0 3 v) (_h : DataW.Trod enc Tryd.prog W base spare held 3 v d p) : ∃ z, v = .int .i64 z := okWide_int Tryd.underlying3 hv
set_option maxRecDepth 100000 in
theorem arg_text (hv : Value.okWide Tryd.prog W .any b0 9 v) (_h : DataW.Trod enc Tryd.prog W base spare held 9 v d p) : ∃ l : List UInt8, v = .string ⟨l.toArray⟩ := by
  obtain ⟨⟨a⟩, rfl⟩ := okWide_string Tryd.underlying9 hv
  exact ⟨a.toList, by simp⟩
end
end Go.Proofs.YtdiejemhhcaicaaDoor

/- From a walk of a law to the given statement of a row that lists variables: a law whose call returns true and turns nothing that was there meets its row. No condition beyond the lemma's own hypotheses. -/
namespace Go.Proofs.YtdiejemhhcaicaaDoor
open Go.ChangeShapes Go.WideShapes Go.ChangeAt Go.RowKit

set_option maxRecDepth 100000 in
theorem law_laid {F : FuncId} {fn : Func} {s : ChangeSpec} {laid : List (String × DataW Unit)} (walk : LawWalk F fn) (hres : fn.resultTypes = #[4]) (hv : s.vars = [])
    (hsp : ∀ (H : Type) (ds : List (DataW H)), ds.length = fn.params.toList.length → s.fn H (ds ++ []) = { results := [.lit (.bool true)], args := ds })
    (hread : ∀ t ∈ fn.params.toList, Tryd.prog.readableRec t = true ∧ t < Tryd.prog.types.size)
    (noInit : Tryd.checked.prog.inits.idxOf? F = none) (hfn : Tryd.checked.prog.funcs[F]? = some fn)
    (os : Os) (started : os.Started) (H : Type) (enc : TypeId × Value → H)
    (witness : ∃ (w : World) (tape : Tape) (i : Input), w.os = os ∧ (w.forCall tape i).Shaped Tryd.checked.prog ∧ i.vars = [] ∧ Input.okWide Tryd.checked.prog (w.forCall tape i) .any w.heap.size F i ∧
      ((s.pre enc Tryd.checked.prog fn [] false (w.forCall tape i).memory i.args ∧ laidMetH Tryd.prog laid (w.forCall tape i).memory) ∧ sizedMet enc Tryd.checked.prog fn (OpenSpec.ofChange s) false (w.forCall tape i).memory i.args) ∧ ({} : Assume).holds Tryd.checked.prog (lone (Frame.enter Tryd.checked.prog F i.args .normal) [] (w.forCall tape i))) :
    ReturnsInHanded {} Tryd.checked os F .any (fun w args => (s.pre enc Tryd.prog fn [] false w args ∧ laidMetH Tryd.prog laid w) ∧ sizedMet enc Tryd.prog fn (OpenSpec.ofChange s) false w args) (s.post enc Tryd.prog fn false true false false) := by
  refine returnsInHanded_of_change_and (C := Tryd.checked) (s := s) (fn := fn) (conds := []) (X := fun w _ => laidMetH Tryd.prog laid w) (fun _ _ _ hh h => h.of_heap hh) Tryd.own started noInit hfn witness ?_
  intro W base args ds gs before hval hW _ hsz _ _
  have hW' := hW
  obtain ⟨p, q, hA, hV, rfl, _, _⟩ := hW
  rw [hv] at hV
  obtain ⟨rfl, rfl⟩ := trodVars_none hV
  simp only [List.append_nil] at hW'
  have hlt : ∀ x ∈ p, x.block < W.heap.size := fun x hx => by simpa using hW'.lt x hx
  have hvt : s.plain.varTypes Tryd.checked.prog = [] := by
    have : s.plain.vars = [] := hv
    simp [DataSpec.varTypes, this]
  rw [hvt] at hsz
  refine (walk H enc W base args ds p hval hA hsz).mono fun e W' ⟨he, hb⟩ => ?_
  subst he
  have e1 := hsp H ds (trodAll_length hA)
  refine ⟨_, rfl, ds, [], p, [], p, [], hW', ?_, ?_, ?_, World.keptBut_mono (fun x hx => ⟨hx, .inr (.inl hx)⟩) (hb.frame (· ∈ p)), fun h => by cases h⟩
  · rw [e1, hres]
    exact trodAll_mk1 (shut_bool Tryd.underlying4 _)
  · rw [e1]
    exact trodAll_stays Tryd.laidOut hread hA (fun x hx => hb.same (hlt x hx)) (fun x hx => by simpa using hlt x hx)
  · rw [e1, hv]
    rfl
end Go.Proofs.YtdiejemhhcaicaaDoor
