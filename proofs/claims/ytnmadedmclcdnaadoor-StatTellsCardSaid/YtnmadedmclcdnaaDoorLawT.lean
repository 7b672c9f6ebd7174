/- From a walk of a law to the given statement of a row that lists variables: a law whose call returns true and turns nothing that was there meets its row. No condition beyond the lemma's own hypotheses. -/
import Derived.Test.YtnmadedmclcdnaaDoorLaw
import Derived.LaidMore
import Derived.Lay
import Derived.SevenTiedAt
import Derived.Stop.Joined
namespace Go.Proofs.YtnmadedmclcdnaaDoor
open Go.ChangeShapes Go.WideShapes Go.ChangeAt Go.RowKit

theorem law_laid {F : FuncId} {fn : Func} {s : ChangeSpec} {laid : List (String × DataW Unit)} (walk : LawWalk F fn) (hres : fn.resultTypes = #[4]) (hv : s.vars = [])
    (hsp : ∀ (H : Type) (ds : List (DataW H)), ds.length = fn.params.toList.length → s.fn H (ds ++ []) = { results := [.lit (.bool true)], args := ds })
    (hread : ∀ t ∈ fn.params.toList, Tryd.prog.readableRec t = true ∧ t < Tryd.prog.types.size)
    (noInit : Tryd.checked.prog.inits.idxOf? F = none) (hfn : Tryd.checked.prog.funcs[F]? = some fn)
    (os : Os) (started : os.Started) (H : Type) (enc : TypeId × Value → H)
    (witness : ∃ (w : World) (tape : Tape) (i : Input), w.os = os ∧ (w.forCall tape i).Shaped Tryd.checked.prog ∧ i.vars = [] ∧ Input.okWide Tryd.checked.prog (w.forCall tape i) .any w.heap.size F i ∧
      ((s.pre enc Tryd.checked.prog fn [] false (w.forCall tape i).memory i.args ∧ laidMetH Tryd.prog laid (w.forCall tape i).memory) ∧ sizedMet enc Tryd.checked.prog fn (OpenSpec.ofChange s) false (w.forCall tape i).memory i.args) ∧ ({} : Assume).holds Tryd.checked.prog (lone (Frame.enter Tryd.checked.prog F i.args .normal) [] (w.forCall tape i))) :
    ReturnsInHanded {} Tryd.checked os F .any (fun w args => (s.pre enc Tryd.prog fn [] false w args ∧ laidMetH Tryd.prog laid w) ∧ sizedMet enc Tryd.prog fn (OpenSpec.ofChange s) false w args) (s.post enc Tryd.prog fn false true false false) := by
  refine returnsInHanded_of_change_and (C := Tryd.checked) (s := s) (fn := fn) (conds := []) (X := fun w _ => laidMetH Tryd.prog laid w) (fun _ _ _ hh h => h.of_heap hh) Tryd.own started noInit hfn witness ?_
  intro W base args ds gs before hval hW _ hsz _ _
  have hW' := hW
  obtain ⟨p, q, hA, hV, rfl, _, _⟩ := hW
  rw [hv] at hV
  obtain ⟨rfl, rfl⟩ := trodVars_none hV
  simp only [List.append_nil] at hW'
  have hlt : ∀ x ∈ p, x.block < W.heap.size := fun x hx => by simpa using hW'.lt x hx
  have hvt : s.plain.varTypes Tryd.checked.prog = [] := by
    have : s.plain.vars = [] := hv
    simp [DataSpec.varTypes, this]
  rw [hvt] at hsz
  refine (walk H enc W base args ds p hval hA hsz).mono fun e W' ⟨he, hb⟩ => ?_
  subst he
  have e1 := hsp H ds (trodAll_length hA)
  refine ⟨_, rfl, ds, [], p, [], p, [], hW', ?_, ?_, ?_, World.keptBut_mono (fun x hx => ⟨hx, .inr (.inl hx)⟩) (hb.frame (· ∈ p)), fun h => by cases h⟩
  · rw [e1, hres]
    exact trodAll_mk1 (shut_bool Tryd.underlying4 _)
  · rw [e1]
    exact trodAll_stays Tryd.laidOut hread hA (fun x hx => hb.same (hlt x hx)) (fun x hx => by simpa using hlt x hx)
  · rw [e1, hv]
    rfl
end Go.Proofs.YtnmadedmclcdnaaDoor
