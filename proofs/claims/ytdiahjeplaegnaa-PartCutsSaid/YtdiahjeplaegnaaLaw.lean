/- From a walk of a law to the given statement: a law whose call returns true and turns nothing that was there meets its row. No condition beyond the lemma's own hypotheses. -/
import Derived.Test.YtdiahjeplaegnaaBase
import Derived.ProofKit
import Derived.OpenShut
import Derived.SizedLaws
namespace Go.Proofs.Ytdiahjeplaegnaa
open Go.ChangeShapes Go.WideShapes Go.ChangeAt Go.RowKit

theorem Try.own : ownKnob Try.prog.godebug = none := by kernel_rfl
theorem Try.laidOut : laidOutB Try.prog = true := by kernel_rfl

section
variable {H : Type} {enc : TypeId × Value → H} {P : Program}
theorem trodAll_stays (hl : laidOutB P = true) {W W' : World} {sp : Nat → Bool} : ∀ {ts : List TypeId} {vs : List Value} {ds : List (DataW H)} {ps : List MemPlace},
    (∀ t ∈ ts, P.readableRec t = true ∧ t < P.types.size) → DataW.TrodAll enc P W 0 (fun _ => true) true ts vs ds ps → (∀ x ∈ ps, W.sameAt W' x) → (∀ x ∈ ps, sp x.block = true) → DataW.TrodAll enc P W' 0 sp true ts vs ds ps
  | [], vs, ds, ps, _, h, _, _ => by
    obtain ⟨rfl, rfl, rfl⟩ := trodAll_nil h
    exact trodAll_mk0
  | t :: ts, vs, ds, ps, hr, h, hsame, hsp => by
    obtain ⟨v, vs', d, ds', p, q, rfl, rfl, rfl, h1, h2⟩ := trodAll_cons h
    obtain ⟨r1, r2⟩ := hr t List.mem_cons_self
    refine trodAll_cons_mk (WideElems.Trod_stays hl r1 r2 h1 (fun x hx => hsame x (List.mem_append_left _ hx)) (fun x hx => hsp x (List.mem_append_left _ hx))) ?_
    exact trodAll_stays hl (fun t' ht' => hr t' (List.mem_cons_of_mem _ ht')) h2 (fun x hx => hsame x (List.mem_append_right _ hx)) (fun x hx => hsp x (List.mem_append_right _ hx))
end

theorem trodAll_length {H : Type} {enc : TypeId × Value → H} {P : Program} {W : World} {b : Nat} {sp : Nat → Bool} {hd : Bool} : ∀ {ts : List TypeId} {vs : List Value} {ds : List (DataW H)} {ps : List MemPlace},
    DataW.TrodAll enc P W b sp hd ts vs ds ps → ds.length = ts.length
  | [], _, _, _, h => by
    obtain ⟨_, rfl, _⟩ := trodAll_nil h
    rfl
  | _ :: ts, _, _, _, h => by
    obtain ⟨_, _, _, ds', _, _, _, rfl, _, _, h2⟩ := trodAll_cons h
    simp [trodAll_length h2]

/-- A law: its call returns true and turns nothing that was there. -/
def LawWalk (F : FuncId) (fn : Func) : Prop :=
  ∀ (H : Type) (enc : TypeId × Value → H) (W : World) (base : Nat) (args : Array Value) (ds : List (DataW H)) (p : List MemPlace),
    (∀ (j : Nat) t v, fn.params[j]? = some t → args[j]? = some v → Value.okWide Try.prog W .any base t v) →
    DataW.TrodAll enc Try.prog W 0 (fun _ => true) true fn.params.toList args.toList ds p →
    (DataW.weightsEach Try.prog (fn.params.toList ++ []) (ds ++ [])).all (· ≤ reachBytes) = true →
    Calls Try.prog F args W fun e W' => e = .returned (.bool true) ∧ Below W.heap.size W W'

set_option maxRecDepth 100000 in
theorem law_lifted {F : FuncId} {fn : Func} {s : ChangeSpec} (walk : LawWalk F fn) (hres : fn.resultTypes = #[4]) (hv : s.vars = [])
    (hsp : ∀ (H : Type) (ds : List (DataW H)), ds.length = fn.params.toList.length → s.fn H (ds ++ []) = { results := [.lit (.bool true)], args := ds })
    (hread : ∀ t ∈ fn.params.toList, Try.prog.readableRec t = true ∧ t < Try.prog.types.size)
    (noInit : Try.checked.prog.inits.idxOf? F = none) (hfn : Try.checked.prog.funcs[F]? = some fn)
    (os : Os) (started : os.Started) (H : Type) (enc : TypeId × Value → H)
    (witness : ∃ (w : World) (tape : Tape) (i : Input), w.os = os ∧ (w.forCall tape i).Shaped Try.checked.prog ∧ i.vars = [] ∧ Input.okWide Try.checked.prog (w.forCall tape i) .any w.heap.size F i ∧
      s.pre6 enc Try.checked.prog fn [] false (w.forCall tape i).memory i.args ∧ ({} : Assume).holds Try.checked.prog (lone (Frame.enter Try.checked.prog F i.args .normal) [] (w.forCall tape i))) :
    ReturnsInHanded {} Try.checked os F .any (s.pre6 enc Try.prog fn [] false) (s.post enc Try.prog fn false true false false) := by
  refine returnsInHanded_of_change_sized (C := Try.checked) (s := s) (fn := fn) (conds := []) Try.own started noInit hfn witness ?_
  intro W base args ds gs before hval hW _ hsz _
  have hW' := hW
  obtain ⟨p, q, hA, hV, rfl, _, _⟩ := hW
  rw [hv] at hV
  obtain ⟨rfl, rfl⟩ := trodVars_none hV
  simp only [List.append_nil] at hW'
  have hlt : ∀ x ∈ p, x.block < W.heap.size := fun x hx => by simpa using hW'.lt x hx
  have hvt : s.plain.varTypes Try.checked.prog = [] := by
    have : s.plain.vars = [] := hv
    simp [DataSpec.varTypes, this]
  rw [hvt] at hsz
  refine (walk H enc W base args ds p hval hA hsz).mono fun e W' ⟨he, hb⟩ => ?_
  subst he
  have e1 := hsp H ds (trodAll_length hA)
  refine ⟨_, rfl, ds, [], p, [], p, [], hW', ?_, ?_, ?_, World.keptBut_mono (fun x hx => ⟨hx, .inr (.inl hx)⟩) (hb.frame (· ∈ p)), fun h => by cases h⟩
  · rw [e1, hres]
    exact trodAll_mk1 (shut_bool Try.underlying4 _)
  · rw [e1]
    exact trodAll_stays Try.laidOut hread hA (fun x hx => hb.same (hlt x hx)) (fun x hx => by simpa using hlt x hx)
  · rw [e1, hv]
    rfl
end Go.Proofs.Ytdiahjeplaegnaa
