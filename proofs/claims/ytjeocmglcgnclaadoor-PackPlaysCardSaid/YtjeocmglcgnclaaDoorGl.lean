/- Joined texts: Law Open FdOpen LawT. Each names its own conditions. -/
import Derived.Test.YtjeocmglcgnclaaDoorGa
import Derived.ProofKit
import Derived.OpenShut
import Derived.SizedLaws
import Derived.Deep.Slices
import Derived.Deep.Fields
import Derived.Test.YtjeocmglcgnclaaDoorFdFewJ
import Derived.LaidMore
import Derived.Lay
import Derived.SevenTiedAt
import Derived.Stop.Joined

/- From a walk of a law to the given statement: a law whose call returns true and turns nothing that was there meets its row. No condition beyond the lemma's own hypotheses. -/
namespace Go.Proofs.YtjeocmglcgnclaaDoor
open Go.ChangeShapes Go.WideShapes Go.ChangeAt Go.RowKit

theorem Tryd.own : ownKnob Tryd.prog.godebug = none := by kernel_rfl
theorem Tryd.laidOut : laidOutB Tryd.prog = true := by kernel_rfl

section
variable {H : Type} {enc : TypeId × Value → H} {P : Program}
theorem trodAll_stays (hl : laidOutB P = true) {W W' : World} {sp : Nat → Bool} : ∀ {ts : List TypeId} {vs : List Value} {ds : List (DataW H)} {ps : List MemPlace},
    (∀ t ∈ ts, P.readableRec t = true ∧ t < P.types.size) → DataW.TrodAll enc P W 0 (fun _ => true) true ts vs ds ps → (∀ x ∈ ps, W.sameAt W' x) → (∀ x ∈ ps, sp x.block = true) → DataW.TrodAll enc P W' 0 sp true ts vs ds ps
  | [], vs, ds, ps, _, h, _, _ => by
    obtain ⟨rfl, rfl, rfl⟩ := trodAll_nil h
    exact trodAll_mk0
  | t :: ts, vs, ds, ps, hr, h, hsame, hsp => by
    obtain ⟨v, vs', d, ds', p, q, rfl, rfl, rfl, h1, h2⟩ := trodAll_cons h
    obtain ⟨r1, r2⟩ := hr t List.mem_cons_self
    refine trodAll_cons_mk (WideElems.Trod_stays hl r1 r2 h1 (fun x hx => hsame x (List.mem_append_left _ hx)) (fun x hx => hsp x (List.mem_append_left _ hx))) ?_
    exact trodAll_stays hl (fun t' ht' => hr t' (List.mem_cons_of_mem _ ht')) h2 (fun x hx => hsame x (List.mem_append_right _ hx)) (fun x hx => hsp x (List.mem_append_right _ hx))
end

theorem trodAll_length {H : Type} {enc : TypeId × Value → H} {P : Program} {W : World} {b : Nat} {sp : Nat → Bool} {hd : Bool} : ∀ {ts : List TypeId} {vs : List Value} {ds : List (DataW H)} {ps : List MemPlace},
    DataW.TrodAll enc P W b sp hd ts vs ds ps → ds.length = ts.length
  | [], _, _, _, h => by
    obtain ⟨_, rfl, _⟩ := trodAll_nil h
    rfl
  | _ :: ts, _, _, _, h => by
    obtain ⟨_, _, _, ds', _, _, _, rfl, _, _, h2⟩ := trodAll_cons h
    simp [trodAll_length h2]

/-- A law: its call returns true and turns nothing that was there. -/
def LawWalk (F : FuncId) (fn : Func) : Prop :=
  ∀ (H : Type) (enc : TypeId × Value → H) (W : World) (base : Nat) (args : Array Value) (ds : List (DataW H)) (p : List MemPlace),
    (∀ (j : Nat) t v, fn.params[j]? = some t → args[j]? = some v → Value.okWide Tryd.prog W .any base t v) →
    DataW.TrodAll enc Tryd.prog W 0 (fun _ => true) true fn.params.toList args.toList ds p →
    (DataW.weightsEach Tryd.prog (fn.params.toList ++ []) (ds ++ [])).all (· ≤ reachBytes) = true →
    Calls Tryd.prog F args W fun e W' => e = .returned (.bool true) ∧ Below W.heap.size W W'

set_option maxRecDepth 100000 in
theorem law_lifted {F : FuncId} {fn : Func} {s : ChangeSpec} (walk : LawWalk F fn) (hres : fn.resultTypes = #[4]) (hv : s.vars = [])
    (hsp : ∀ (H : Type) (ds : List (DataW H)), ds.length = fn.params.toList.length → s.fn H (ds ++ []) = { results := [.lit (.bool true)], args := ds })
    (hread : ∀ t ∈ fn.params.toList, Tryd.prog.readableRec t = true ∧ t < Tryd.prog.types.size)
    (noInit : Tryd.checked.prog.inits.idxOf? F = none) (hfn : Tryd.checked.prog.funcs[F]? = some fn)
    (os : Os) (started : os.Started) (H : Type) (enc : TypeId × Value → H)
    (witness : ∃ (w : World) (tape : Tape) (i : Input), w.os = os ∧ (w.forCall tape i).Shaped Tryd.checked.prog ∧ i.vars = [] ∧ Input.okWide Tryd.checked.prog (w.forCall tape i) .any w.heap.size F i ∧
      s.pre6 enc Tryd.checked.prog fn [] false (w.forCall tape i).memory i.args ∧ ({} : Assume).holds Tryd.checked.prog (lone (Frame.enter Tryd.checked.prog F i.args .normal) [] (w.forCall tape i))) :
    ReturnsInHanded {} Tryd.checked os F .any (s.pre6 enc Tryd.prog fn [] false) (s.post enc Tryd.prog fn false true false false) := by
  refine returnsInHanded_of_change_sized (C := Tryd.checked) (s := s) (fn := fn) (conds := []) Tryd.own started noInit hfn witness ?_
  intro W base args ds gs before hval hW _ hsz _
  have hW' := hW
  obtain ⟨p, q, hA, hV, rfl, _, _⟩ := hW
  rw [hv] at hV
  obtain ⟨rfl, rfl⟩ := trodVars_none hV
  simp only [List.append_nil] at hW'
  have hlt : ∀ x ∈ p, x.block < W.heap.size := fun x hx => by simpa using hW'.lt x hx
  have hvt : s.plain.varTypes Tryd.checked.prog = [] := by
    have : s.plain.vars = [] := hv
    simp [DataSpec.varTypes, this]
  rw [hvt] at hsz
  refine (walk H enc W base args ds p hval hA hsz).mono fun e W' ⟨he, hb⟩ => ?_
  subst he
  have e1 := hsp H ds (trodAll_length hA)
  refine ⟨_, rfl, ds, [], p, [], p, [], hW', ?_, ?_, ?_, World.keptBut_mono (fun x hx => ⟨hx, .inr (.inl hx)⟩) (hb.frame (· ∈ p)), fun h => by cases h⟩
  · rw [e1, hres]
    exact trodAll_mk1 (shut_bool Tryd.underlying4 _)
  · rw [e1]
    exact trodAll_stays Tryd.laidOut hread hA (fun x hx => hb.same (hlt x hx)) (fun x hx => by simpa using hlt x hx)
  · rw [e1, hv]
    rfl
end Go.Proofs.YtjeocmglcgnclaaDoor

/- Arguments opened to the words of these texts: a slice of bytes that came in reads as bytes. -/
namespace Go.Proofs.YtjeocmglcgnclaaDoor
open Go.ChangeShapes Go.WideShapes Go.ChangeAt Go.RowKit Go.Deep

theorem byte_wf {n : Int} (h : (Lit.int .u8 n).wf = true) : 0 ≤ n ∧ n < 256 := by
  have := bounds_u8 h
  omega

section
variable {H : Type} {enc : TypeId × Value → H} {P : Program} {w : World} {base : Nat} {spare : Nat → Bool} {held : Bool}

theorem spot_none {w : World} {a : Addr} {v : Value} (h : w.cell? a = some v) : a.spot = none := World.cell?_spot h

/-- A []byte. -/
theorem trod_bytes {t e : TypeId} {fuel : Nat} {cs : List Value} {y : DataW H × List MemPlace} (ht : P.underlying t = some (.slice e)) (he : P.underlying e = some (.int .u8)) (hc : P.cellsOf e = 1)
    (h : DataW.trod enc P w base spare held fuel t cs = some y) : ∃ A n c l, cs = [.slice A n c] ∧ Bs w A n l ∧ n ≤ c ∧ c ≤ maxLen ∧ (y.1 = .nil ∧ c = 0 ∨ ∃ elems sp, y.1 = .slice elems sp ∧ elems.length = n ∧ (spare = (fun _ => true) → elems.length + sp.length = c)) := by
  rcases open_ints ht he hc h with ⟨hcs, hx⟩ | ⟨a, len, cap, zs, hcs, _, hl, hm, hz, hx, hcell, hwf⟩
  · exact ⟨none, 0, 0, [], hcs, Bs.nil w none, Nat.le_refl _, by unfold maxLen; omega, .inl ⟨by rw [hx], rfl⟩⟩
  · have hle : len ≤ zs.length := by rw [hz]; split <;> omega
    refine ⟨some a, len, cap, (zs.take len).map fun z => UInt8.ofNat z.toNat, hcs, ⟨by simp; omega, fun hn => ?_⟩, hl, hm, .inr ⟨lits .u8 (zs.take len), lits .u8 (zs.drop len), by rw [hx], by simp [lits]; omega, fun hs => ?_⟩⟩
    · obtain ⟨b, o, s⟩ := a
      have hs : s = none := by
        have := spot_none (hcell 0 (by omega))
        simpa [Addr.add] using this
      subst hs
      refine ⟨b, o, rfl, fun j u hu => ?_⟩
      have hj : j < len := by
        have := (List.getElem?_eq_some_iff.1 hu).1
        simp at this
        omega
      have h1 := hcell j (by omega)
      rw [add_plain] at h1
      rw [h1]
      have hjz : j < zs.length := by omega
      have hb := byte_wf (hwf zs[j] (List.getElem_mem hjz))
      simp only [List.map_map, List.getElem?_map, List.getElem?_take, if_pos hj, List.getElem?_eq_getElem hjz, Option.map_some, Option.some.injEq, Function.comp] at hu
      rw [← hu, ← bv_mk _ hb.1 hb.2]
      simp [List.getElem?_eq_getElem hjz]
    · have : zs.length = cap := by rw [hz, hs]; rfl
      simp [lits]
      omega
end
end Go.Proofs.YtjeocmglcgnclaaDoor

/- A slice of fields that came in, opened. -/
namespace Go.Proofs.YtjeocmglcgnclaaDoor
open Go.RowKit
open Go.ChangeShapes Go.WideShapes Go.ChangeAt Go.Deep
section
variable {H : Type} {enc : TypeId × Value → H} {w : World} {base : Nat} {spare : Nat → Bool} {held : Bool}
set_option maxRecDepth 100000 in
theorem TryD.cells_string : Tryd.prog.cellsOf 9 = 1 := by kernel_rfl
set_option maxRecDepth 100000 in
theorem TryD.cells_bool : Tryd.prog.cellsOf 4 = 1 := by kernel_rfl
set_option maxRecDepth 100000 in
theorem TryD.cells_field : Tryd.prog.cellsOf 23 = 3 := by kernel_rfl
set_option maxRecDepth 100000 in
theorem TryD.bytes_field : Tryd.prog.bytesOf 23 = 40 := by kernel_rfl

set_option maxRecDepth 100000 in
theorem trod_field {fuel : Nat} {cs : List Value} {y : DataW H × List MemPlace} (h : DataW.trod enc Tryd.prog w base spare held fuel 23 cs = some y) :
    ∃ x : Fd, cs = x.cells := by
  obtain ⟨ys, n, _, _, hlen, hyl, hf⟩ := DataW.trod_struct Tryd.underlying23 h
  rw [TryD.cells_field] at hlen
  match cs, hlen with
  | [c0, c1, c2], _ =>
    have hys : ∀ i, i < 3 → ∃ z, ys[i]? = some z := fun i hi => ⟨ys[i]'(by simp at hyl; omega), List.getElem?_eq_getElem _⟩
    obtain ⟨z0, hz0⟩ := hys 0 (by omega)
    obtain ⟨z1, hz1⟩ := hys 1 (by omega)
    obtain ⟨z2, hz2⟩ := hys 2 (by omega)
    have f0 := (hf 0 _ rfl).trans hz0
    have f1 := (hf 1 _ rfl).trans hz1
    have f2 := (hf 2 _ rfl).trans hz2
    have f0 : DataW.trod enc Tryd.prog w base spare held n 9 [c0] = some z0 := by simpa [TryD.cells_string] using f0
    have f1 : DataW.trod enc Tryd.prog w base spare held n 9 [c1] = some z1 := by simpa [TryD.cells_string] using f1
    have f2 : DataW.trod enc Tryd.prog w base spare held n 4 [c2] = some z2 := by simpa [TryD.cells_bool] using f2
    obtain ⟨a, e0, _, _⟩ := DataW.trod_string Tryd.underlying9 f0
    obtain ⟨b, e1, _, _⟩ := DataW.trod_string Tryd.underlying9 f1
    obtain ⟨c, e2, _⟩ := DataW.trod_bool Tryd.underlying4 f2
    simp at e0 e1 e2
    subst e0 e1 e2
    exact ⟨⟨a, b, c⟩, rfl⟩

set_option maxRecDepth 100000 in
theorem trod_fds {fuel : Nat} {cs : List Value} {y : DataW H × List MemPlace} (h : DataW.trod enc Tryd.prog w base spare held fuel 33 cs = some y) :
    ∃ A n c os, cs = [.slice A n c] ∧ Fs w A n os ∧ n ≤ c ∧ (y.1 = .nil ∧ n = 0 ∨ ∃ elems sp, y.1 = .slice elems sp ∧ elems.length = n) := by
  rcases open_slice Tryd.underlying33 h with ⟨hcs, hx⟩ | ⟨a, len, cap, m, n, D, Pl, hcs, _, hl, _, hmm, hx, hi⟩
  · exact ⟨none, 0, 0, [], hcs, Rd.nil w 3 none, Nat.le_refl _, .inl ⟨by rw [hx], rfl⟩⟩
  · have hlm : len ≤ m := by rw [hmm]; split <;> omega
    have hex : ∀ i, ∃ x : Fd, i < len → (∀ j u, (x.cells)[j]? = some u → w.cell? (a.add (i * 3 + j)) = some u) := by
      intro i
      by_cases hil : i < len
      · obtain ⟨cs', hc, ht⟩ := hi i (by omega)
        rw [TryD.cells_field] at hc
        obtain ⟨x, hxc⟩ := trod_field ht
        obtain ⟨_, hcl, hat⟩ := World.cells?_some hc
        refine ⟨x, fun _ j u hu => ?_⟩
        have hj : j < 3 := by
          have := (List.getElem?_eq_some_iff.1 hu).1
          simpa [Fd.cells] using this
        rw [← Go.Deep.add_add, hat j hj, hxc, hu]
      · exact ⟨⟨⟨#[]⟩, ⟨#[]⟩, false⟩, fun h => absurd h hil⟩
    obtain ⟨X, hX⟩ := Classical.axiomOfChoice hex
    refine ⟨some a, len, cap, (List.range len).map X, hcs, ⟨by rw [flat_len]; simp, fun hn => ?_⟩, hl, .inr ⟨_, _, by rw [hx], by simp⟩⟩
    obtain ⟨b, o, s⟩ := a
    have hs : s = none := by
      have h0 := hX 0 hn 0 _ rfl
      have := spot_none h0
      simpa [Addr.add] using this
    subst hs
    refine ⟨b, o, rfl, fun j u hu => ?_⟩
    have hjl : j < len * 3 := by
      have := (List.getElem?_eq_some_iff.1 hu).1
      rw [flat_len] at this
      simpa using this
    have hil : j / 3 < len := by omega
    have hxi : ((List.range len).map X)[j / 3]? = some (X (j / 3)) := by simp [List.getElem?_map, List.getElem?_range hil]
    obtain ⟨f0, f1, f2⟩ := flat_at hxi
    have hc := hX (j / 3) hil
    have key : ∀ r, j = j / 3 * 3 + r → (X (j / 3)).cells[r]? = (flat ((List.range len).map X))[j]? → w.cell? ⟨b, o + j, none⟩ = some u := by
      intro r hr he
      have := hc r u (he.trans hu)
      rw [add_plain, ← hr] at this
      exact this
    have h3 : j % 3 = 0 ∨ j % 3 = 1 ∨ j % 3 = 2 := by omega
    rcases h3 with h3 | h3 | h3
    · exact key 0 (by omega) (by rw [show j = j / 3 * 3 by omega] ; rw [show j / 3 * 3 / 3 = j / 3 by omega]; exact f0.symm)
    · exact key 1 (by omega) (by rw [show j = j / 3 * 3 + 1 by omega] ; rw [show (j / 3 * 3 + 1) / 3 = j / 3 by omega]; exact f1.symm)
    · exact key 2 (by omega) (by rw [show j = j / 3 * 3 + 2 by omega] ; rw [show (j / 3 * 3 + 2) / 3 = j / 3 by omega]; exact f2.symm)
end

set_option maxRecDepth 100000 in
theorem arg_fields {H : Type} {enc : TypeId × Value → H} {W : World} {b0 base : Nat} {spare : Nat → Bool} {held : Bool} {v : Value} {d : DataW H} {p : List MemPlace} (hv : Value.okWide Tryd.prog W .any b0 33 v) (h : DataW.Trod enc Tryd.prog W base spare held 33 v d p) :
    ∃ A n c os, v = .slice A n c ∧ Fs W A n os ∧ n ≤ c ∧ (d = .nil ∧ n = 0 ∨ ∃ elems sp, d = .slice elems sp ∧ elems.length = n) := by
  obtain ⟨a0, len0, cap0, rfl⟩ := okWide_slice Tryd.underlying33 hv
  obtain ⟨fuel, hf⟩ := h
  obtain ⟨A, n, c, fs, hcs, hb, hle, hd⟩ := trod_fds hf
  simp [Value.cells] at hcs
  obtain ⟨rfl, rfl, rfl⟩ := hcs
  exact ⟨_, _, _, fs, rfl, hb, hle, hd⟩

set_option maxRecDepth 100000 in
theorem fields_len {H : Type} {ds : List (DataW H)} {ts : List TypeId} {j : Nat} {d : DataW H} {n : Nat} (hsz : (DataW.weightsEach Tryd.prog ts ds).all (· ≤ reachBytes) = true)
    (ht : ts[j]? = some 33) (hd : ds[j]? = some d) (h : d = .nil ∧ n = 0 ∨ ∃ elems sp, d = .slice elems sp ∧ elems.length = n) : n ≤ 140737488355328 := by
  rcases h with ⟨_, rfl⟩ | ⟨elems, sp, rfl, rfl⟩
  · omega
  · have := sized_slice hsz ht hd Tryd.underlying33
    rw [TryD.bytes_field] at this
    simp only [reachBytes] at this
    omega
end Go.Proofs.YtjeocmglcgnclaaDoor

/- From a walk of a law to the given statement of a row that lists variables: a law whose call returns true and turns nothing that was there meets its row. No condition beyond the lemma's own hypotheses. -/
namespace Go.Proofs.YtjeocmglcgnclaaDoor
open Go.ChangeShapes Go.WideShapes Go.ChangeAt Go.RowKit

set_option maxRecDepth 100000 in
theorem law_laid {F : FuncId} {fn : Func} {s : ChangeSpec} {laid : List (String × DataW Unit)} (walk : LawWalk F fn) (hres : fn.resultTypes = #[4]) (hv : s.vars = [])
    (hsp : ∀ (H : Type) (ds : List (DataW H)), ds.length = fn.params.toList.length → s.fn H (ds ++ []) = { results := [.lit (.bool true)], args := ds })
    (hread : ∀ t ∈ fn.params.toList, Tryd.prog.readableRec t = true ∧ t < Tryd.prog.types.size)
    (noInit : Tryd.checked.prog.inits.idxOf? F = none) (hfn : Tryd.checked.prog.funcs[F]? = some fn)
    (os : Os) (started : os.Started) (H : Type) (enc : TypeId × Value → H)
    (witness : ∃ (w : World) (tape : Tape) (i : Input), w.os = os ∧ (w.forCall tape i).Shaped Tryd.checked.prog ∧ i.vars = [] ∧ Input.okWide Tryd.checked.prog (w.forCall tape i) .any w.heap.size F i ∧
      ((s.pre enc Tryd.checked.prog fn [] false (w.forCall tape i).memory i.args ∧ laidMetH Tryd.prog laid (w.forCall tape i).memory) ∧ sizedMet enc Tryd.checked.prog fn (OpenSpec.ofChange s) false (w.forCall tape i).memory i.args) ∧ ({} : Assume).holds Tryd.checked.prog (lone (Frame.enter Tryd.checked.prog F i.args .normal) [] (w.forCall tape i))) :
    ReturnsInHanded {} Tryd.checked os F .any (fun w args => (s.pre enc Tryd.prog fn [] false w args ∧ laidMetH Tryd.prog laid w) ∧ sizedMet enc Tryd.prog fn (OpenSpec.ofChange s) false w args) (s.post enc Tryd.prog fn false true false false) := by
  refine returnsInHanded_of_change_and (C := Tryd.checked) (s := s) (fn := fn) (conds := []) (X := fun w _ => laidMetH Tryd.prog laid w) (fun _ _ _ hh h => h.of_heap hh) Tryd.own started noInit hfn witness ?_
  intro W base args ds gs before hval hW _ hsz _ _
  have hW' := hW
  obtain ⟨p, q, hA, hV, rfl, _, _⟩ := hW
  rw [hv] at hV
  obtain ⟨rfl, rfl⟩ := trodVars_none hV
  simp only [List.append_nil] at hW'
  have hlt : ∀ x ∈ p, x.block < W.heap.size := fun x hx => by simpa using hW'.lt x hx
  have hvt : s.plain.varTypes Tryd.checked.prog = [] := by
    have : s.plain.vars = [] := hv
    simp [DataSpec.varTypes, this]
  rw [hvt] at hsz
  refine (walk H enc W base args ds p hval hA hsz).mono fun e W' ⟨he, hb⟩ => ?_
  subst he
  have e1 := hsp H ds (trodAll_length hA)
  refine ⟨_, rfl, ds, [], p, [], p, [], hW', ?_, ?_, ?_, World.keptBut_mono (fun x hx => ⟨hx, .inr (.inl hx)⟩) (hb.frame (· ∈ p)), fun h => by cases h⟩
  · rw [e1, hres]
    exact trodAll_mk1 (shut_bool Tryd.underlying4 _)
  · rw [e1]
    exact trodAll_stays Tryd.laidOut hread hA (fun x hx => hb.same (hlt x hx)) (fun x hx => by simpa using hlt x hx)
  · rw [e1, hv]
    rfl
end Go.Proofs.YtjeocmglcgnclaaDoor
