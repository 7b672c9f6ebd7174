/- The law package's calls of a tunnel: a slice of them, Few, and how they come in. Few asks that there are at most 2^47. -/
import Derived.Test.YtefhadfcipifmaaTunFirst
import Derived.Test.YtefhadfcipifmaaArgs
namespace Go.Proofs.Ytefhadfcipifmaa
open Go.RowKit
attribute [local go_sem] kd kdS if_min if_max if_minN if_maxN

/-- A call: what kind, numbers, bytes and where they lie, a string, an end. -/
structure Tc where
  k : Int
  f : Int
  t : Int
  A : Option Addr
  n : Nat
  c : Nat
  l : List UInt8
  ip : ByteArray
  en : Bool
def Tc.cells (x : Tc) : List Value := [.int .i64 x.k, .int .i64 x.f, .int .i64 x.t, .slice x.A x.n x.c, .string x.ip, .bool x.en]

/-- A slice of calls that reads as fs. -/
structure Tcs (w : World) (A : Option Addr) (n : Nat) (fs : List Tc) : Prop where
  len : fs.length = n
  at_ : 0 < n → ∃ b o, A = some ⟨b, o, none⟩ ∧ ∀ i x, fs[i]? = some x → w.cell? ⟨b, o + i * 6, none⟩ = some (.int .i64 x.k) ∧ w.cell? ⟨b, o + i * 6 + 1, none⟩ = some (.int .i64 x.f) ∧ w.cell? ⟨b, o + i * 6 + 2, none⟩ = some (.int .i64 x.t) ∧ w.cell? ⟨b, o + i * 6 + 3, none⟩ = some (.slice x.A x.n x.c) ∧ w.cell? ⟨b, o + i * 6 + 4, none⟩ = some (.string x.ip) ∧ w.cell? ⟨b, o + i * 6 + 5, none⟩ = some (.bool x.en)
  body : ∀ x ∈ fs, Bs w x.A x.n x.l ∧ x.n ≤ x.c
theorem Tcs.below {w w' : World} {A : Option Addr} {n : Nat} {fs : List Tc} (h : Tcs w A n fs) (hb : Below w.heap.size w w') : Tcs w' A n fs :=
  ⟨h.len, fun hn => by
    obtain ⟨b, o, e, hc⟩ := h.at_ hn
    refine ⟨b, o, e, fun i x hx => ?_⟩
    obtain ⟨h0, h1, h2, h3, h4, h5⟩ := hc i x hx
    exact ⟨below_keep hb _ _ h0, below_keep hb _ _ h1, below_keep hb _ _ h2, below_keep hb _ _ h3, below_keep hb _ _ h4, below_keep hb _ _ h5⟩, fun x hx => ⟨(h.body x hx).1.below hb, (h.body x hx).2⟩⟩

def fewSum (fs : List Tc) (k : Nat) : Nat := ((fs.take k).map fun x => min x.n 200001 + min x.ip.size 200001).sum
def fewB (fs : List Tc) : Bool := decide (fs.length ≤ 300) && decide (fewSum fs 300 ≤ 200000)
theorem fewSum_succ {fs : List Tc} {k : Nat} {x : Tc} (h : fs[k]? = some x) : fewSum fs (k + 1) = fewSum fs k + (min x.n 200001 + min x.ip.size 200001) := by
  unfold fewSum
  rw [List.take_add_one, h]
  simp
theorem fewSum_le (fs : List Tc) (k : Nat) : fewSum fs k ≤ k * 400002 := by
  induction k with
  | zero => simp [fewSum]
  | succ k ih =>
    rcases h : fs[k]? with _ | x
    · have : fewSum fs (k + 1) = fewSum fs k := by unfold fewSum; rw [List.take_add_one, h]; simp
      omega
    · rw [fewSum_succ h]; omega
theorem fewSum_all {fs : List Tc} {k : Nat} (h : fs.length ≤ k) : fewSum fs k = fewSum fs fs.length := by
  unfold fewSum
  rw [List.take_of_length_le h, List.take_of_length_le (Nat.le_refl _)]

theorem fewB_mid {fs : List Tc} {n k : Nat} (hn : fs.length = n) (hk1 : k ≤ 300) (h : ¬ (k < n ∧ k < 300)) :
    fewB fs = (decide ((n : Int) ≤ 300) && decide ((fewSum fs k : Int) ≤ 200000)) := by
  unfold fewB
  rw [hn]
  by_cases h1 : 300 < n
  · rw [show decide (n ≤ 300) = false by simp; omega, show decide ((n : Int) ≤ 300) = false by simp; omega]
    rfl
  · rw [show fewSum fs 300 = fewSum fs k by rw [fewSum_all (k := 300) (by omega), fewSum_all (k := k) (by omega)]]
    congr 1
    · exact decide_eq_decide.2 (by omega)
    · exact decide_eq_decide.2 (by omega)

set_option maxHeartbeats 1000000 in
set_option maxRecDepth 100000 in
theorem few_any (A : Option Addr) (n c : Nat) (fs : List Tc) (w : World) (h : Tcs w A n fs) (hn : n ≤ 140737488355328) :
    Calls Try.prog 28 #[.slice A n c] w fun e w' => e = .returned (.bool (fewB fs)) ∧ Below w.heap.size w w' := by
  have H := hid h
  clear h
  go_enter Try.func28, Try.ntmps28
  go_wp2_with fail
  go_loopw [3, 4] (fun o i wr => ∃ k : Nat, k ≤ n ∧ k ≤ 300 ∧ i = .int .i64 k ∧ o = .int .i64 (fewSum fs k) ∧ Below w.heap.size w wr) (fun _ i _ => n - (intOf i).toNat)
  case atStart => exact ⟨0, Nat.zero_le _, by omega, rfl, rfl, Below.refl _ _⟩
  case round =>
    obtain ⟨k, hk, hk1, rfl, rfl, hb⟩ := hrel
    have hq := fewSum_le fs k
    have HB := hid hb
    clear hb
    by_cases hlt : k < n ∧ k < 300
    · obtain ⟨hl1, hl2⟩ := hlt
      obtain ⟨b, o, rfl, hc⟩ := (H.out.below HB.out).at_ (by omega)
      obtain ⟨x, hx⟩ : ∃ x, fs[k]? = some x := ⟨fs[k]'(by have := H.out.len; omega), List.getElem?_eq_getElem _⟩
      obtain ⟨h0, h1, h2, h3, h4, h5⟩ := hc k x hx
      have HS := hid (fewSum_succ hx)
      clear hc hx h0 h1 h2 h5
      obtain ⟨d1, hd1⟩ : ∃ d : Nat, min (200001 : Int) (x.n : Int) = d := ⟨min x.n 200001, by omega⟩
      obtain ⟨d2, hd2⟩ : ∃ d : Nat, min (200001 : Int) (x.ip.size : Int) = d := ⟨min x.ip.size 200001, by omega⟩
      have hq1 := IntWalk.i64_in ((fewSum fs k : Int) + d1) (by omega)
      have hq2 := IntWalk.i64_in ((fewSum fs k : Int) + d1 + d2) (by omega)
      have HD := hid (And.intro hd1 hd2)
      go_wp2_with fail
      have HBD := hid (HB.out.drew)
      (refine wp_mix ?_ ?_ ?_; (focus kernel_rfl); (focus kernel_rfl); intro KK hKK; go_wp2_with (first
            | (fail)
            | (with_reducible refine mix_nil ?_)
            | ((with_reducible refine mix_on ?_ ?_); (focus rfl); intro K hK; go_simp; (first | ((with_reducible refine hK _ _ ?_); clear hK K) | skip))
            | ((with_reducible refine mix_off ?_ ?_); (focus rfl); intro K hK; go_simp; (first | ((with_reducible refine hK _ _ ?_); clear hK K) | skip))
            | ((with_reducible refine mix_step ?_); intro K hK; go_simp; (first | ((with_reducible refine hK _ _ ?_); clear hK K) | skip))))
      go_roundw
      case rel => exact ⟨k + 1, by omega, by omega, by go_num, by (rw [HS.out]; have := HD.out.1; have := HD.out.2; go_num), HBD.out⟩
      case measure => simp [intOf]; omega
    · have hlen := H.out.len
      have HM := hid (fewB_mid hlen hk1 hlt)
      clear hlen
      by_cases hk2 : k < n
      · have hk3 : k = 300 := by omega
        have HB2 : Hid (fewB fs = false) := by
          show _ = _
          rw [HM.out, show decide ((n : Int) ≤ 300) = false by simp; omega]
          rfl
        subst hk3
        go_wp2_with fail
        all_goals
          go_ret
          exact ⟨by rw [HB2.out]; rfl, HB.out⟩
      · have HB2 : Hid (fewB fs = decide ((fewSum fs k : Int) ≤ 200000)) := by
          show _ = _
          rw [HM.out, show decide ((n : Int) ≤ 300) = true by simp; omega]
          rfl
        go_wp2_with fail
        all_goals
          go_ret
          exact ⟨by rw [HB2.out]; rfl, HB.out⟩

theorem fewSum_mono (fs : List Tc) {k : Nat} (hk : k ≤ 300) : fewSum fs k ≤ fewSum fs 300 := by
  obtain ⟨d, hd⟩ : ∃ d, 300 = k + d := ⟨300 - k, by omega⟩
  unfold fewSum
  rw [hd]
  rw [List.take_add]
  simp
theorem fewB_le {fs : List Tc} (h : fewB fs = true) : fs.length ≤ 300 ∧ fewSum fs 300 ≤ 200000 := by
  simpa [fewB, Bool.and_eq_true] using h

open Go.ChangeShapes Go.WideShapes Go.ChangeAt Go.Deep
section
variable {H : Type} {enc : TypeId × Value → H} {w : World} {base : Nat} {spare : Nat → Bool} {held : Bool}
theorem TryT.cells_tc : Try.prog.cellsOf 50 = 6 := by kernel_rfl
theorem TryT.bytes_tc : 1 ≤ Try.prog.bytesOf 50 := of_decide_eq_true (by kernel_rfl)
theorem TryT.cells_int : Try.prog.cellsOf 3 = 1 := by kernel_rfl
theorem TryT.cells_bytes : Try.prog.cellsOf 22 = 1 := by kernel_rfl
theorem TryT.cells_string : Try.prog.cellsOf 9 = 1 := by kernel_rfl
theorem TryT.cells_bool : Try.prog.cellsOf 4 = 1 := by kernel_rfl

theorem trod_tc {fuel : Nat} {cs : List Value} {y : DataW H × List MemPlace} (h : DataW.trod enc Try.prog w base spare held fuel 50 cs = some y) :
    ∃ x : Tc, cs = x.cells ∧ Bs w x.A x.n x.l ∧ x.n ≤ x.c := by
  obtain ⟨ys, n, _, _, hlen, hyl, hf⟩ := DataW.trod_struct Try.underlying50 h
  rw [TryT.cells_tc] at hlen
  match cs, hlen with
  | [c0, c1, c2, c3, c4, c5], _ =>
    have hys : ∀ i, i < 6 → ∃ z, ys[i]? = some z := fun i hi => ⟨ys[i]'(by simp at hyl; omega), List.getElem?_eq_getElem _⟩
    obtain ⟨z0, hz0⟩ := hys 0 (by omega)
    obtain ⟨z1, hz1⟩ := hys 1 (by omega)
    obtain ⟨z2, hz2⟩ := hys 2 (by omega)
    obtain ⟨z3, hz3⟩ := hys 3 (by omega)
    obtain ⟨z4, hz4⟩ := hys 4 (by omega)
    obtain ⟨z5, hz5⟩ := hys 5 (by omega)
    have f0 := (hf 0 _ rfl).trans hz0
    have f1 := (hf 1 _ rfl).trans hz1
    have f2 := (hf 2 _ rfl).trans hz2
    have f3 := (hf 3 _ rfl).trans hz3
    have f4 := (hf 4 _ rfl).trans hz4
    have f5 := (hf 5 _ rfl).trans hz5
    have f0 : DataW.trod enc Try.prog w base spare held n 3 [c0] = some z0 := by simpa [TryT.cells_int] using f0
    have f1 : DataW.trod enc Try.prog w base spare held n 3 [c1] = some z1 := by simpa [TryT.cells_int] using f1
    have f2 : DataW.trod enc Try.prog w base spare held n 3 [c2] = some z2 := by simpa [TryT.cells_int] using f2
    have f3 : DataW.trod enc Try.prog w base spare held n 22 [c3] = some z3 := by simpa [TryT.cells_bytes] using f3
    have f4 : DataW.trod enc Try.prog w base spare held n 9 [c4] = some z4 := by simpa [TryT.cells_string] using f4
    have f5 : DataW.trod enc Try.prog w base spare held n 4 [c5] = some z5 := by simpa [TryT.cells_bool] using f5
    obtain ⟨k, e0, _, _⟩ := DataW.trod_int Try.underlying3 f0
    obtain ⟨f, e1, _, _⟩ := DataW.trod_int Try.underlying3 f1
    obtain ⟨t, e2, _, _⟩ := DataW.trod_int Try.underlying3 f2
    obtain ⟨A, m, c, l, e3, hb, hle, _⟩ := trod_bytes Try.underlying22 Try.underlying5 TryA.cells_u8 f3
    obtain ⟨ip, e4, _, _⟩ := DataW.trod_string Try.underlying9 f4
    obtain ⟨en, e5, _⟩ := DataW.trod_bool Try.underlying4 f5
    simp at e0 e1 e2 e3 e4 e5
    subst e0 e1 e2 e3 e4 e5
    exact ⟨⟨k, f, t, A, m, c, l, ip, en⟩, rfl, hb, hle⟩

theorem trod_tcs {fuel : Nat} {cs : List Value} {y : DataW H × List MemPlace} (h : DataW.trod enc Try.prog w base spare held fuel 47 cs = some y) :
    ∃ A n c fs, cs = [.slice A n c] ∧ Tcs w A n fs ∧ n ≤ c ∧ (y.1 = .nil ∧ n = 0 ∨ ∃ elems sp, y.1 = .slice elems sp ∧ elems.length = n) := by
  rcases open_slice Try.underlying47 h with ⟨hcs, hx⟩ | ⟨a, len, cap, m, n, D, Pl, hcs, _, hl, _, hmm, hx, hi⟩
  · exact ⟨none, 0, 0, [], hcs, ⟨rfl, fun h => absurd h (by omega), fun x hx => by cases hx⟩, Nat.le_refl _, .inl ⟨by rw [hx], rfl⟩⟩
  · have hlm : len ≤ m := by rw [hmm]; split <;> omega
    have hex : ∀ i, ∃ x : Tc, i < len → (∀ j u, x.cells[j]? = some u → w.cell? (a.add (i * 6 + j)) = some u) ∧ Bs w x.A x.n x.l ∧ x.n ≤ x.c := by
      intro i
      by_cases hil : i < len
      · obtain ⟨cs', hc, ht⟩ := hi i (by omega)
        rw [TryT.cells_tc] at hc
        obtain ⟨x, hxc, hb, hle⟩ := trod_tc ht
        obtain ⟨_, hcl, hat⟩ := World.cells?_some hc
        refine ⟨x, fun _ => ⟨fun j u hu => ?_, hb, hle⟩⟩
        have hj : j < 6 := by
          have := (List.getElem?_eq_some_iff.1 hu).1
          simpa [Tc.cells] using this
        rw [← Go.Deep.add_add, hat j hj, hxc, hu]
      · exact ⟨⟨0, 0, 0, none, 0, 0, [], ByteArray.empty, false⟩, fun h => absurd h hil⟩
    obtain ⟨X, hX⟩ := Classical.axiomOfChoice hex
    refine ⟨some a, len, cap, (List.range len).map X, hcs, ⟨by simp, fun hn => ?_, fun x hx => ?_⟩, hl, .inr ⟨_, _, by rw [hx], by simp⟩⟩
    · obtain ⟨b, o, s⟩ := a
      have hs : s = none := by
        have h0 := (hX 0 hn).1 0 _ rfl
        have := spot_none h0
        simpa [Addr.add] using this
      subst hs
      refine ⟨b, o, rfl, fun i x hx => ?_⟩
      have hil : i < len := by
        have := (List.getElem?_eq_some_iff.1 hx).1
        simpa using this
      have hxx : x = X i := by
        simp [List.getElem?_map, List.getElem?_range hil] at hx
        exact hx.symm
      subst hxx
      have hc := (hX i hil).1
      have h0 := hc 0 _ rfl
      have h1 := hc 1 _ rfl
      have h2 := hc 2 _ rfl
      have h3 := hc 3 _ rfl
      have h4 := hc 4 _ rfl
      have h5 := hc 5 _ rfl
      rw [add_plain] at h0 h1 h2 h3 h4 h5
      exact ⟨h0, h1, h2, h3, h4, h5⟩
    · obtain ⟨i, hi', rfl⟩ := List.mem_map.1 hx
      exact (hX i (by simpa using hi')).2
end

theorem arg_tcs {H : Type} {enc : TypeId × Value → H} {W : World} {b0 base : Nat} {spare : Nat → Bool} {held : Bool} {v : Value} {d : DataW H} {p : List MemPlace} (hv : Value.okWide Try.prog W .any b0 47 v) (h : DataW.Trod enc Try.prog W base spare held 47 v d p) :
    ∃ A n c fs, v = .slice A n c ∧ Tcs W A n fs ∧ n ≤ c ∧ (d = .nil ∧ n = 0 ∨ ∃ elems sp, d = .slice elems sp ∧ elems.length = n) := by
  obtain ⟨a0, len0, cap0, rfl⟩ := okWide_slice Try.underlying47 hv
  obtain ⟨fuel, hf⟩ := h
  obtain ⟨A, n, c, fs, hcs, hb, hle, hd⟩ := trod_tcs hf
  simp [Value.cells] at hcs
  obtain ⟨rfl, rfl, rfl⟩ := hcs
  exact ⟨_, _, _, fs, rfl, hb, hle, hd⟩

theorem tcs_len {H : Type} {ds : List (DataW H)} {ts : List TypeId} {j : Nat} {d : DataW H} {n : Nat} (hsz : (DataW.weightsEach Try.prog ts ds).all (· ≤ reachBytes) = true)
    (ht : ts[j]? = some 47) (hd : ds[j]? = some d) (h : d = .nil ∧ n = 0 ∨ ∃ elems sp, d = .slice elems sp ∧ elems.length = n) : n ≤ 140737488355328 := by
  rcases h with ⟨_, rfl⟩ | ⟨elems, sp, rfl, rfl⟩
  · omega
  · have := sized_slice hsz ht hd Try.underlying47
    simp only [reachBytes] at this
    have h1 := TryT.bytes_tc
    have h2 := Nat.mul_le_mul_left (elems.length + sp.length) h1
    omega
end Go.Proofs.Ytefhadfcipifmaa
