/- wlvlaw7.Few, called once, over a slice of calls. -/
import Derived.Test.YtlnhnnejmofpcaaDynOps
import Derived.Test.YtlnhnnejmofpcaaFdFew
namespace Go.Proofs.Ytlnhnnejmofpcaa
open Go.RowKit
attribute [local go_sem] kd kdS

/-- A call of the table: 0 Add, 1 Limit, 2 Get, 3 Find. -/
structure Op7 where
  k : Int
  n : Int
  f : Fd
/-- A slice of calls that reads as os. -/
structure Os7 (w : World) (A : Option Addr) (n : Nat) (os : List Op7) : Prop where
  len : os.length = n
  at_ : 0 < n → ∃ b o, A = some ⟨b, o, none⟩ ∧ ∀ i x, os[i]? = some x → w.cell? ⟨b, o + i * 5, none⟩ = some (.int .i64 x.k) ∧ w.cell? ⟨b, o + i * 5 + 1, none⟩ = some (.int .i64 x.n) ∧ w.cell? ⟨b, o + i * 5 + 2, none⟩ = some (.string x.f.n) ∧ w.cell? ⟨b, o + i * 5 + 3, none⟩ = some (.string x.f.v) ∧ w.cell? ⟨b, o + i * 5 + 4, none⟩ = some (.bool x.f.x)
theorem Os7.below {w w' : World} {A : Option Addr} {n : Nat} {os : List Op7} (h : Os7 w A n os) (hb : Below w.heap.size w w') : Os7 w' A n os := by
  refine ⟨h.len, fun hn => ?_⟩
  obtain ⟨b, o, hA, hc⟩ := h.at_ hn
  refine ⟨b, o, hA, fun i x hx => ?_⟩
  obtain ⟨h0, h1, h2, h3, h4⟩ := hc i x hx
  have k := below_keep hb
  exact ⟨k _ _ h0, k _ _ h1, k _ _ h2, k _ _ h3, k _ _ h4⟩
theorem Os7.nth {w : World} {A : Option Addr} {n : Nat} {os : List Op7} (h : Os7 w A n os) {i : Nat} (hi : i < n) : ∃ b o x, A = some ⟨b, o, none⟩ ∧ os[i]? = some x ∧ w.cell? ⟨b, o + i * 5, none⟩ = some (.int .i64 x.k) ∧ w.cell? ⟨b, o + i * 5 + 1, none⟩ = some (.int .i64 x.n) ∧ w.cell? ⟨b, o + i * 5 + 2, none⟩ = some (.string x.f.n) ∧ w.cell? ⟨b, o + i * 5 + 3, none⟩ = some (.string x.f.v) ∧ w.cell? ⟨b, o + i * 5 + 4, none⟩ = some (.bool x.f.x) := by
  obtain ⟨b, o, hA, hc⟩ := h.at_ (by omega)
  have hx : os[i]? = some (os[i]'(by rw [h.len]; exact hi)) := List.getElem?_eq_getElem _
  exact ⟨b, o, _, hA, hx, hc i _ hx⟩

def few7 (os : List Op7) : Bool := fewF (os.map Op7.f)
theorem few7_long {os : List Op7} (h : 200 < os.length) : few7 os = false := by
  unfold few7 fewF
  rw [show decide ((os.map Op7.f).length ≤ 200) = false by simp; omega]
  rfl

set_option maxHeartbeats 400000 in
set_option maxRecDepth 100000 in
theorem few7_any (A : Option Addr) (n c : Nat) (os : List Op7) (w : World) (h : Os7 w A n os) (hn : n ≤ 140737488355328) :
    Calls Try.prog 14 #[.slice A n c] w fun e w' => e = .returned (.bool (few7 os)) ∧ Below w.heap.size w w' := by
  obtain ⟨i0, hi0, hz0, hz1, hz2⟩ := fd_parts
  have hi := hid hi0
  have hz := hid hz0
  have hsz0 := hid hz1
  have hby := hid hz2
  have H := hid h
  have HL := hid h.len
  clear hi0 hz0 hz1 hz2 h
  go_enter Try.func14, Try.ntmps14
  go_wp2_with fail
  go_loopw [3, 4] (fun v i w' => ∃ (k : Nat) (A' : Option Addr) (c' : Nat), k ≤ n ∧ k ≤ 200 ∧ i = .int .i64 k ∧ v = .slice A' k c' ∧ w'.ownsRow w.heap.size 30 3 (.slice A' k c') k (flat ((os.take k).map Op7.f)) ∧ Below w.heap.size w w') (fun _ i _ => n - (intOf i).toNat)
  case atStart => exact ⟨0, none, 0, Nat.zero_le _, by omega, rfl, rfl, World.ownsRow_nil _ _ _ _, Below.refl _ _⟩
  case round =>
    obtain ⟨k, A', c', hk, hk1, rfl, rfl, hown, hb⟩ := hrel
    have HO := hid hown
    have HB := hid hb
    by_cases hlt : k < n ∧ k < 200
    · obtain ⟨hl1, hl2⟩ := hlt
      obtain ⟨b, o, x, rfl, hx, h0, h1, h2, h3, h4⟩ := (H.out.below hb).nth hl1
      have HX := hid hx
      have hwb : Hid (w.heap.size ≤ wr.heap.size) := hb.size
      clear h0 h1 hown hb hx
      go_wp2_with (at_builtin; go_loud (refine wpList_app _ rfl _ _ _ rfl w.heap.size 30 i0 _ 3 40 Try.underlying38 hi.out hz.out hsz0.out hby.out rfl (by omega) _ k _ rfl (own_below HO.out ((Below.refl _ _).alloc (Nat.le_refl _) _)) _ 1 1 _ rfl (rd_new rfl ?_) ?_ (by omega) (by omega) ?_ ?_; (focus rfl); (focus (simp [Value.oneCell'])); (focus (have := hwb.out; rw [World.size_alloc]; omega)); intro A3 c3 w3 ho3 hg3 hat3; have HO3 := hid ho3; have HG3 := hid hg3; clear ho3 hg3 hat3))
      have hsucc : flat (List.map Op7.f (List.take (k + 1) os)) = flat (List.map Op7.f (List.take k os)) ++ #[Value.string x.f.n, Value.string x.f.v, Value.bool x.f.x].toList := by
        rw [List.take_add_one, HX.out, List.map_append, flat_append]
        rfl
      go_roundw
      case rel => exact ⟨k + 1, A3, c3, by omega, by omega, by go_num, rfl, by rw [hsucc]; exact HO3.out, below_app (HB.out.alloc (HB.out.size) _) (own_below HO.out ((Below.refl _ _).alloc (Nat.le_refl _) _)) HG3.out (Nat.le_refl _) (by rw [World.size_alloc]; have := hwb.out; omega)⟩
      case measure => simp [intOf]; omega
    · by_cases hk2 : k < n
      · have hk3 : k = 200 := by omega
        subst hk3
        have HF := hid (few7_long (os := os) (by rw [HL.out]; omega))
        go_wp2_with fail
        go_ret
        exact ⟨by rw [HF.out]; rfl, HB.out⟩
      · have hk3 : k = n := by omega
        subst hk3
        have hn3 : k ≤ 200 := hk1
        have HE : Hid (List.map Op7.f (List.take k os) = os.map Op7.f) := by
          show _ = _
          rw [List.take_of_length_le (by rw [HL.out]; omega)]
        clear hlt hk2 hown hb
        go_wp2_with fail
        refine (fewF_any A' k c' _ wr (Rd.of_own HO.out) (by omega)).mono ?_
        rintro e w4 ⟨rfl, ht4⟩
        have HT4 := hid ht4
        clear ht4
        rw [HE.out]
        go_wp2_with fail
        go_ret
        exact ⟨rfl, HB.out.trans (HT4.out.below (by simp) HB.out.size)⟩
end Go.Proofs.Ytlnhnnejmofpcaa
