/- wlvlaw9.Few, called once: what it tells. No condition but the slice's length. -/
import Derived.Test.YtjeocmglcgnclaaDoorOps9J
import Derived.Test.YtjeocmglcgnclaaDoorGd
namespace Go.Proofs.YtjeocmglcgnclaaDoor
open Go.RowKit
attribute [local go_sem] kd kdS if_min if_max if_minN if_maxN

def opsF (os : List Op9) : List Fd := os.flatMap Op9.fs
theorem opsF_snoc (os : List Op9) (x : Op9) : opsF (os ++ [x]) = opsF os ++ x.fs := by simp [opsF]
/-- What Few tells where it says yes. -/
structure Few9 (os : List Op9) : Prop where
  len : os.length ≤ 60
  each : ∀ x ∈ os, x.ls.length ≤ 50 ∧ x.fs.length ≤ 200
  all : fewF (opsF os) = true
def FewPost (os : List Op9) (w : World) (e : Ending) (w' : World) : Prop := ∃ q, e = .returned (.bool q) ∧ (q = true → Few9 os) ∧ Below w.heap.size w w'
theorem FewPost.no {os : List Op9} {w w' : World} (h : Below w.heap.size w w') : FewPost os w (.returned (.bool false)) w' := ⟨false, rfl, (fun h => by cases h), h⟩

set_option maxHeartbeats 1000000 in
set_option maxRecDepth 100000 in
theorem few9_any (A : Option Addr) (n c : Nat) (os : List Op9) (w : World) (h : Os9 w A n os) (hn : n ≤ 140737488355328) :
    Calls Tryd.prog 16 #[.slice A n c] w (FewPost os w) := by
  have HS := hid h
  have HLN := hid h.len
  clear h
  obtain ⟨i0, hi0, hz0, hz1, hz2⟩ := fd_parts
  have hi := hid hi0
  have hz := hid hz0
  have hsz := hid hz1
  have hby := hid hz2
  clear hi0 hz0 hz1 hz2
  go_enter Tryd.func16, Tryd.ntmps16
  go_wp2_with fail
  go_loopw [3, 4, 5] (fun f s i wr => ∃ (k : Nat) (A' : Option Addr) (m c' : Nat) (z : Nat), k ≤ n ∧ k ≤ 60 ∧ i = .int .i64 k ∧ s = .int .i64 z ∧ z ≤ k * 50 ∧ f = .slice A' m c' ∧ m ≤ k * 200 ∧ wr.ownsRow w.heap.size 23 3 (.slice A' m c') m (flat (opsF (os.take k))) ∧ (∀ x ∈ os.take k, x.ls.length ≤ 50 ∧ x.fs.length ≤ 200) ∧ Below w.heap.size w wr) (fun _ _ i _ => n - (intOf i).toNat)
  case atStart => exact ⟨0, none, 0, 0, 0, Nat.zero_le _, by omega, rfl, rfl, by omega, rfl, by omega, World.ownsRow_nil _ _ _ _, fun x hx => by simp at hx, Below.refl _ _⟩
  case round =>
    obtain ⟨k, A', m, c', z, hk, hk1, rfl, rfl, hzk, rfl, hmk, ho, he, hb⟩ := hrel
    have HO := hid ho
    have HE := hid he
    have HB := hid hb
    clear ho he
    by_cases hlt : k < n ∧ k < 60
    · obtain ⟨hl1, hl2⟩ := hlt
      obtain ⟨b, o, rfl, hc⟩ := HS.out.at_ (by omega)
      obtain ⟨x, hx⟩ : ∃ x, os[k]? = some x := ⟨os[k]'(by rw [HLN.out]; omega), List.getElem?_eq_getElem _⟩
      have HC0 := hid (hc k x hx).1
      have c0 := below_keep hb _ _ (hc k x hx).1
      have c1 := below_keep hb _ _ (hc k x hx).2
      obtain ⟨hli, hfs⟩ := HS.out.body x (List.mem_of_getElem? hx)
      have hfl := hfs.len
      have hll : x.ls.length = x.ln := by have := hli.1; simpa using this
      have HX := hid hx
      have HFX := hid (Rd.below hfs hb)
      clear hc hb hx hli hfs
      by_cases hL : 200 < x.fn
      · go_wp2_with fail
        go_ret
        exact FewPost.no HB.out
      by_cases hM : 50 < x.ln
      · go_wp2_with fail
        go_ret
        exact FewPost.no HB.out
      have hL' : x.fn ≤ 200 := by omega
      have hM' : x.ln ≤ 50 := by omega
      have hw := HB.out.size
      go_wp2_with (at_builtin; (refine wpList_app _ rfl _ _ _ rfl w.heap.size 23 i0 _ 3 40 Tryd.underlying33 hi.out hz.out hsz.out hby.out rfl (by omega) _ m _ rfl HO.out x.fA x.fn x.fc (flat x.fs) rfl HFX.out (flat_one _) (by omega) (by omega) hw ?_; intro A7 c7 w7 ho hg hat; have HO7 := hid ho; have HB7 := hid (below_app HB.out HO.out hg (Nat.le_refl _) hw); have c3 := below_keep HB7.out _ _ HC0.out; clear ho hg hat))
      go_roundw
      case rel =>
        refine ⟨k + 1, A7, m + x.fn, c7, z + x.ln, by omega, by omega, by go_num, by go_num, by omega, rfl, by omega, ?_, ?_, HB7.out⟩
        · rw [List.take_add_one, HX.out]
          simp only [Option.toList_some]
          rw [opsF_snoc, flat_append]
          exact HO7.out
        · intro y hy
          rw [List.take_add_one, HX.out] at hy
          rcases List.mem_append.1 hy with hy | hy
          · exact HE.out y hy
          · obtain rfl : y = x := by simpa using hy
            omega
      case measure => simp [intOf]; omega
    · clear hb
      by_cases hk2 : k < n
      · have hk3 : k = 60 := by omega
        subst hk3
        go_wp2_with fail
        go_ret
        exact FewPost.no HB.out
      · obtain rfl : k = n := by omega
        have hE : os.take k = os := List.take_of_length_le (by rw [HLN.out]; omega)
        have HE2 := hid HE.out
        rw [hE] at HE2 HO
        have hw := HB.out.size
        go_wp2_with (go_at_call 33; go_must (refine (fewF_any A' m c' (opsF os) _ (Rd.of_own HO.out) (by omega)).mono ?_; rintro e w8 ⟨rfl, ht8⟩; have HB8 := hid (HB.out.trans (ht8.below (fun b hb => by cases hb) hw)); clear ht8))
        go_ret
        exact ⟨_, rfl, fun h => ⟨by rw [HLN.out]; omega, HE2.out, h⟩, HB8.out⟩
end Go.Proofs.YtjeocmglcgnclaaDoor
