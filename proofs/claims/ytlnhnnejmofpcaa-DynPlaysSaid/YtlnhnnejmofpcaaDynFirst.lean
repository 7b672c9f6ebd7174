/- What chapter 7's examples fix: it holds. -/
import Derived.Test.YtlnhnnejmofpcaaDynTb
namespace Go.Proofs.Ytlnhnnejmofpcaa
open Go.RowKit
attribute [local go_sem] kd kdS

def fdA : Fd := ⟨⟨#[97]⟩, ⟨#[]⟩, false⟩
def fdB : Fd := ⟨⟨#[98]⟩, ⟨#[]⟩, false⟩
theorem first_one : addL 40 [] fdA = [fdA] := rfl
theorem first_two : addL 40 [fdA] fdB = [fdB] := rfl

set_option maxHeartbeats 1000000 in
set_option maxRecDepth 100000 in
theorem first_any (w : World) : Calls Try.prog 7 #[] w fun e w' => e = .returned (.bool true) ∧ Below w.heap.size w w' := by
  go_enter Try.func7, Try.ntmps7
  go_wp2_with fail
  refine (new_tb 40 w).mono ?_
  intro e w1 hp
  unfold NewTb at hp
  rw [if_neg (by omega)] at hp
  obtain ⟨F, rfl, h1, hb1⟩ := hp
  have H1 := hid h1
  have HB1 := hid hb1
  clear h1 hb1
  go_wp2_with fail
  refine (add_tb fdA H1.out (by simp [total]) (by decide) (by simp) HB1.out.size (by omega) (by omega)).mono ?_
  rintro e w2 ⟨F2, rfl, h2, ht2, hk2⟩
  rw [first_one] at h2
  have H2 := hid h2
  have HT2 := hid ht2
  have HK2 := hid hk2
  have hs2 := ht2.size
  clear h2 ht2 hk2
  go_wp2_with fail
  refine (len_tb H2.out).mono ?_
  rintro e w2' ⟨rfl, rfl⟩
  go_wp2_with fail
  refine (add_tb fdB H2.out (by decide) (by decide) (by simp) (by have := HB1.out.size; omega) (by omega) (by omega)).mono ?_
  rintro e w3 ⟨F3, rfl, h3, ht3, hk3⟩
  rw [first_two] at h3
  have H3 := hid h3
  have HT3 := hid ht3
  have HK3 := hid hk3
  have hs3 := ht3.size
  clear h3 ht3 hk3
  go_wp2_with fail
  refine (get_tb 1 H3.out (by simp)).mono ?_
  rintro e w4 ⟨rfl, hb4⟩
  rw [show getF [fdB] 1 = (fdB, true) from rfl]
  have H4 := hid (H3.out.below hb4)
  have HB4 := hid hb4
  have hs4 := hb4.size
  clear hb4
  go_wp2_with fail
  refine (len_tb (H4.out.below ((Below.refl _ _).alloc (Nat.le_refl _) _))).mono ?_
  rintro e w5 ⟨rfl, rfl⟩
  go_wp2_with fail
  go_ret
  refine ⟨by rw [show (fdB.n.toList == [98]) = true by rw [ByteArray.toList_eq]; rfl]; rfl, ?_⟩
  have hb3 : Below w.heap.size w w3 := HB1.out.trans (((HT2.out.below (fun k hk => (H1.out.ge k hk).1) HB1.out.size)).trans (HT3.out.below (fun k hk => (H2.out.ge k hk).1) (by have := HB1.out.size; omega)))
  exact (hb3.trans (HB4.out.mono hb3.size)).alloc (Nat.le_trans hb3.size hs4) _
end Go.Proofs.Ytlnhnnejmofpcaa
