/- UnpackAdds' plain law: what five blocks leave. No program in sight. -/
import Derived.Test.YtdiejemhhcaicaaDoorBackPJ
import Derived.Test.YtdiejemhhcaicaaDoorGu
namespace Go.Proofs.YtdiejemhhcaicaaDoor
open Go.RowKit

theorem put_small : ∀ m : Nat, m < 127 → (putR 0 7 (m : Int)).1 = [UInt8.ofNat m] := by decide +kernel
theorem textD_small {s : List UInt8} (h : s.length ≤ 126) (more : List UInt8) : textD (UInt8.ofNat s.length :: (s ++ more)) = some (s, more) := by
  have := textD_as_is (s := s) (by omega) more
  rw [put_small _ (by omega)] at this
  exact this
/-- A name and a value, each behind its length. -/
def bodyL (n v : List UInt8) : List UInt8 := UInt8.ofNat n.length :: (n ++ UInt8.ofNat v.length :: v)
theorem litD_body {n v : List UInt8} (hn : n.length ≤ 126) (hv : v.length ≤ 126) (L : List Fd) (b : UInt8) (bits : Int) (more : List UInt8) (h : ∀ x : List UInt8, numP (b :: x) bits = some (0, x)) :
    litD L (b :: (bodyL n v ++ more)) bits = some (⟨⟨n.toArray⟩, ⟨v.toArray⟩, false⟩, more) := by
  have h1 : nameD L 0 (bodyL n v ++ more) = some (⟨⟨n.toArray⟩, ⟨#[]⟩, false⟩, UInt8.ofNat v.length :: (v ++ more)) := nameD_text_some (by omega) (by
    have := textD_small hn (UInt8.ofNat v.length :: (v ++ more))
    rw [← this]
    unfold bodyL
    simp)
  unfold litD
  rw [h]
  simp only
  rw [h1]
  simp only
  rw [textD_small hv more]
theorem num_64 (x : List UInt8) : numP (64 :: x) 6 = some (0, x) := by
  have := numP_put (first := 64) (bits := 6) (n := 0) (by omega) (by omega) (by omega) (by omega) (by omega) (by omega) x
  rwa [show (putR 64 6 0).1 = [64] from by decide +kernel] at this
theorem num_0 (x : List UInt8) : numP (0 :: x) 4 = some (0, x) := by
  have := numP_put (first := 0) (bits := 4) (n := 0) (by omega) (by omega) (by omega) (by omega) (by omega) (by omega) x
  rwa [show (putR 0 4 0).1 = [0] from by decide +kernel] at this
theorem num_16 (x : List UInt8) : numP (16 :: x) 4 = some (0, x) := by
  have := numP_put (first := 16) (bits := 4) (n := 0) (by omega) (by omega) (by omega) (by omega) (by omega) (by omega) x
  rwa [show (putR 16 4 0).1 = [16] from by decide +kernel] at this
section
variable {n v : List UInt8}
theorem adds_1 (hn : n.length ≤ 100) (hv : v.length ≤ 20) : decR (startD (64 :: bodyL n v) 4096 []) = (⟨[], 4096, [⟨⟨n.toArray⟩, ⟨v.toArray⟩, false⟩], 0, [⟨⟨n.toArray⟩, ⟨v.toArray⟩, false⟩]⟩, true) := by
  have hs := stepD_added (s := startD (64 :: bodyL n v) 4096 []) rfl (by decide) (by decide)
  have hl := litD_body (n := n) (v := v) (by omega) (by omega) [] 64 6 [] num_64
  rw [List.append_nil] at hl
  rw [show (startD (64 :: bodyL n v) 4096 []).bs = 64 :: bodyL n v from rfl, show (startD (64 :: bodyL n v) 4096 []).L = [] from rfl, hl] at hs
  have ha : addL 4096 [] (⟨⟨n.toArray⟩, ⟨v.toArray⟩, false⟩ : Fd) = [⟨⟨n.toArray⟩, ⟨v.toArray⟩, false⟩] := by
    unfold addL
    rw [if_pos (by simp only [Fd.size, ByteArray.size, List.size_toArray]; omega)]
    rfl
  rw [decR_some hs]
  simp only [startD, ha]
  exact decR_nil rfl
theorem adds_at (f : Fd) : atD [f] 62 = some f := by
  unfold atD
  rw [if_neg (by omega)]
  rfl
theorem num_190 : numP [190] 7 = some (62, []) := numP_one 62 (by omega)
theorem adds_2 (hn : n.length ≤ 100) (hv : v.length ≤ 20) : decR (startD (0 :: bodyL n v ++ [190]) 4096 [⟨⟨n.toArray⟩, ⟨v.toArray⟩, false⟩]) = (⟨[], 4096, [⟨⟨n.toArray⟩, ⟨v.toArray⟩, false⟩], 0, [⟨⟨n.toArray⟩, ⟨v.toArray⟩, false⟩, ⟨⟨n.toArray⟩, ⟨v.toArray⟩, false⟩]⟩, true) := by
  obtain ⟨f, hf⟩ : ∃ f : Fd, f = ⟨⟨n.toArray⟩, ⟨v.toArray⟩, false⟩ := ⟨_, rfl⟩
  have hs := stepD_plain (s := startD (0 :: bodyL n v ++ [190]) 4096 [f]) rfl (by decide)
  have hl := litD_body (n := n) (v := v) (by omega) (by omega) [f] 0 4 [190] num_0
  rw [show (startD (0 :: bodyL n v ++ [190]) 4096 [f]).bs = 0 :: (bodyL n v ++ [190]) from rfl, show (startD (0 :: bodyL n v ++ [190]) 4096 [f]).L = [f] from rfl, hl] at hs
  rw [← hf, decR_some hs]
  have hf2 : (⟨⟨n.toArray⟩, ⟨v.toArray⟩, decide (16 ≤ (0 : UInt8).toNat)⟩ : Fd) = f := by rw [hf]; rfl
  have hs2 := stepD_known (s := ⟨[190], 4096, [f], 0, [f]⟩) (b := 190) (t := []) rfl (by decide)
  rw [show (⟨[190], 4096, [f], 0, [f]⟩ : DSt).bs = [190] from rfl, num_190] at hs2
  simp only at hs2
  rw [adds_at] at hs2
  simp only [startD, List.nil_append]
  rw [hf2, decR_some hs2]
  exact decR_nil rfl
theorem adds_3 (hn : n.length ≤ 100) (hv : v.length ≤ 20) (L : List Fd) : decR (startD (16 :: bodyL n v) 4096 L) = (⟨[], 4096, L, 0, [⟨⟨n.toArray⟩, ⟨v.toArray⟩, true⟩]⟩, true) := by
  have hs := stepD_plain (s := startD (16 :: bodyL n v) 4096 L) rfl (by decide)
  have hl := litD_body (n := n) (v := v) (by omega) (by omega) L 16 4 [] num_16
  rw [List.append_nil] at hl
  rw [show (startD (16 :: bodyL n v) 4096 L).bs = 16 :: bodyL n v from rfl, show (startD (16 :: bodyL n v) 4096 L).L = L from rfl, hl] at hs
  rw [decR_some hs]
  exact decR_nil rfl
theorem adds_4 (L : List Fd) : decR (startD [32] 4096 L) = (⟨[], 0, [], 1, []⟩, true) := by
  have hs := stepD_limit (s := startD [32] 4096 L) (b := 32) (t := []) rfl (by decide) (by decide)
  rw [show (startD [32] 4096 L).bs = [32] from rfl, show numP [32] 5 = some (0, []) from by decide +kernel] at hs
  have hs' : stepD (startD [32] 4096 L) = some ⟨[], ((0 : Nat) : Int), shr ((0 : Nat) : Int) L, 1, []⟩ := hs.trans (if_neg (by simp [startD]))
  rw [show shr ((0 : Nat) : Int) L = [] from shr_zero L] at hs'
  rw [decR_some hs']
  exact decR_nil rfl
theorem adds_5 : decR (startD [190] 0 []) = (startD [190] 0 [], false) := dec_index 62 (by omega) 0 []
end
end Go.Proofs.YtdiejemhhcaicaaDoor
