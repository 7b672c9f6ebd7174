/- The lengths of codes, and what bitsOf answers. -/
import Derived.Test.YtimklfdofldhaaaTurn
import Derived.Test.YtimklfdofldhaaaBytesFn
import Derived.Test.YtimklfdofldhaaaMixZ
import Derived.Outline
import Derived.Deep.DeepCutAuto
import Derived.WalkMore
namespace Go.Proofs.Ytimklfdofldhaaa
open Go.RowKit
attribute [local go_sem] kd kdS

/-- Five bits a sign: the length of its code, less five. -/
def lenN : Nat := 0x19adad6b5af6b5ad6ad6d595673a52319421183e6fb5ad7ad6109dab6b560ea4eb6b56b5a465173eb5946328c62f94a328461094a309c63284a518be119ca519461294a539467394e5294a51946317be2fba1265084210820004410042110801084010040a0a50e40c4310842108421084210842108421082829c2a1882108421080000842330ca530c28394a1bdef7bdef7be6f7bdef7bdf37be677bdef7bde48
def hl (s : Nat) : Nat := lenN >>> (5 * s) % 32 + 5

def chkK (K : ByteArray) : Bool := (List.range 257).all fun s => decide (97 ≤ (K.data.toList.getD s 0).toNat) && ((K.data.toList.getD s 0).toNat - 92 == hl s)
theorem bits_of (K : ByteArray) (s : Nat) (hs : s < K.size) (hz : K.size = 257) (h : chkK K = true) : (((K[s]'hs).toNat : Int) - 97) % 256 + 5 = hl s := by
  unfold chkK at h
  rw [List.all_eq_true] at h
  have h1 := h s (by simp; omega)
  simp only [Bool.and_eq_true, decide_eq_true_eq, beq_iff_eq] at h1
  have e : K.data.toList.getD s 0 = K[s]'hs := by
    rw [List.getD_eq_getElem?_getD]
    have : K.data.toList[s]? = some (K[s]'hs) := by
      rw [Array.getElem?_toList]
      exact Array.getElem?_eq_getElem hs
    rw [this]
    rfl
  rw [e] at h1
  have := (K[s]'hs).toNat_lt
  omega
theorem hl_le (s : Nat) : 5 ≤ hl s ∧ hl s ≤ 36 := by
  unfold hl
  omega

set_option maxHeartbeats 400000 in
set_option maxRecDepth 100000 in
theorem bitsOf_any (s : Nat) (w : World) (hs : s < 257) : Calls Try.prog 21 #[.int .i64 s] w fun e w' => e = .returned (.int .i64 (hl s)) ∧ w = w' := by
  go_enter Try.func21, Try.ntmps21
  go_wp2_with fail
  go_ret
  exact ⟨congrArg (fun z => Ending.returned (.int .i64 z)) (bits_of _ s (by exact hs) (by kernel_rfl) (by kernel_rfl)), rfl⟩
end Go.Proofs.Ytimklfdofldhaaa
