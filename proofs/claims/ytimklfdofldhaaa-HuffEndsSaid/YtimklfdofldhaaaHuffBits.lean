/- What Bits answers. Condition: the row is no longer than 2^40. -/
import Derived.Test.YtimklfdofldhaaaHuffCodes
namespace Go.Proofs.Ytimklfdofldhaaa
open Go.RowKit
attribute [local go_sem] kd kdS

/-- The bits of a text. -/
def hbits (l : List UInt8) : Nat := (l.map fun c => hl c.toNat).sum
theorem hbits_le (l : List UInt8) : hbits l ≤ 36 * l.length := by
  induction l with
  | nil => simp [hbits]
  | cons c l ih =>
    have := (hl_le c.toNat).2
    simp only [hbits, List.map_cons, List.sum_cons, List.length_cons] at ih ⊢
    omega
theorem hbits_take (l : List UInt8) (k : Nat) (h : k < l.length) : hbits (l.take (k + 1)) = hbits (l.take k) + hl (l[k]'h).toNat := by
  rw [List.take_succ_eq_append_getElem h]
  unfold hbits
  rw [List.map_append, List.sum_append]
  simp only [List.map_cons, List.map_nil, List.sum_cons, List.sum_nil, Nat.add_zero]

set_option maxHeartbeats 1000000 in
set_option maxRecDepth 100000 in
theorem Bits_any (A : Option Addr) (n c : Nat) (l : List UInt8) (w : World) (h : Bs w A n l) (hn : n ≤ 1099511627776) :
    Calls Try.prog 13 #[.slice A n c] w fun e w' => e = .returned (.int .i64 (hbits l)) ∧ w = w' := by
  have hlen := h.len
  have H := hid h
  have hw := hid (rfl : w = w)
  clear h
  go_enter Try.func13, Try.ntmps13
  go_wp2_with fail
  go_loopw [3, 8] (fun nn co wr => ∃ k : Nat, k ≤ n ∧ co = .int .i64 (k : Int) ∧ nn = .int .i64 (hbits (l.take k) : Nat) ∧ w = wr) (fun _ co _ => n - (intOf co).toNat)
  case atStart => exact ⟨0, by omega, rfl, rfl, rfl⟩
  case round =>
    obtain ⟨k, hk, rfl, rfl, rfl⟩ := hrel
    have hle := hbits_le (l.take k)
    have hlt : (l.take k).length ≤ k := by rw [List.length_take]; exact Nat.min_le_left _ _
    by_cases hkn : k < n
    · obtain ⟨b, o, rfl, hc⟩ := H.out.2 (by omega)
      have hc1 : w.cell? ⟨b, o + k, none⟩ = some (.int .u8 ((l[k]'(by omega)).toNat : Int)) := hc k _ (by rw [List.getElem?_map, List.getElem?_eq_getElem (by omega)]; rfl)
      have HT := hid (hbits_take l k (by omega))
      have hx := (l[k]'(by omega)).toNat_lt
      generalize (l[k]'(by omega)).toNat = x at hc1 HT hx
      have hx2 : x < 256 := hx
      have hwx : IntKind.i64.wrap (x : Int) = (x : Int) := IntWalk.i64_in _ (by omega)
      have hln := hl_le x
      generalize hne : hl x = m at HT hln
      have HNE := hid hne
      generalize hqe : hbits (l.take k) = q at HT hle
      have HQ := hid hqe
      clear hne hqe hx hc
      go_wp2_with (go_at_call 21; go_must (refine (bits_calls x m _ (by omega) HNE.out).mono ?_; rintro e w3 ⟨rfl, rfl⟩))
      go_roundw
      case rel => exact ⟨k + 1, by omega, by go_num, by rw [HT.out]; go_num, by trivial⟩
      case measure => simp [intOf]; omega
    · obtain rfl : k = n := by omega
      go_wp2_with fail
      go_ret
      exact ⟨by rw [List.take_of_length_le (by omega)]; rfl, by trivial⟩
end Go.Proofs.Ytimklfdofldhaaa
