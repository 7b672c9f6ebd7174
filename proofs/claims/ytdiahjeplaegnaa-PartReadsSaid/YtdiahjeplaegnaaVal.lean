/- The reference's big-endian numbers. Conditions: at most four bytes. -/
import Derived.Test.YtdiahjeplaegnaaTurn
import Derived.Test.YtdiahjeplaegnaaBits
import Derived.Outline
namespace Go.Proofs.Ytdiahjeplaegnaa
open Go.RowKit

/-- A big-endian number. -/
def beI (l : List UInt8) (k : Nat) : Int := (l.take k).foldl (fun v x => v * 256 + (x.toNat : Int)) 0
theorem beI_succ {l : List UInt8} {k : Nat} {x : UInt8} (h : l[k]? = some x) : beI l (k + 1) = beI l k * 256 + x.toNat := by
  obtain ⟨hk, hx⟩ := List.getElem?_eq_some_iff.1 h
  unfold beI
  rw [List.take_succ_eq_append_getElem hk, List.foldl_append, hx]
  rfl
theorem beI_le (l : List UInt8) : ∀ k, 0 ≤ beI l k ∧ beI l k < ((256 ^ k : Nat) : Int)
  | 0 => by simp [beI]
  | k + 1 => by
    have ih := beI_le l k
    rcases h : l[k]? with _ | x
    · have hl : l.length ≤ k := by simpa using h
      have e : beI l (k + 1) = beI l k := by
        unfold beI
        rw [List.take_of_length_le (by omega), List.take_of_length_le hl]
      rw [e, Nat.pow_succ]
      omega
    · rw [beI_succ h]
      have := x.toNat_lt
      rw [Nat.pow_succ]
      omega

set_option maxHeartbeats 1000000 in
set_option maxRecDepth 100000 in
theorem val_any (A : Option Addr) (n c : Nat) (l : List UInt8) (w : World) (h : Bs w A n l) (hn : n ≤ 4) :
    Calls Try.prog 27 #[.slice A n c] w fun e w' => e = .returned (.int .i64 (beI l n)) ∧ w = w' := by
  have H := hid h
  clear h
  go_enter Try.func27, Try.ntmps27
  go_wp2_with fail
  go_loop [3, 4] (fun v i => ∃ k : Nat, k ≤ n ∧ i = .int .i64 k ∧ v = .int .i64 (beI l k)) (fun _ i => n - (intOf i).toNat)
  case atStart => exact ⟨0, Nat.zero_le _, rfl, by simp [beI]⟩
  case round =>
    obtain ⟨k, hk, rfl, rfl⟩ := hrel
    by_cases hkn : k < n
    · obtain ⟨b, o, x, rfl, hx, hc⟩ := H.out.at_ hkn
      unfold bv at hc
      have hb := beI_le l k
      have hxl := x.toNat_lt
      have hb3 : beI l k < 16777216 := by
        have h3 : 256 ^ k ≤ 256 ^ 3 := Nat.pow_le_pow_right (by omega) (by omega)
        omega
      have hs := beI_succ hx
      have hor := or_add (beI l k) (x.toNat : Int) 8 (by omega) (by omega) (by omega) (by omega) (by omega)
      have hor2 : Go.bits .or .i64 (beI l k * 256) (x.toNat : Int) = beI l (k + 1) := by
        rw [show beI l k * 256 = 2 ^ 8 * beI l k by omega, hor, hs]
        omega
      have HS := hid hs
      clear hs hor hx
      go_wp2_with fail
      go_round
      case rel => exact ⟨k + 1, by omega, by go_num, rfl⟩
      case measure => simp [intOf]; omega
    · obtain rfl : k = n := by omega
      go_wp2_with fail
      go_ret
      exact ⟨rfl, rfl⟩

end Go.Proofs.Ytdiahjeplaegnaa
