/- first, the chapter's examples: it answers true. No condition. -/
import Derived.Test.YtimklfdofldhaaaHuffLawP
import Derived.Test.YtimklfdofldhaaaHuffDec
import Derived.Lib.SlBytesConst
namespace Go.Proofs.Ytimklfdofldhaaa
open Go.RowKit
attribute [local go_sem] kd kdS

theorem dec_four (most : Int) : dec most (bitsB [255, 255, 255, 255]) 0 0 [] = ([], 2) := by
  rw [byte_four, dec_ones]
  rfl

set_option maxHeartbeats 1000000 in
set_option maxRecDepth 100000 in
theorem first_any (w : World) : Calls Try.prog 8 #[] w fun e w' => e = .returned (.bool true) ∧ Below w.heap.size w w' := by
  have hb0 : Below w.heap.size w (w.alloc (.cells #[.int .u8 97] 5 (1, 2))) := (Below.refl _ _).alloc (Nat.le_refl _) _
  have hs0 : Bs (w.alloc (.cells #[.int .u8 97] 5 (1, 2))) (some ⟨w.heap.size, 0, none⟩) 1 [97] := ⟨rfl, fun _ => ⟨_, 0, rfl, fun j u hu => by
    have h1 : (w.alloc (.cells #[.int .u8 97] 5 (1, 2))).heap[w.heap.size]? = some (.cells #[.int .u8 97] 5 (1, 2)) := heap_alloc_new w _
    simp only [World.cell?, h1, Nat.zero_add]
    have hj : j < 1 := by have := (List.getElem?_eq_some_iff.1 hu).1; simpa using this
    obtain rfl : j = 0 := by omega
    exact hu⟩⟩
  have kc := fun (w : World) (C : Array Value) (n c : Nat) => Lib.run_convert_bytes_const (P := Try.prog) w 22 5 C n c Try.underlying22 Try.underlying5
  have HB0 := hid hb0
  have HS0 := hid hs0
  clear hb0 hs0
  go_enter Try.func8, Try.ntmps8
  go_upto_region 2 with (go_at_call 10; go_must (refine (Encode_any _ 1 1 [97] _ HS0.out (by omega)).mono ?_; rintro e w1 ⟨A1, n1, c1, o, p, rfl, ho, hbo, hp, hb1⟩; have HO := hid ho; have HBO := hid hbo; have HB1 := hid hb1; clear ho hbo hb1))
  have ho := enc_a HBO.out hp
  clear HBO hp
  subst ho
  have hR := Bs.of_own HO.out
  have hn1 : 1 = n1 := hR.len
  subst hn1
  obtain ⟨b, oo, x, rfl, hx, hc⟩ := hR.at_ (i := 0) (by omega)
  have e : x = 31 := by simpa using hx.symm
  subst e
  rw [Nat.add_zero] at hc
  have hc31 : w1.cell? ⟨b, oo, none⟩ = some (.int .u8 31) := hc
  have HB := hid (HB0.out.trans (HB1.out.mono HB0.out.size))
  have hb2 : Below w1.heap.size w1 (w1.alloc (.cells #[.int .u8 255, .int .u8 255, .int .u8 255, .int .u8 255] 5)) := (Below.refl _ _).alloc (Nat.le_refl _) _
  have hs2 : Bs (w1.alloc (.cells #[.int .u8 255, .int .u8 255, .int .u8 255, .int .u8 255] 5)) (some ⟨w1.heap.size, 0, none⟩) 4 [255, 255, 255, 255] := rd_new rfl rfl
  have HB2 := hid hb2
  have HS2 := hid hs2
  have HC := hid hc31
  clear hb2 hs2 hx hc hR HB0 HB1 HO HS0 hc31
  go_upto_region 3 with (go_at_call 11; go_must (refine (Decode_any _ 4 4 9 [255, 255, 255, 255] _ HS2.out (by omega)).mono ?_; rw [dec_four]; rintro e w2 ⟨A2, n2, c2, rfl, ho2, hb3⟩; have HB3 := hid hb3; clear ho2 hb3))
  have hc4 := below_keep HB3.out _ _ (below_keep HB2.out _ _ HC.out)
  go_wp2_with fail
  go_ret
  exact ⟨rfl, HB.out.trans ((HB2.out.trans (HB3.out.mono HB2.out.size)).mono HB.out.size)⟩
end Go.Proofs.Ytimklfdofldhaaa
