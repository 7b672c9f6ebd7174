/- What Encode answers. Condition: the row is no longer than 2^30. -/
import Derived.Test.YtimklfdofldhaaaHuffPlain
import Derived.Test.YtimklfdofldhaaaBig
import Derived.Deep.Onto
namespace Go.Proofs.Ytimklfdofldhaaa
open Go.RowKit
attribute [local go_sem] kd kdS

set_option maxHeartbeats 2000000 in
set_option maxRecDepth 100000 in
theorem Encode_any (A : Option Addr) (n c : Nat) (l : List UInt8) (w : World) (h : Bs w A n l) (hn : n ≤ 1073741824) :
    Calls Try.prog 10 #[.slice A n c] w fun e w' => ∃ A2 n2 c2 o p, e = .returned (.slice A2 n2 c2) ∧ w'.ownsRow w.heap.size 5 1 (.slice A2 n2 c2) n2 (o.map bv) ∧ bitsB o = bitsL l ++ List.replicate p true ∧ p ≤ 7 ∧ Below w.heap.size w w' := by
  obtain ⟨i0, hi0, hz0, hz1, hz2⟩ := info_parts big_info
  have hi := hid hi0
  have hz := hid hz0
  have hsz := hid hz1
  have hby := hid hz2
  clear hi0 hz0 hz1 hz2
  have hlen := h.len
  have H := hid h
  clear h
  go_enter Try.func10, Try.ntmps10
  go_wp2_with (first
    | (go_at_call 19; go_must (refine (open_calls _).mono ?_; rintro e w1 ⟨g, rfl, hbk, hb1⟩; have HBK := hid hbk; have HB1 := hid hb1; clear hbk hb1))
    | (go_at_call 20; go_must (refine (codes_calls g _ (by first | exact HBK.out | exact HBK.out.drew)).mono ?_; rintro e w2 ⟨bb, oo, rfl, hat, hb2⟩; have HAT := hid hat; have HB2 := hid hb2; clear hat hb2 HBK)))
  have HW := hid (HB1.out.trans (HB2.out.mono HB1.out.size))
  clear HB1 HB2
  have HWS := hid HW.out.size
  generalize hg : w.heap.size = B at HW HWS
  have HG := hid hg
  clear hg
  go_loopw [4, 5, 6, 13] (fun out held nn co wr => ∃ (k : Nat) (A2 : Option Addr) (c2 hv m : Nat) (o : List UInt8), k ≤ n ∧ co = .int .i64 (k : Int) ∧ nn = .int .i64 (m : Int) ∧ m ≤ 7 ∧ held = .int .u64 (hv : Int) ∧ hv < 2 ^ 64 ∧ out = .slice A2 o.length c2 ∧ o.length ≤ 5 * k ∧ wr.ownsRow w2.heap.size 5 1 (.slice A2 o.length c2) o.length (o.map bv) ∧ bitsL (l.take k) = bitsB o ++ lowb m hv ∧ Below w2.heap.size w2 wr) (fun _ _ _ co _ => n - (intOf co).toNat)
  case atStart => exact ⟨0, none, 0, 0, 0, [], by omega, rfl, rfl, by omega, rfl, by decide, rfl, by simp, World.ownsRow_nil _ _ _ _, rfl, Below.refl _ _⟩
  case round =>
    obtain ⟨k, A2, c2, hv, m, o, hk, rfl, rfl, hm, rfl, hhv, rfl, hol, hown, hbits, hb⟩ := hrel
    have HB := hid hb
    have HO := hid hown
    have HBI := hid hbits
    have hbs := hb.size
    clear hb hown hbits
    by_cases hkn : k < n
    · obtain ⟨b, oi, rfl, hc⟩ := H.out.2 (by omega)
      have hcw : w.cell? ⟨b, oi + k, none⟩ = some (.int .u8 ((l[k]'(by omega)).toNat : Int)) := hc k _ (by rw [List.getElem?_map, List.getElem?_eq_getElem (by omega)]; rfl)
      have hc1 : wr.cell? ⟨b, oi + k, none⟩ = some (.int .u8 ((l[k]'(by omega)).toNat : Int)) := below_keep HB.out _ _ (below_keep (by rw [HG.out]; exact HW.out) _ _ hcw)
      have HT := hid (bitsL_take l k (by omega))
      have hx := (l[k]'(by omega)).toNat_lt
      generalize (l[k]'(by omega)).toNat = x at hc1 HT hx
      have hx2 : x < 256 := hx
      have HC := hid (below_keep HB.out _ _ (HAT.out x (by omega)))
      have HCB := hid (show cb x = lowb (hl x) (codeN x) from rfl)
      have hcg := (code_ge x (by omega)).2
      have h30 := hl_top x (by omega)
      have h5 := (hl_le x).1
      have hwx : IntKind.i64.wrap (x : Int) = (x : Int) := IntWalk.i64_in _ (by omega)
      generalize hne : hl x = z at HCB hcg h30 h5
      have HNE := hid hne
      generalize hce : codeN x = CN at HCB hcg HC
      have hp30 : 2 ^ z ≤ 2 ^ 30 := Nat.pow_le_pow_right (by omega) h30
      have HCG := hid hcg
      have hcn : CN < 1073741824 := by
        have h4 : 2 ^ 30 = 1073741824 := by decide
        omega
      have L0 : Hid (∀ w', w'.cell? ⟨bb, oo + x, none⟩ = some (.int .i64 (CN : Int)) → (Instr.loadAt 3 (.pointer (some ⟨bb, oo + x, none⟩))).run Try.prog w' = .ok (.int .i64 (CN : Int)) w') := hid fun w' q => by go_simp
      clear hne hce hx hc hcw hcg hp30
      go_wp2_with fail
      (refine wp_mixC (fun w' => w'.cell? ⟨bb, oo + x, none⟩ = some (.int .i64 (CN : Int))) ?_ ?_ (show wr.drew.cell? _ = _ from HC.out) ?_; (focus kernel_rfl); (focus kernel_rfl); intro KK hKK; go_wp2_with (first
                                                                                                                         | (first
        | ((with_reducible refine mixS_load L0.out ?_ ?_ ?_); (focus rfl); (focus rfl))
        | (go_at_call 21; go_must (refine (bits_calls x z _ (by omega) HNE.out).mono ?_; rintro e w3 ⟨rfl, rfl⟩))
        | ((with_reducible refine And.intro ?_ ?_); (focus (exact (show wr.drew.cell? _ = _ from HC.out)))))
                                                                                                                         | (with_reducible refine mix_nil ?_)
                                                                                                                         | ((with_reducible refine mixS_on ?_ ?_); (focus rfl); intro K K' hK hK'; go_simp; (first | ((with_reducible refine hK _ _ ?_); clear hK hK' K K') | ((with_reducible refine hK' _ _ ?_); clear hK hK' K K') | skip))
                                                                                                                         | ((with_reducible refine mixS_off ?_ ?_); (focus rfl); intro K hK; go_simp; (first | ((with_reducible refine hK _ _ ?_); clear hK K) | skip))
                                                                                                                         | ((with_reducible refine mixS_step ?_); intro K K' hK hK'; go_simp; (first | ((with_reducible refine hK _ _ ?_); clear hK hK' K K') | ((with_reducible refine hK' _ _ ?_); clear hK hK' K K') | skip))))
      have hcn64 : CN < 2 ^ 64 := Nat.lt_trans hcn (by decide)
      have HBJ : Hid (bitsL (l.take (k + 1)) = bitsB o ++ lowb (m + z) ((hv <<< z) % 2 ^ 64 ||| CN)) := hid (by rw [HT.out, HBI.out, HCB.out, held_bits HCG.out (by omega), List.append_assoc])
      have hlt := held_lt (hv := hv) (z := z) hcn64
      rw [held_put hcn64, show IntKind.i64.wrap ((m : Int) + (z : Int)) = ((m + z : Nat) : Int) by rw [IntWalk.i64_in _ (by omega)]; omega]
      generalize (hv <<< z) % 2 ^ 64 ||| CN = h2 at HBJ hlt
      generalize IntKind.u64.wrap (CN : Int) = wcn
      generalize IntKind.u64.wrap ((hv : Int) * 2 ^ z) = whv
      have hmz37 : m + z ≤ 37 := by omega
      generalize m + z = mz at HBJ hmz37 ⊢
      clear HC L0 HBI HCB HCG HT hcn64 hhv
      have HO2 := hid HO.out.drew
      have HB2 := hid HB.out.drew
      clear HO HB
      have HHW := hid (show w2.heap.size ≤ wr.heap.size from hbs)
      generalize wr.drew = wd at HO2 HB2
      go_loopw [4, 6] (fun out nn wv => ∃ (A3 : Option Addr) (c3 m3 : Nat) (o3 : List UInt8), nn = .int .i64 (m3 : Int) ∧ m3 ≤ 37 ∧ 8 * o3.length + m3 = 8 * o.length + mz ∧ out = .slice A3 o3.length c3 ∧ wv.ownsRow w2.heap.size 5 1 (.slice A3 o3.length c3) o3.length (o3.map bv) ∧ bitsL (l.take (k + 1)) = bitsB o3 ++ lowb m3 h2 ∧ Below w2.heap.size w2 wv) (fun _ nn _ => (intOf nn).toNat)
      case atStart => exact ⟨A2, c2, mz, o, rfl, by omega, rfl, rfl, HO2.out, HBJ.out, HB2.out⟩
      case round =>
        obtain ⟨A3, c3, m3, o3, rfl, h37, hln, rfl, hown, hbits, hb⟩ := hrel
        have HB := hid hb
        have HO := hid hown
        have HBI := hid hbits
        have hbs := hb.size
        clear hb hown hbits HO2 HB2 HBJ
        by_cases hm8 : 8 ≤ m3
        · obtain ⟨m4, rfl⟩ : ∃ m4, m3 = m4 + 8 := ⟨m3 - 8, by omega⟩
          have hs8 : IntKind.i64.wrap (((m4 + 8 : Nat) : Int) - 8) = (m4 : Int) := by rw [IntWalk.i64_in _ (by omega)]; omega
          have hol3 : o3.length ≤ 6000000000 := by omega
          go_wp2_with (first
            | (at_builtin; go_loud (refine wpList_app _ rfl _ _ _ rfl w2.heap.size 5 i0 _ 1 1 Try.underlying22 hi.out hz.out hsz.out hby.out rfl (by omega) _ o3.length _ rfl (HO.out.alloc _) _ 1 1 _ rfl (rd_one rfl) (by simp [Value.oneCell']) (by omega) (by omega) (by simp; omega) ?_; intro A5 c5 w5 ho5 hg5 hc5; have HO5 := hid ho5; have HG5 := hid hg5; clear ho5 hg5 hc5)))
          rw [byte_val] at HO5
          have HBY := hid (byte_bits h2 m4)
          generalize UInt8.ofNat (h2 / 2 ^ m4) = by8 at HO5 HBY
          have hbl : Below w2.heap.size w2 w5 := below_app (HB.out.alloc (by omega) _) (HO.out.alloc _) HG5.out (Nat.le_refl _) (by simp; omega)
          have HBL := hid hbl
          clear hbl HG5 HB
          refine ⟨⟨A5, c5, m4, o3 ++ [by8], rfl, by omega, by rw [List.length_append, List.length_singleton]; omega, by rw [List.length_append, List.length_singleton], by rw [List.length_append, List.length_singleton, List.map_append]; exact HO5.out, by rw [HBI.out, HBY.out, bitsB_append, bitsB_one, List.append_assoc], HBL.out⟩, ?_⟩
          simp [intOf]
          omega
        · go_wp2_with fail
          exact ⟨⟨k + 1, A3, c3, h2, m3, o3, by omega, by go_num, rfl, by omega, rfl, hlt, rfl, by omega, HO.out, HBI.out, HB.out⟩, by simp [intOf]; omega⟩
    · obtain rfl : k = n := by omega
      have hbl := HBI.out
      rw [List.take_of_length_le (by omega)] at hbl
      have HBJ := hid hbl
      clear hbl HBI
      by_cases hm0 : 0 < m
      · have hs8 : IntKind.i64.wrap (8 - (m : Int)) = ((8 - m : Nat) : Int) := by rw [IntWalk.i64_in _ (by omega)]; omega
        have hol3 : o.length ≤ 6000000000 := by omega
        go_wp2_with fail
        (refine wp_mixC (fun _ => True) ?_ ?_ (trivial) ?_; (focus kernel_rfl); (focus kernel_rfl); intro KK hKK; go_wp2_with (first
                                        | (first
          | ((with_reducible refine at_mapp ?_); go_loud (refine mixS_app w2.heap.size 5 i0 _ 1 1 Try.underlying22 hi.out hz.out hsz.out hby.out rfl (by decide) _ o.length _ (HO.out.drew.alloc _) _ 1 1 _ (rd_one rfl) ?_ ?_ ?_ ?_ ?_ ?_ ?_ ?_; (focus rfl); (focus rfl); (focus (simp [Value.oneCell'])); (focus omega); (focus omega); (focus (simp; omega)); (focus rfl); intro A5 c5 w5 ho5 hg5 hc5; have HO5 := hid ho5; have HG5 := hid hg5; clear ho5 hg5 hc5; refine ⟨trivial, ?_⟩))
          | ((with_reducible refine And.intro ?_ ?_); (focus (exact trivial))))
                                        | (with_reducible refine mix_nil ?_)
                                        | ((with_reducible refine mixS_on ?_ ?_); (focus rfl); intro K K' hK hK'; go_simp; (first | ((with_reducible refine hK _ _ ?_); clear hK hK' K K') | ((with_reducible refine hK' _ _ ?_); clear hK hK' K K') | skip))
                                        | ((with_reducible refine mixS_off ?_ ?_); (focus rfl); intro K hK; go_simp; (first | ((with_reducible refine hK _ _ ?_); clear hK K) | skip))
                                        | ((with_reducible refine mixS_step ?_); intro K K' hK hK'; go_simp; (first | ((with_reducible refine hK _ _ ?_); clear hK hK' K K') | ((with_reducible refine hK' _ _ ?_); clear hK hK' K K') | skip))))
        rw [last_val (by omega)] at HO5
        have HBY := hid (last_bits (hv := hv) (m := m) (by omega))
        generalize UInt8.ofNat ((hv <<< (8 - m)) % 2 ^ 64 ||| (2 ^ (8 - m) - 1)) = by8 at HO5 HBY
        have hbl : Below w2.heap.size w2 w5 := below_app ((HB.out.alloc (by omega) _).drew) ((HO.out.alloc _).drew) HG5.out (Nat.le_refl _) (by simp; omega)
        have HBL := hid hbl
        clear hbl HG5 HB
        refine bodyPost_ret (v := .slice A5 (o.length + 1) c5) (by simp [results, Try.results10, go_sem]) rfl ?_
        exact ⟨A5, o.length + 1, c5, o ++ [by8], 8 - m, rfl, by rw [List.map_append]; exact HO5.out.mono (by rw [HG.out]; exact HWS.out), by rw [bitsB_append, bitsB_one, HBY.out, HBJ.out, List.append_assoc], by omega, by rw [HG.out]; exact HW.out.trans (HBL.out.mono HWS.out)⟩
      · obtain rfl : m = 0 := by omega
        go_wp2_with fail
        refine bodyPost_ret (v := .slice A2 o.length c2) (by simp [results, Try.results10, go_sem]) rfl ?_
        exact ⟨A2, o.length, c2, o, 0, rfl, HO.out.mono (by rw [HG.out]; exact HWS.out), by rw [HBJ.out]; simp [lowb], by omega, by rw [HG.out]; exact HW.out.trans (HB.out.mono HWS.out)⟩
end Go.Proofs.Ytimklfdofldhaaa
