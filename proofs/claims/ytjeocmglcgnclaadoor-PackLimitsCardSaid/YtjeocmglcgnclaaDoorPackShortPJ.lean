/- PackShort's plain law: what the encoder writes of one short field, three times. No program in sight. -/
import Derived.Test.YtjeocmglcgnclaaDoorGk
namespace Go.Proofs.YtjeocmglcgnclaaDoor
open Go.RowKit

theorem put_head {first bits n : Int} (h0 : 0 ≤ first) (h1 : first < 256) (hb1 : 1 ≤ bits) (hb2 : bits ≤ 8) (hn : 0 ≤ n) (hn1 : n ≤ 2147483647) :
    ∃ (x : UInt8) (t : List UInt8), (putR first bits n).1 = x :: t ∧ (x.toNat : Int) = first / (onesN bits + 1) * (onesN bits + 1) + min n (onesN bits) ∧ (n < onesN bits → t = []) := by
  obtain ⟨⟨x, t, e1, e2, e3, _⟩, _⟩ := coded_of h0 h1 hb1 hb2 hn hn1
  exact ⟨x, t, e1, e2, e3⟩
theorem put7_few : (putR 0 7 300).1.length = 3 := by decide +kernel
theorem put7_len (f n : Int) (h : 0 ≤ n) (h1 : n ≤ 300) : (putR f 7 n).1.length ≤ 3 := by
  rw [put_len f 0, ← put7_few]
  exact put_mono h (by omega) h1
theorem textP_few {s : List UInt8} (h : s.length ≤ 300) : (textP s).length ≤ s.length + 3 := by
  unfold textP
  split
  · rw [List.length_append, encP_len]
    have := put7_len 128 ((hbits s + 7) / 8 : Nat) (by omega) (by omega)
    omega
  · rw [List.length_append]
    have := put7_len 0 s.length (by omega) (by omega)
    omega
theorem put_pos {first bits n : Int} (h0 : 0 ≤ first) (h1 : first < 256) (hb1 : 1 ≤ bits) (hb2 : bits ≤ 8) (hn : 0 ≤ n) (hn1 : n ≤ 2147483647) : 1 ≤ (putR first bits n).1.length := by
  obtain ⟨x, t, e, _⟩ := put_head h0 h1 hb1 hb2 hn hn1
  rw [e, List.length_cons]
  omega
theorem textP_pos {s : List UInt8} (h : s.length ≤ 2147483647) : 1 ≤ (textP s).length := by
  unfold textP
  split
  · rw [List.length_append]
    have := put_pos (first := 128) (bits := 7) (n := ((hbits s + 7) / 8 : Nat)) (by omega) (by omega) (by omega) (by omega) (by omega) (by omega)
    omega
  · rw [List.length_append]
    have := put_pos (first := 0) (bits := 7) (n := s.length) (by omega) (by omega) (by omega) (by omega) (by omega) (by omega)
    omega
theorem fieldsP_one (most : Int) (L : List Fd) (f : Fd) : fieldsP most L [f] = fieldP most L f := by
  unfold fieldsP
  simp
theorem fieldsP_two (most : Int) (L : List Fd) (f g : Fd) : fieldsP most L [f, g] = ((fieldP most L f).1 ++ (fieldP most (fieldP most L f).2 g).1, (fieldP most (fieldP most L f).2 g).2) := by
  unfold fieldsP
  simp
theorem blockP_quiet {m : Int} (h : m ≤ 4096) (L l : List Fd) : blockP m m 4096 L l = fieldsP m L l := by
  unfold blockP
  rw [first_none h]
  rfl
theorem ones_7 : onesN 7 = 127 := rfl
theorem ones_6 : onesN 6 = 63 := rfl
theorem ones_4 : onesN 4 = 15 := rfl
theorem ones_5 : onesN 5 = 31 := rfl
theorem name_le {L : List Fd} (h : L.length ≤ 4096) (f : Fd) : nameI L f ≤ 4157 := by
  unfold nameI
  exact ix_le (findP_le _ _ _).2 (Nat.le_trans (findK_le _ _ _ _).2 h)
/-- A literal never to be added: its first byte, and that it is longer than one. -/
theorem never_head {L : List Fd} (h : L.length ≤ 4096) (f : Fd) (hv : f.v.size ≤ 2147483647) : ∃ (x : UInt8) (t : List UInt8), litP 16 4 L f = x :: t ∧ 16 ≤ x.toNat ∧ x.toNat < 32 ∧ 1 ≤ t.length := by
  have hn := name_le h f
  obtain ⟨x, t, e1, e2, _⟩ := put_head (first := 16) (bits := 4) (n := (nameI L f : Nat)) (by omega) (by omega) (by omega) (by omega) (by omega) (by omega)
  have ht := textP_pos (s := f.v.data.toList) (by rw [ba_len]; exact hv)
  rw [ones_4] at e2
  refine ⟨x, t ++ (if nameI L f = 0 then textP f.n.data.toList else []) ++ textP f.v.data.toList, ?_, by omega, by omega, by simp only [List.length_append]; omega⟩
  unfold litP
  rw [e1]
  rfl

theorem short_plain (n v : ByteArray) (hn : n.size ≤ 300) (hv : v.size ≤ 300) : ∃ (a : List UInt8) (L1 : List Fd) (b c0 : UInt8) (ct : List UInt8),
    blockP 4096 4096 4096 [] [⟨n, v, false⟩] = (a, L1) ∧ 1 ≤ a.length ∧ a.length ≤ n.size + v.size + 9 ∧
    blockP 4096 4096 4096 L1 [⟨n, v, false⟩] = ([b], L1) ∧ 128 ≤ b.toNat ∧
    blockP 4096 4096 4096 L1 [⟨n, v, true⟩, ⟨n, v, true⟩] = (c0 :: ct, L1) ∧ 1 ≤ ct.length ∧ 16 ≤ c0.toNat ∧ c0.toNat < 32 := by
  simp only [blockP_quiet (Int.le_refl 4096), fieldsP_one, fieldsP_two]
  obtain ⟨f, hf⟩ : ∃ f : Fd, f = ⟨n, v, false⟩ := ⟨_, rfl⟩
  obtain ⟨g, hg⟩ : ∃ g : Fd, g = ⟨n, v, true⟩ := ⟨_, rfl⟩
  rw [← hf, ← hg]
  have hgx : g.x = true := by rw [hg]
  have hfx : ¬ f.x = true := by rw [hf]; simp
  have hgp : ∀ L, fieldP 4096 L g = (litP 16 4 L g, L) := fun L => by unfold fieldP; rw [if_pos hgx]
  have hfl := findP_le f.n.data.toList f.v.data.toList 61
  have hb0 : bothI [] f = (findP f.n.data.toList f.v.data.toList 61).1 := by unfold bothI; exact ix_stat (by simp [findK])
  have hn0 : nameI [] f = (findP f.n.data.toList f.v.data.toList 61).2 := by unfold nameI; exact ix_stat (by simp [findK])
  have hfn : f.n.size = n.size := by rw [hf]
  have hfv : f.v.size = v.size := by rw [hf]
  have hgv : g.v.size = v.size := by rw [hg]
  have never : ∀ L : List Fd, L.length ≤ 4096 → ∃ (c0 : UInt8) (ct : List UInt8), ((fieldP 4096 L g).1 ++ (fieldP 4096 (fieldP 4096 L g).2 g).1, (fieldP 4096 (fieldP 4096 L g).2 g).2) = (c0 :: ct, L) ∧ 1 ≤ ct.length ∧ 16 ≤ c0.toNat ∧ c0.toNat < 32 := fun L hL => by
    obtain ⟨x, t, e1, e2, e3, e4⟩ := never_head hL g (by omega)
    rw [hgp]
    dsimp only
    rw [hgp, e1]
    exact ⟨x, t ++ x :: t, rfl, by simp only [List.length_append]; omega, e2, e3⟩
  by_cases hb : 0 < bothI [] f
  · have hp : fieldP 4096 [] f = ((putR 128 7 (bothI [] f : Nat)).1, []) := by unfold fieldP; rw [if_neg hfx, if_pos hb]
    obtain ⟨x, t, e1, e2, e3⟩ := put_head (first := 128) (bits := 7) (n := (bothI [] f : Nat)) (by omega) (by omega) (by omega) (by omega) (by omega) (by omega)
    rw [ones_7] at e2 e3
    rw [e3 (by omega)] at e1
    obtain ⟨c0, ct, k1, k2, k3, k4⟩ := never [] (by simp)
    rw [hp, e1]
    exact ⟨[x], [], x, c0, ct, rfl, by simp, by simp only [List.length_singleton]; omega, by rw [hp, e1], by omega, k1, k2, k3, k4⟩
  · have hp : fieldP 4096 [] f = (litP 64 6 [] f, addL 4096 [] f) := by unfold fieldP; rw [if_neg hfx, if_neg hb]
    have ha : addL 4096 [] f = [f] := by
      unfold addL
      rw [if_pos (by unfold Fd.size; omega), shr]
      rw [hf]
      rfl
    have hk : findK [f] f.n f.v 1 = (1, 1) := by
      rw [show (1 : Nat) = 0 + 1 by rfl, findK_some (f := f) rfl]
      simp
    have hb1 : bothI [f] f = 62 := by
      unfold bothI
      rw [show [f].length = 1 by rfl, hk]
      rw [hb0] at hb
      exact ix_own (by omega) (by omega)
    have hp1 : fieldP 4096 [f] f = ((putR 128 7 62).1, [f]) := by unfold fieldP; rw [if_neg hfx, if_pos (by omega), hb1]; rfl
    obtain ⟨c0, ct, k1, k2, k3, k4⟩ := never [f] (by simp)
    rw [hp, ha]
    refine ⟨litP 64 6 [] f, [f], 190, c0, ct, rfl, ?_, ?_, by rw [hp1]; rfl, by decide, k1, k2, k3, k4⟩
    · unfold litP
      rw [List.length_append]
      have ht := textP_pos (s := f.v.data.toList) (by rw [ba_len]; omega)
      omega
    · unfold litP
      have h1 := textP_few (s := f.n.data.toList) (by rw [ba_len]; omega)
      have h2 := textP_few (s := f.v.data.toList) (by rw [ba_len]; omega)
      rw [ba_len] at h1 h2
      obtain ⟨x, t, e1, e2, e3⟩ := put_head (first := 64) (bits := 6) (n := (nameI [] f : Nat)) (by omega) (by omega) (by omega) (by omega) (by omega) (by omega)
      rw [ones_6] at e3
      rw [e1, e3 (by omega), List.length_append, List.length_append]
      split
      · simp only [List.length_singleton]; omega
      · simp only [List.length_singleton, List.length_nil]; omega
end Go.Proofs.YtjeocmglcgnclaaDoor
