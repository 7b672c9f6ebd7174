/- What the frame package's Put and Same, and the reference's, do, each call once: the bytes and the error that they hand back, over whatever memory. No condition but that the arguments read as bytes. -/
import Derived.Test.YtakkabilpjjmgaaBytesFn
namespace Go.Proofs.Ytakkabilpjjmgaa
open Go.RowKit

def u8 (n : Int) : UInt8 := UInt8.ofNat n.toNat
theorem bv_u8 (n : Int) (h0 : 0 ≤ n) (h1 : n < 256) : Value.int .u8 n = bv (u8 n) := bv_mk n h0 h1

/-- The nine bytes ahead of a body. -/
def putHead (n k f s : Int) : List UInt8 :=
  [u8 (n / 65536), u8 (n / 256 % 256), u8 (n % 256), u8 k, u8 f, u8 (s / 16777216), u8 (s / 65536 % 256), u8 (s / 256 % 256), u8 (s % 256)]
def putErr (k f s : Int) (l : List UInt8) : Int :=
  if k < 0 ∨ 255 < k ∨ f < 0 ∨ 255 < f ∨ s < 0 ∨ 2147483647 < s then 1 else if 16777215 < l.length then 3 else 0
def putBytes (k f s : Int) (l : List UInt8) : List UInt8 := if putErr k f s l = 0 then putHead l.length k f s ++ l else []

set_option maxHeartbeats 400000 in
theorem bytes_any (A A' : Option Addr) (n c n' c' : Nat) (l l' : List UInt8) (w : World) (h : Bs w A n l) (h' : Bs w A' n' l') :
    Calls Try.prog 12 #[.slice A n c, .slice A' n' c'] w fun e w' => e = .returned (.bool (l == l')) ∧ w = w' := by
  have k1 := run_str (P := Try.prog) (c := c) h 25 9 5 Try.underlying25 Try.underlying5 Try.underlying9
  have k2 := run_str (P := Try.prog) (c := c') h' 25 9 5 Try.underlying25 Try.underlying5 Try.underlying9
  clear h h'
  go_enter Try.func12, Try.ntmps12
  go_wp2_with fail
  go_ret
  exact ⟨rfl, rfl⟩

set_option maxHeartbeats 400000 in
theorem equal_any (A A' : Option Addr) (n c n' c' : Nat) (l l' : List UInt8) (w : World) (h : Bs w A n l) (h' : Bs w A' n' l') :
    Calls Try.prog 21 #[.slice A n c, .slice A' n' c'] w fun e w' => e = .returned (.bool (l == l')) ∧ w = w' := by
  have k1 := run_str (P := Try.prog) (c := c) h 25 9 5 Try.underlying25 Try.underlying5 Try.underlying9
  have k2 := run_str (P := Try.prog) (c := c') h' 25 9 5 Try.underlying25 Try.underlying5 Try.underlying9
  clear h h'
  go_enter Try.func21, Try.ntmps21
  go_wp2_with fail
  go_ret
  exact ⟨rfl, rfl⟩

/-- A frame as a value. -/
abbrev fv (k f s : Int) (A : Option Addr) (n c : Nat) : Value := .agg #[.int .i64 k, .int .i64 f, .int .i64 s, .slice A n c]


def sameB (k f s : Int) (l : List UInt8) (k' f' s' : Int) (l' : List UInt8) : Bool := decide (k = k' ∧ f = f' ∧ s = s') && (l == l')

set_option maxHeartbeats 400000 in
theorem same_any (k f s k' f' s' : Int) (A A' : Option Addr) (n c n' c' : Nat) (l l' : List UInt8) (w : World) (h : Bs w A n l) (h' : Bs w A' n' l') :
    Calls Try.prog 13 #[fv k f s A n c, fv k' f' s' A' n' c'] w fun e w' => e = .returned (.bool (sameB k f s l k' f' s' l')) ∧ Below w.heap.size w w' := by
  unfold fv
  by_cases hk : k = k' ∧ f = f' ∧ s = s'
  · have hs : sameB k f s l k' f' s' l' = (l == l') := by simp [sameB, hk]
    obtain ⟨rfl, rfl, rfl⟩ := hk
    have HS := hid hs
    clear hs
    have H := hid h
    have H' := hid h'
    clear h h'
    go_enter Try.func13, Try.ntmps13
    go_wp2_with (go_at_call 21; refine (equal_any _ _ _ _ _ _ l l' _ (H.out.below (((Below.refl _ _).alloc (Nat.le_refl _) _).alloc (by simp) _)) (H'.out.below (((Below.refl _ _).alloc (Nat.le_refl _) _).alloc (by simp) _))).mono ?_; rintro e w' ⟨rfl, rfl⟩)
    go_ret
    exact ⟨by rw [HS.out]; rfl, (((Below.refl _ _).alloc (Nat.le_refl _) _).alloc (by simp) _)⟩
  · have hs : sameB k f s l k' f' s' l' = false := by simp [sameB, hk]
    have HS := hid hs
    clear hs h h'
    go_enter Try.func13, Try.ntmps13
    go_wp2_with fail
    all_goals first
      | (go_ret; exact ⟨by rw [HS.out]; rfl, (((Below.refl _ _).alloc (Nat.le_refl _) _).alloc (by simp) _)⟩)
      | (exfalso; omega)

set_option maxHeartbeats 400000 in
theorem same_ref (k f s k' f' s' : Int) (A A' : Option Addr) (n c n' c' : Nat) (l l' : List UInt8) (w : World) (h : Bs w A n l) (h' : Bs w A' n' l') :
    Calls Try.prog 14 #[fv k f s A n c, fv k' f' s' A' n' c'] w fun e w' => e = .returned (.bool (sameB k f s l k' f' s' l')) ∧ Below w.heap.size w w' := by
  unfold fv
  by_cases hk : k = k' ∧ f = f' ∧ s = s'
  · have hs : sameB k f s l k' f' s' l' = (l == l') := by simp [sameB, hk]
    obtain ⟨rfl, rfl, rfl⟩ := hk
    have HS := hid hs
    clear hs
    have H := hid h
    have H' := hid h'
    clear h h'
    go_enter Try.func14, Try.ntmps14
    go_wp2_with (go_at_call 12; refine (bytes_any _ _ _ _ _ _ l l' _ (H.out.below (((Below.refl _ _).alloc (Nat.le_refl _) _).alloc (by simp) _)) (H'.out.below (((Below.refl _ _).alloc (Nat.le_refl _) _).alloc (by simp) _))).mono ?_; rintro e w' ⟨rfl, rfl⟩)
    go_ret
    exact ⟨by rw [HS.out]; rfl, (((Below.refl _ _).alloc (Nat.le_refl _) _).alloc (by simp) _)⟩
  · have hs : sameB k f s l k' f' s' l' = false := by simp [sameB, hk]
    have HS := hid hs
    clear hs h h'
    go_enter Try.func14, Try.ntmps14
    go_wp2_with fail
    all_goals first
      | (go_ret; exact ⟨by rw [HS.out]; rfl, (((Below.refl _ _).alloc (Nat.le_refl _) _).alloc (by simp) _)⟩)
      | (exfalso; omega)

theorem putErr_ok {k f s : Int} {l : List UInt8} (h : ¬ (k < 0 ∨ 255 < k ∨ f < 0 ∨ 255 < f ∨ s < 0 ∨ 2147483647 < s)) (hn : l.length ≤ 16777215) : putErr k f s l = 0 := by
  unfold putErr
  rw [if_neg h, if_neg (by omega)]
theorem putErr_long {k f s : Int} {l : List UInt8} (h : ¬ (k < 0 ∨ 255 < k ∨ f < 0 ∨ 255 < f ∨ s < 0 ∨ 2147483647 < s)) (hn : 16777215 < l.length) : putErr k f s l = 3 := by
  unfold putErr
  rw [if_neg h, if_pos hn]
theorem putErr_bad {k f s : Int} {l : List UInt8} (h : k < 0 ∨ 255 < k ∨ f < 0 ∨ 255 < f ∨ s < 0 ∨ 2147483647 < s) : putErr k f s l = 1 := by
  unfold putErr
  rw [if_pos h]

/-- What Put hands back. -/
def PutPost (k f s : Int) (l : List UInt8) (w : World) (e : Ending) (w' : World) : Prop :=
  ∃ A n c, e = .returned (.tuple #[.slice A n c, .int .i64 (putErr k f s l)]) ∧ w'.ownsRow w.heap.size 5 1 (.slice A n c) n ((putBytes k f s l).map bv) ∧ Below w.heap.size w w'

theorem putPost_err {k f s : Int} {l : List UInt8} {w w' : World} {q : Int} (h : putErr k f s l = q) (hq : q ≠ 0) (hb : Below w.heap.size w w') :
    PutPost k f s l w (.returned (.tuple #[.slice none 0 0, .int .i64 q])) w' := by
  refine ⟨none, 0, 0, by rw [h], ?_, hb⟩
  have : putBytes k f s l = [] := by unfold putBytes; rw [h, if_neg hq]
  rw [this]
  exact World.ownsRow_nil _ _ _ _

theorem putHead_cells {n k f s : Int} (hn0 : 0 ≤ n) (hn1 : n ≤ 16777215) (hk0 : 0 ≤ k) (hk1 : k ≤ 255) (hf0 : 0 ≤ f) (hf1 : f ≤ 255) (hs0 : 0 ≤ s) (hs1 : s ≤ 2147483647) :
    [Value.int .u8 (n / 65536), .int .u8 (n / 256 % 256), .int .u8 (n % 256), .int .u8 k, .int .u8 f, .int .u8 (s / 16777216), .int .u8 (s / 65536 % 256), .int .u8 (s / 256 % 256), .int .u8 (s % 256)] = (putHead n k f s).map bv := by
  unfold putHead
  simp only [List.map_cons, List.map_nil]
  rw [← bv_u8 (n / 65536) (by omega) (by omega), ← bv_u8 (n / 256 % 256) (by omega) (by omega), ← bv_u8 (n % 256) (by omega) (by omega), ← bv_u8 k (by omega) (by omega), ← bv_u8 f (by omega) (by omega),
    ← bv_u8 (s / 16777216) (by omega) (by omega), ← bv_u8 (s / 65536 % 256) (by omega) (by omega), ← bv_u8 (s / 256 % 256) (by omega) (by omega), ← bv_u8 (s % 256) (by omega) (by omega)]

theorem own_nine {w : World} {B H : Nat} {e : TypeId} {a b c d f g h i j : Value} (hH : w.heap.size = H) (hB : B ≤ H) {l : List Value} (hl : [a, b, c, d, f, g, h, i, j] = l) :
    (w.alloc (.cells #[a, b, c, d, f, g, h, i, j] e)).ownsRow B e 1 (.slice (some ⟨H, 0, none⟩) 9 9) 9 l := by
  subst hl
  subst hH
  exact World.ownsRow_lit w #[a, b, c, d, f, g, h, i, j] 9 hB (by unfold maxLen; omega) rfl

set_option maxHeartbeats 1000000 in
set_option maxRecDepth 100000 in
theorem put_any (k f s : Int) (A : Option Addr) (n c : Nat) (l : List UInt8) (w : World) (h : Bs w A n l) :
    Calls Try.prog 10 #[fv k f s A n c] w (PutPost k f s l w) := by
  unfold fv
  have hlen := h.len
  by_cases hbad : k < 0 ∨ 255 < k ∨ f < 0 ∨ 255 < f ∨ s < 0 ∨ 2147483647 < s
  · have HE := hid (putErr_bad (l := l) hbad)
    clear h hlen
    go_enter Try.func10, Try.ntmps10
    go_wp2_with fail
    all_goals
      go_ret2
      exact putPost_err HE.out (by decide) ((Below.refl _ _).alloc (Nat.le_refl _) _)
  · by_cases hn : 16777215 < l.length
    · have HE := hid (putErr_long hbad hn)
      have hn' : (16777215 : Int) < (n : Int) := by omega
      clear h hlen hn
      go_enter Try.func10, Try.ntmps10
      go_wp2_with fail
      all_goals
        go_ret2
        exact putPost_err HE.out (by decide) ((Below.refl _ _).alloc (Nat.le_refl _) _)
    · have he := putErr_ok hbad (Nat.le_of_not_lt hn)
      have hb : putBytes k f s l = putHead n k f s ++ l := by unfold putBytes; rw [if_pos he, hlen]
      have HE := hid he
      have HB := hid hb
      have hn' : (n : Int) ≤ 16777215 := by omega
      obtain ⟨hk0, hk1, hf0, hf1, hs0, hs1⟩ : 0 ≤ k ∧ k ≤ 255 ∧ 0 ≤ f ∧ f ≤ 255 ∧ 0 ≤ s ∧ s ≤ 2147483647 := by omega
      have H := hid h
      have HC := hid (putHead_cells (n := (n : Int)) (by omega) hn' hk0 hk1 hf0 hf1 hs0 hs1)
      obtain ⟨i0, hi0, hz0, hz1, hz2⟩ := info_parts u8_info
      have hi := hid hi0
      have hz := hid hz0
      have hsz := hid hz1
      have hby := hid hz2
      clear h hlen hn he hb hbad hi0 hz0 hz1 hz2
      go_enter Try.func10, Try.ntmps10
      go_wp2_with fail
      go_quiet (fail)
      have hb1 := below_drewN ((Below.refl w.heap.size w).alloc (Nat.le_refl _) (.cells #[.int .i64 k, .int .i64 f, .int .i64 s, .slice A n c] 30)) nq
      have hz1 : (((w.alloc (.cells #[.int .i64 k, .int .i64 f, .int .i64 s, .slice A n c] 30)).drewN nq)).heap.size = w.heap.size + 1 := by simp
      have HZ := hid hz1
      have HW := hid hb1
      clear hb1 hz1
      go_wp2_with (at_builtin; refine wpList_app _ rfl _ _ _ rfl w.heap.size 5 i0 _ 1 1 Try.underlying25 hi.out hz.out hsz.out hby.out rfl (by omega) _ 9 _ rfl (own_nine HZ.out (Nat.le_succ _) HC.out) A n c (l.map bv) rfl (H.out.below (HW.out.alloc (by rw [HZ.out]; omega) _)) (bv_one l) (by omega) (by omega) (by simp; omega) ?_; intro A' c' w' hown hg hat)
      go_ret2
      refine ⟨A', 9 + n, c', by rw [HE.out]; rfl, ?_, below_app (HW.out.alloc (by rw [HZ.out]; omega) _) (own_nine (e := 5) HZ.out (Nat.le_succ _) HC.out) hg (Nat.le_refl _) (by simp; omega)⟩
      rw [HB.out, List.map_append]
      exact hown

/-- The first k of the lowest n bytes of a number, the highest first. -/
def numB (v : Int) (n k : Nat) : List UInt8 := (List.range k).map fun j => u8 (v / 2 ^ (8 * (n - 1 - j)) % 256)
theorem numB_len (v : Int) (n k : Nat) : (numB v n k).length = k := by simp [numB]
theorem numB_succ (v : Int) (n k : Nat) : (numB v n (k + 1)).map bv = (numB v n k).map bv ++ [.int .u8 (v / 2 ^ (8 * (n - 1 - k)) % 256)] := by
  have h0 : 0 ≤ v / 2 ^ (8 * (n - 1 - k)) % 256 := Int.emod_nonneg _ (by decide)
  have h1 : v / 2 ^ (8 * (n - 1 - k)) % 256 < 256 := Int.emod_lt_of_pos _ (by decide)
  rw [bv_u8 _ h0 h1]
  unfold numB
  rw [List.range_succ]
  simp

set_option maxHeartbeats 400000 in
set_option maxRecDepth 100000 in
theorem num_any (v : Int) (n : Nat) (w : World) (hn : n ≤ 8) :
    Calls Try.prog 20 #[.int .i64 v, .int .i64 n] w fun e w' =>
      ∃ A c, e = .returned (.slice A n c) ∧ w'.ownsRow w.heap.size 5 1 (.slice A n c) n ((numB v n n).map bv) ∧ Below w.heap.size w w' := by
  obtain ⟨i0, hi0, hz0, hz1, hz2⟩ := info_parts u8_info
  have hi := hid hi0
  have hz := hid hz0
  have hsz := hid hz1
  have hby := hid hz2
  clear hi0 hz0 hz1 hz2
  go_enter Try.func20, Try.ntmps20
  go_wp2_with fail
  go_loopw [5, 6] (fun o i wr => ∃ k : Nat, k ≤ n ∧ i = .int .i64 ((n : Int) - 1 - k) ∧ ∃ A c, o = .slice A k c ∧ wr.ownsRow w.heap.size 5 1 (.slice A k c) k ((numB v n k).map bv) ∧ Below w.heap.size w wr) (fun _ i _ => (intOf i + 1).toNat)
  case atStart => exact ⟨0, Nat.zero_le _, by simp, none, 0, rfl, World.ownsRow_nil _ _ _ _, Below.refl _ _⟩
  case round =>
    obtain ⟨k, hk, rfl, A, c, rfl, hown, hb⟩ := hrel
    have HO := hid hown
    have HB := hid hb
    have hsw := hb.size
    clear hown hb
    go_wp2_with (at_builtin; refine wpList_app _ rfl _ _ _ rfl w.heap.size 5 i0 _ 1 1 Try.underlying25 hi.out hz.out hsz.out hby.out rfl (by omega) _ k _ rfl (HO.out.alloc _) _ 1 1 _ rfl (rd_one rfl) (by simp [Value.oneCell']) (by omega) (by omega) (by simp; omega) ?_; intro A' c' w' hown' hg hat; have HO' := hid hown'; have HG := hid hg; clear hown' hg hat)
    · go_roundw
      case rel => exact ⟨k + 1, by omega, by go_num, A', c', rfl, by rw [numB_succ]; exact HO'.out, below_app (HB.out.alloc hsw _) (HO.out.alloc _) HG.out (Nat.le_refl _) (by simp; omega)⟩
      case measure => simp [intOf]; omega
    · obtain rfl : k = n := by omega
      go_ret
      exact ⟨A, c, rfl, HO.out, HB.out⟩
end Go.Proofs.Ytakkabilpjjmgaa
