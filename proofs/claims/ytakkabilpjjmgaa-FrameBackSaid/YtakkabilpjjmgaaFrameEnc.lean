/- Encodings of frames one behind another, and what a parser answers at a prefix of them. -/
import Derived.Test.YtakkabilpjjmgaaFrameRooms
namespace Go.Proofs.Ytakkabilpjjmgaa
open Go.RowKit

def fB (x : Fr) : List UInt8 := putBytes x.k x.f x.s x.l
def enc (fs : List Fr) : List UInt8 := fs.flatMap fB
theorem enc_append (a b : List Fr) : enc (a ++ b) = enc a ++ enc b := by simp [enc]
theorem enc_cons (x : Fr) (b : List Fr) : enc (x :: b) = fB x ++ enc b := by simp [enc]
/-- A frame that goes, its body as long as it says. -/
structure OkF (x : Fr) : Prop where
  err : putErr x.k x.f x.s x.l = 0
  len : x.l.length = x.n
theorem OkF.eq {x : Fr} (h : OkF x) : fB x = putHead (x.n : Int) x.k x.f x.s ++ x.l := by
  unfold fB
  rw [putBytes_ok h.err, h.len]
theorem OkF.size {x : Fr} (h : OkF x) : (fB x).length = 9 + x.n := by
  rw [h.eq, List.length_append, putHead_len, h.len]
theorem putErr_all {k f s : Int} {l : List UInt8} (he : putErr k f s l = 0) : 0 ≤ k ∧ k ≤ 255 ∧ 0 ≤ f ∧ f ≤ 255 ∧ 0 ≤ s ∧ s ≤ 2147483647 ∧ l.length ≤ 16777215 := by
  by_cases hbad : k < 0 ∨ 255 < k ∨ f < 0 ∨ 255 < f ∨ s < 0 ∨ 2147483647 < s
  · rw [putErr_bad hbad] at he
    omega
  · by_cases hl : l.length ≤ 16777215
    · omega
    · rw [putErr_long hbad (by omega)] at he
      omega
theorem nb_head (i : Nat) (hi : i < 9) (h r : List UInt8) (hh : h.length = 9) : nb (h ++ r) i = nb h i := by
  unfold nb
  rw [List.getD_eq_getElem?_getD, List.getD_eq_getElem?_getD, List.getElem?_append_left (by omega)]
theorem head_parts {n k f s : Int} (hk0 : 0 ≤ k) (hk1 : k ≤ 255) (hf0 : 0 ≤ f) (hf1 : f ≤ 255) (hs0 : 0 ≤ s) (hs1 : s ≤ 2147483647) (r : List UInt8) :
    nb (putHead n k f s ++ r) 3 = k ∧ nb (putHead n k f s ++ r) 4 = f ∧ strI (putHead n k f s ++ r) = s := by
  unfold strI
  rw [nb_head 3 (by omega) _ _ rfl, nb_head 4 (by omega) _ _ rfl, nb_head 5 (by omega) _ _ rfl, nb_head 6 (by omega) _ _ rfl, nb_head 7 (by omega) _ _ rfl, nb_head 8 (by omega) _ _ rfl]
  unfold nb putHead
  simp only [List.getD_cons_zero, List.getD_cons_succ]
  rw [nb_u8 k (by omega) (by omega), nb_u8 f (by omega) (by omega), nb_u8 _ (by omega) (by omega), nb_u8 _ (by omega) (by omega), nb_u8 _ (by omega) (by omega), nb_u8 _ (by omega) (by omega)]
  omega
/-- What has come in of x and what stands behind it. -/
theorem pref_eq {x : Fr} (h : OkF x) (E : List UInt8) {m : Nat} (hm : 9 ≤ m) : (fB x ++ E).take m = putHead (x.n : Int) x.k x.f x.s ++ (x.l ++ E).take (m - 9) := by
  rw [h.eq, List.append_assoc, List.take_append, List.take_of_length_le (by rw [putHead_len]; exact hm), putHead_len]
theorem pref_len {x : Fr} (h : OkF x) (E : List UInt8) {m : Nat} (hm : m ≤ 9 + x.n + E.length) : ((fB x ++ E).take m).length = m := by
  rw [List.length_take, List.length_append, h.size]
  omega
theorem pref_few {x : Fr} (h : OkF x) (E : List UInt8) {m : Nat} (room : Int) (hm : m < 9) : nextE room ((fB x ++ E).take m) = 4 := by
  unfold nextE
  rw [if_pos (by rw [pref_len h E (by omega)]; exact hm)]
theorem pref_lenI {x : Fr} (h : OkF x) (E : List UInt8) {m : Nat} (hm : 9 ≤ m) : lenI ((fB x ++ E).take m) = x.n := by
  have := putErr_all h.err
  rw [pref_eq h E hm, lenI_head (by omega) (by have := h.len; omega)]
theorem pref_long {x : Fr} (h : OkF x) (E : List UInt8) {m : Nat} {room : Int} (hm : 9 ≤ m) (hm2 : m ≤ 9 + x.n + E.length) (hr : room < x.n) : nextE room ((fB x ++ E).take m) = 3 := by
  unfold nextE
  rw [pref_len h E hm2, pref_lenI h E hm, if_neg (by omega), if_pos hr]
theorem pref_short {x : Fr} (h : OkF x) (E : List UInt8) {m : Nat} {room : Int} (hm : 9 ≤ m) (hm2 : m ≤ 9 + x.n + E.length) (hr : (x.n : Int) ≤ room) (hs : m < 9 + x.n) : nextE room ((fB x ++ E).take m) = 4 := by
  unfold nextE
  rw [pref_len h E hm2, pref_lenI h E hm, if_neg (by omega), if_neg (by omega), if_pos (by omega)]
theorem pref_ok {x : Fr} (h : OkF x) (E : List UInt8) {m : Nat} {room : Int} (hm2 : m ≤ 9 + x.n + E.length) (hr : (x.n : Int) ≤ room) (hs : 9 + x.n ≤ m) :
    nextE room ((fB x ++ E).take m) = 0 ∧ nb ((fB x ++ E).take m) 3 = x.k ∧ nb ((fB x ++ E).take m) 4 = x.f ∧ strI ((fB x ++ E).take m) = x.s ∧ (((fB x ++ E).take m).drop 9).take x.n = x.l ∧ ((fB x ++ E).take m).drop (9 + x.n) = E.take (m - (9 + x.n)) := by
  have hm : 9 ≤ m := by omega
  have hr := putErr_all h.err
  have hp := head_parts (n := (x.n : Int)) hr.1 hr.2.1 hr.2.2.1 hr.2.2.2.1 hr.2.2.2.2.1 hr.2.2.2.2.2.1 ((x.l ++ E).take (m - 9))
  refine ⟨?_, ?_, ?_, ?_, ?_, ?_⟩
  · unfold nextE
    rw [pref_len h E hm2, pref_lenI h E hm, if_neg (by omega), if_neg (by omega), if_neg (by omega)]
  · rw [pref_eq h E hm]; exact hp.1
  · rw [pref_eq h E hm]; exact hp.2.1
  · rw [pref_eq h E hm]; exact hp.2.2
  · rw [pref_eq h E hm, List.drop_append_of_le_length (by rw [putHead_len]; omega), List.drop_of_length_le (by rw [putHead_len]; omega), List.nil_append, List.take_take, Nat.min_eq_left (by omega), List.take_append_of_le_length (by rw [h.len]; omega), List.take_of_length_le (by rw [h.len]; omega)]
  · rw [List.drop_take, List.drop_append_of_le_length (by rw [h.size]; omega), List.drop_of_length_le (by rw [h.size]; omega), List.nil_append]

/-- The parser has l of what stands from frame got on. -/
def At (fs : List Fr) (got m : Nat) : List UInt8 := (enc (fs.drop got)).take m
theorem drop_cons {fs : List Fr} {got : Nat} {x : Fr} (h : fs[got]? = some x) : fs.drop got = x :: fs.drop (got + 1) := by
  obtain ⟨hk, hx⟩ := List.getElem?_eq_some_iff.1 h
  rw [List.drop_eq_getElem_cons hk, hx]
theorem At_cons {fs : List Fr} {got m : Nat} {x : Fr} (h : fs[got]? = some x) : At fs got m = (fB x ++ enc (fs.drop (got + 1))).take m := by
  unfold At
  rw [drop_cons h, enc_cons]
theorem At_feed (fs : List Fr) (got m n : Nat) {b : List UInt8} {at_ : Nat} (hb : b = enc fs) (hat : at_ = (enc (fs.take got)).length + m) : At fs got m ++ (b.drop at_).take n = At fs got (m + n) := by
  subst hb
  have e : (enc fs).drop at_ = (enc (fs.drop got)).drop m := by
    have : enc fs = enc (fs.take got) ++ enc (fs.drop got) := by rw [← enc_append, List.take_append_drop]
    rw [this, hat, ← List.drop_drop, List.drop_left]
  rw [e]
  unfold At
  rw [List.take_add]
theorem enc_take_succ {fs : List Fr} {got : Nat} {x : Fr} (h : fs[got]? = some x) (hx : OkF x) : (enc (fs.take (got + 1))).length = (enc (fs.take got)).length + (9 + x.n) := by
  rw [List.take_add_one, h, enc_append, List.length_append]
  simp [enc, hx.size]
theorem enc_split (fs : List Fr) (got : Nat) : (enc fs).length = (enc (fs.take got)).length + (enc (fs.drop got)).length := by
  rw [← List.length_append, ← enc_append, List.take_append_drop]
end Go.Proofs.Ytakkabilpjjmgaa
