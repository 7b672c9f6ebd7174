/- Joined texts: PackP Pack PackF PackE PackFirst PackI. Each names its own conditions. -/
import Derived.Test.YtjeocmglcgnclaaDoorEncPJ
import Derived.Test.YtjeocmglcgnclaaDoorGp
import Derived.Test.YtjeocmglcgnclaaDoorGd
import Derived.Test.YtjeocmglcgnclaaDoorGs
import Derived.Test.YtjeocmglcgnclaaDoorGh

/- What the encoder of header blocks writes: plain functions on bytes, fields and the table. No program in sight; no condition beyond each lemma's own. -/
namespace Go.Proofs.YtjeocmglcgnclaaDoor
open Go.RowKit

theorem putR_len (first bits n : Int) : (putR first bits n).1.length ≤ 7 := by
  unfold putR
  have hg : ∀ q m, (groups q m).length ≤ q + 1 := by
    intro q
    induction q with
    | zero => intro m; simp [groups]
    | succ q ih => intro m; rw [groups]; split
                   · simp
                   · rw [List.length_cons]; have := ih (m / 128); omega
  split
  · simp
  · split
    · simp
    · have := hg 5 (n - onesN bits).toNat
      simp only [List.length_cons]
      omega
theorem textP_len (s : List UInt8) : (textP s).length ≤ s.length + 7 := by
  unfold textP
  split
  · rw [List.length_append, encP_len]
    have := putR_len 128 7 ((hbits s + 7) / 8 : Nat)
    omega
  · rw [List.length_append]
    have := putR_len 0 7 s.length
    omega
/-- An index: of the static table, else of one's own. -/
def ixB (a own : Nat) : Nat := if a = 0 ∧ 0 < own then own + 61 else a
def bothI (L : List Fd) (f : Fd) : Nat := ixB (findP f.n.data.toList f.v.data.toList 61).1 (findK L f.n f.v L.length).1
def nameI (L : List Fd) (f : Fd) : Nat := ixB (findP f.n.data.toList f.v.data.toList 61).2 (findK L f.n f.v L.length).2
/-- A field, as it is written; and what it leaves in the table. -/
def litP (first bits : Int) (L : List Fd) (f : Fd) : List UInt8 :=
  (putR first bits (nameI L f : Nat)).1 ++ (if nameI L f = 0 then textP f.n.data.toList else []) ++ textP f.v.data.toList
def fieldP (most : Int) (L : List Fd) (f : Fd) : List UInt8 × List Fd :=
  if f.x then (litP 16 4 L f, L)
  else if 0 < bothI L f then ((putR 128 7 (bothI L f : Nat)).1, L)
  else (litP 64 6 L f, addL most L f)
def fieldsP (most : Int) (L : List Fd) (l : List Fd) : List UInt8 × List Fd := l.foldl (fun r f => (r.1 ++ (fieldP most r.2 f).1, (fieldP most r.2 f).2)) ([], L)
theorem fieldsP_snoc (most : Int) (L l : List Fd) (f : Fd) : fieldsP most L (l ++ [f]) = ((fieldsP most L l).1 ++ (fieldP most (fieldsP most L l).2 f).1, (fieldP most (fieldsP most L l).2 f).2) := by
  unfold fieldsP
  rw [List.foldl_append]
  rfl
theorem litP_len (first bits : Int) (L : List Fd) (f : Fd) : (litP first bits L f).length ≤ f.size := by
  unfold litP Fd.size
  rw [List.length_append, List.length_append]
  have h1 := putR_len first bits (nameI L f : Nat)
  have h2 := textP_len f.n.data.toList
  have h3 := textP_len f.v.data.toList
  have e1 := ba_len f.n
  have e2 := ba_len f.v
  split
  · omega
  · rw [List.length_nil]
    omega
theorem fieldP_len (most : Int) (L : List Fd) (f : Fd) : (fieldP most L f).1.length ≤ f.size := by
  unfold fieldP
  split
  · exact litP_len 16 4 L f
  · split
    · have := putR_len 128 7 (bothI L f : Nat)
      dsimp only
      unfold Fd.size
      omega
    · exact litP_len 64 6 L f
theorem fieldsP_len (most : Int) (L l : List Fd) : (fieldsP most L l).1.length ≤ total l := by
  rw [← List.reverse_reverse l]
  generalize l.reverse = r
  induction r with
  | nil => simp [fieldsP]
  | cons f r ih =>
    rw [List.reverse_cons, fieldsP_snoc, List.length_append, total_append, total_cons]
    have := fieldP_len most (fieldsP most L r.reverse).2 f
    simp only [total, List.map_nil, List.sum_nil] at ih ⊢
    omega
theorem TabOk.field {most : Int} {L : List Fd} (h : TabOk most L) (f : Fd) : TabOk most (fieldP most L f).2 := by
  unfold fieldP
  split
  · exact h
  · split
    · exact h
    · exact h.add f
theorem TabOk.fields {most : Int} {L : List Fd} (h : TabOk most L) (l : List Fd) : TabOk most (fieldsP most L l).2 := by
  rw [← List.reverse_reverse l]
  generalize l.reverse = r
  induction r with
  | nil => exact h
  | cons f r ih => rw [List.reverse_cons, fieldsP_snoc]; exact ih.field f
/-- The limits that are to be told. -/
def limitsP (most told least : Int) : List UInt8 := (if least < most then (putR 32 5 least).1 else []) ++ (if least < most ∨ most ≠ told then (putR 32 5 most).1 else [])
theorem limitsP_len (most told least : Int) : (limitsP most told least).length ≤ 14 := by
  unfold limitsP
  rw [List.length_append]
  have := putR_len 32 5 least
  have := putR_len 32 5 most
  split <;> split <;> simp <;> omega
/-- Is a field too long? -/
def longF (f : Fd) : Bool := decide (16384 < f.n.size) || decide (16384 < f.v.size)
/-- A block, as it is written. -/
def blockP (most told least : Int) (L l : List Fd) : List UInt8 × List Fd := (limitsP most told least ++ (fieldsP most L l).1, (fieldsP most L l).2)
/-- What Peer makes of a number. -/
def peerN (n : Int) : Int := min (max n 0) 4096
theorem peerN_le (n : Int) : 0 ≤ peerN n ∧ peerN n ≤ 4096 := by unfold peerN; omega
end Go.Proofs.YtjeocmglcgnclaaDoor

/- The encoder's calls, each once: number, text, limits, Peer, New, Table. Conditions: at most 2^29 bytes a text, 2^40 in all. -/
namespace Go.Proofs.YtjeocmglcgnclaaDoor
open Go.RowKit
attribute [local go_sem] kd kdS if_min if_max if_minN if_maxN
attribute [local go_sem ↓] sliced_word
attribute [local go_sem] offA_zero

/-- A call that answers a row of bytes which was v ahead: its own block, or a new one. -/
def OutPost (B : Nat) (v : Value) (o : List UInt8) (w : World) (e : Ending) (w' : World) : Prop :=
  ∃ A' m' c', e = .returned (.slice A' m' c') ∧ w'.ownsRow B 5 1 (.slice A' m' c') m' (o.map bv) ∧ Turned v.ownBlock.toList w w' ∧
    (∀ k, (Value.slice A' m' c').ownBlock = some k → v.ownBlock = some k ∨ w.heap.size ≤ k)
theorem own_len {w : World} {B : Nat} {v : Value} {m : Nat} {o : List UInt8} (h : w.ownsRow B 5 1 v m (o.map bv)) : o.length = m := by
  have := h.1
  simpa using this

/-- Behind an append onto a row of one's own. -/
theorem out_app {w w1 w2 : World} {B : Nat} {v : Value} {m k : Nat} {A' : Option Addr} {c' : Nat} {o p : List UInt8} (h : Turned v.ownBlock.toList w w1) (hs : w.heap.size ≤ w1.heap.size)
    (ho : w2.ownsRow B 5 1 (.slice A' (m + k) c') (m + k) (o.map bv ++ p.map bv)) (hg : w1.grownBy w2 v.ownBlock)
    (hat : (Value.slice A' (m + k) c').ownBlock = v.ownBlock ∨ (Value.slice A' (m + k) c').ownBlock = some w1.heap.size) : OutPost B v (o ++ p) w (.returned (.slice A' (m + k) c')) w2 := by
  refine ⟨A', m + k, c', rfl, by rw [List.map_append]; exact ho, h.grown hg (fun k hk => .inl (by simp [hk])), fun q hq => ?_⟩
  rcases hat with e | e
  · exact .inl (e.symm.trans hq)
  · rw [e] at hq
    injection hq with hq
    exact .inr (by omega)

theorem OutPost.from_ {w w2 w3 : World} {B : Nat} {v : Value} {o : List UInt8} {e : Ending} (hb : Below w.heap.size w w2) (h : OutPost B v o w2 e w3) : OutPost B v o w e w3 := by
  obtain ⟨A', m', c', he, ho, ht, hk⟩ := h
  refine ⟨A', m', c', he, ho, (Turned.of_below hb).trans ht (fun b hb => .inl hb), fun k hq => ?_⟩
  rcases hk k hq with h | h
  · exact .inl h
  · have := hb.size
    exact .inr (by omega)
theorem OutPost.trans {w w1 w2 : World} {B : Nat} {v : Value} {A1 : Option Addr} {m1 c1 : Nat} {o1 o2 : List UInt8} {e : Ending} (h : OutPost B v o1 w (.returned (.slice A1 m1 c1)) w1) (h2 : OutPost B (.slice A1 m1 c1) o2 w1 e w2) : OutPost B v o2 w e w2 := by
  obtain ⟨A', m', c', he, ho, ht, hk⟩ := h
  injection he with he
  injection he with e1 e2 e3
  subst e1 e2 e3
  obtain ⟨A2, m2, c2, he2, ho2, ht2, hk2⟩ := h2
  refine ⟨A2, m2, c2, he2, ho2, ht.trans ht2 (fun b hb => ?_), fun k hq => ?_⟩
  · have := hk b (by simpa using hb)
    simpa using this
  · rcases hk2 k hq with h | h
    · exact hk k h
    · have := ht.size
      exact .inr (by omega)

set_option maxHeartbeats 400000 in
set_option maxRecDepth 100000 in
theorem number_any (first bits n : Int) (B : Nat) (A : Option Addr) (m c : Nat) (o : List UInt8) (w : World) (h : w.ownsRow B 5 1 (.slice A m c) m (o.map bv)) (h0 : 0 ≤ first) (h1 : first < 256) (hm : m ≤ 1099511627776) (hB : B ≤ w.heap.size) :
    Calls Tryd.prog 42 #[.slice A m c, .int .u8 first, .int .i64 bits, .int .i64 n] w (OutPost B (.slice A m c) (o ++ (putR first bits n).1) w) := by
  obtain ⟨i0, hi0, hz0, hz1, hz2⟩ := info_parts u8_info
  have hi := hid hi0
  have hz := hid hz0
  have hsz := hid hz1
  have hby := hid hz2
  have H := hid h
  have hpl := putR_len first bits n
  clear hi0 hz0 hz1 hz2 h
  go_enter Tryd.func42, Tryd.ntmps42
  go_wp2_with fail
  refine (put_all first bits n w h0 h1).mono ?_
  rintro e w1 ⟨A1, k1, c1, rfl, ho, hb⟩
  have hk := own_len ho
  have HO := hid ho
  have HB := hid hb
  have hs := hb.size
  rw [hk] at hpl
  have HOP := hid (fun (A' : Option Addr) (c' : Nat) (w2 : World) => @out_app w w1 w2 B (.slice A m c) m k1 A' c' o (putR first bits n).1 (Turned.of_below HB.out) hs)
  clear ho hb hk
  go_wp2_with (at_builtin; go_must (refine wpList_app _ rfl _ _ _ rfl B 5 i0 _ 1 1 Tryd.underlying29 hi.out hz.out hsz.out hby.out rfl (by omega) _ m _ rfl (own_below H.out HB.out) A1 k1 c1 ((putR first bits n).1.map bv) rfl (Rd.of_own HO.out) (bv_one _) (by omega) (by omega) (by omega) ?_; intro A' c' w2 hown hg hat; have HP := hid (HOP.out A' c' w2 hown hg hat); clear hown hg hat))
  go_ret
  exact HP.out

theorem bytesRow_take (s : ByteArray) (cap : Nat) : (bytesRow s cap).toList.take s.size = s.data.toList.map bv := by
  unfold bytesRow bv
  simp only [Array.toList_append, Array.toList_map]
  rw [List.take_left' (by rw [List.length_map]; exact ba_len s)]
/-- What '[]byte(s)' lays reads as s. -/
theorem bytes_new (w : World) (s : ByteArray) (cap : Nat) (fr : Nat × Nat) : Bs (w.alloc (.cells (bytesRow s cap) 5 fr)) (some ⟨w.heap.size, 0, none⟩) s.size s.data.toList := by
  refine ⟨by rw [List.length_map, Nat.mul_one]; exact ba_len s, fun _ => ⟨_, 0, rfl, fun j u hu => ?_⟩⟩
  have h1 : (w.alloc (.cells (bytesRow s cap) 5 fr)).heap[w.heap.size]? = some (.cells (bytesRow s cap) 5 fr) := heap_alloc_new w _
  simp only [World.cell?, h1, Nat.zero_add]
  rw [← bytesRow_take s cap, List.getElem?_take] at hu
  split at hu
  · simpa using hu
  · cases hu

set_option maxHeartbeats 1000000 in
set_option maxRecDepth 100000 in
theorem text_any (s : ByteArray) (B : Nat) (A : Option Addr) (m c : Nat) (o : List UInt8) (w : World) (h : w.ownsRow B 5 1 (.slice A m c) m (o.map bv)) (hm : m ≤ 1099511627776) (hs : s.size ≤ 536870912) (hB : B ≤ w.heap.size) :
    Calls Tryd.prog 45 #[.slice A m c, .string s] w (OutPost B (.slice A m c) (o ++ textP s.data.toList) w) := by
  obtain ⟨i0, hi0, hz0, hz1, hz2⟩ := info_parts u8_info
  have hi := hid hi0
  have hz := hid hz0
  have hsz := hid hz1
  have hby := hid hz2
  have H := hid h
  clear hi0 hz0 hz1 hz2
  have kc := fun (w : World) => run_bytes_of_string (P := Tryd.prog) w 9 29 5 s Tryd.underlying9 Tryd.underlying29 Tryd.underlying5
  have hvl := own_row_lt h
  have HVL := hid hvl
  clear hvl h
  go_enter Tryd.func45, Tryd.ntmps45
  go_wp2_with fail
  clear kc
  generalize grownCap w s.size 0 5 = cap
  have hs0 : Bs (w.alloc (.cells (bytesRow s cap) 5 ((bytesRow s cap).size, (bytesRow s cap).size + 1))).drew (some ⟨w.heap.size, 0, none⟩) s.size s.data.toList := bytes_new w s cap _
  have hb0 : Below w.heap.size w (w.alloc (.cells (bytesRow s cap) 5 ((bytesRow s cap).size, (bytesRow s cap).size + 1))).drew := ((Below.refl _ _).alloc (Nat.le_refl _) _).drew
  generalize (w.alloc (.cells (bytesRow s cap) 5 ((bytesRow s cap).size, (bytesRow s cap).size + 1))).drew = wa at hs0 hb0 ⊢
  have HS := hid hs0
  have HB := hid hb0
  have hsz0 := hb0.size
  have hbl := hbits_le s.data.toList
  rw [ba_len] at hbl
  obtain ⟨q, hq⟩ : ∃ q, hbits s.data.toList = q := ⟨_, rfl⟩
  rw [hq] at hbl
  have HQ := hid hq
  clear hs0 hb0 hq
  refine (bits_of_calls _ s.size cap _ q wa HS.out (by omega) HQ.out).mono ?_
  rintro e w1 ⟨rfl, rfl⟩
  by_cases hlt : ((q : Int) + 7) / 8 < (s.size : Int)
  · have HT : Hid (textP s.data.toList = (putR 128 7 ((encP s.data.toList).length : Int)).1 ++ encP s.data.toList) := hid (by
      unfold textP
      rw [encP_len, HQ.out, ba_len, if_pos (by omega)])
    go_upto_region 4 with (go_at_call 62; go_must (refine (enc_calls _ s.size cap _ wa HS.out (by omega)).mono ?_; rintro e w2 ⟨A2, c2, o2, p, rfl, ho, hbo, hp, hol, hb2⟩; have HO2 := hid ho; have HE2 := hid (enc_is hbo hp); have HB2 := hid (HB.out.trans (hb2.mono HB.out.size)); have hs2 := hb2.size; clear ho hbo hol hb2))
    obtain rfl := HE2.out
    have hle : (encP s.data.toList).length ≤ 536870912 := by rw [encP_len, HQ.out]; omega
    clear HE2
    generalize encP s.data.toList = q2 at HO2 HT hle ⊢
    have HN := hid (fun (w : World) (B : Nat) (h) (hB) => number_any 128 7 (q2.length : Int) B A m c o w h (by omega) (by omega) hm hB)
    have HOF := hid (show Off A2 (Value.slice A m c).ownBlock.toList from fun ad had hm => by
      have h1 := HVL.out ad.block (by simpa using hm)
      have h2 := (own_row_lt HO2.out ad.block (by rw [had]; rfl)).1
      omega)
    go_wp2_with (first
      | (go_at_call 42; go_must (refine (HN.out w2 B (own_below H.out HB2.out) (by omega)).mono ?_; intro e w3 hp3; obtain ⟨A3, m3, c3, rfl, ho3, ht3, hk3⟩ := hp3; have HO3 := hid ho3; have HP3 := hid (OutPost.from_ HB2.out ⟨A3, m3, c3, rfl, ho3, ht3, hk3⟩); have HS3 := hid (Bs.turned (Bs.of_own HO2.out) ht3 HOF.out); have HL3 := hid (own_len ho3); have hs3 := ht3.size; clear ho3 ht3 hk3))
      | (at_builtin; go_must (refine wpList_app _ rfl _ _ _ rfl B 5 i0 _ 1 1 Tryd.underlying29 hi.out hz.out hsz.out hby.out rfl (by omega) _ m3 _ rfl HO3.out A2 _ c2 (q2.map bv) rfl HS3.out (bv_one _) (by have := HL3.out; have := own_len H.out; have := putR_len 128 7 (q2.length : Int); simp only [List.length_append] at *; omega) (by have := HL3.out; have := own_len H.out; have := putR_len 128 7 (q2.length : Int); simp only [List.length_append] at *; omega) (by omega) ?_; intro A' c' w4 hown hg hat; have HP := hid (HP3.out.trans (out_app (Turned.refl _ _) (Nat.le_refl _) hown hg hat)); clear hown hg hat)))
    go_ret
    rw [HT.out, ← List.append_assoc]
    exact HP.out
  · have HT : Hid (textP s.data.toList = (putR 0 7 (s.size : Int)).1 ++ s.data.toList) := hid (by
      unfold textP
      rw [HQ.out, ba_len, if_neg (by omega)])
    have hle := hs
    have HN := hid (fun (w : World) (B : Nat) (h) (hB) => number_any 0 7 (s.size : Int) B A m c o w h (by omega) (by omega) hm hB)
    have HOF := hid (show Off (some ⟨w.heap.size, 0, none⟩) (Value.slice A m c).ownBlock.toList from fun ad had hm => by
      have h1 := HVL.out ad.block (by simpa using hm)
      injection had with had
      subst had
      simp only at h1
      omega)
    go_wp2_with (first
      | (go_at_call 42; go_must (refine (HN.out wa B (own_below H.out HB.out) (by omega)).mono ?_; intro e w3 hp3; obtain ⟨A3, m3, c3, rfl, ho3, ht3, hk3⟩ := hp3; have HO3 := hid ho3; have HP3 := hid (OutPost.from_ HB.out ⟨A3, m3, c3, rfl, ho3, ht3, hk3⟩); have HS3 := hid (Bs.turned HS.out ht3 HOF.out); have HL3 := hid (own_len ho3); have hs3 := ht3.size; clear ho3 ht3 hk3))
      | (at_builtin; go_must (refine wpList_app _ rfl _ _ _ rfl B 5 i0 _ 1 1 Tryd.underlying29 hi.out hz.out hsz.out hby.out rfl (by omega) _ m3 _ rfl HO3.out _ _ cap (s.data.toList.map bv) rfl HS3.out (bv_one _) (by have := HL3.out; have := own_len H.out; have := putR_len 0 7 (s.size : Int); simp only [List.length_append] at *; omega) (by have := HL3.out; have := own_len H.out; have := putR_len 0 7 (s.size : Int); simp only [List.length_append] at *; omega) (by omega) ?_; intro A' c' w4 hown hg hat; have HP := hid (HP3.out.trans (out_app (Turned.refl _ _) (Nat.le_refl _) hown hg hat)); clear hown hg hat)))
    go_ret
    rw [HT.out, ← List.append_assoc]
    exact HP.out

/-- An encoder in block ge, its table in gt; the table's blocks are F. -/
structure EncAt (w : World) (B : Nat) (F : List Nat) (ge gt : Nat) (most told least : Int) (L : List Fd) : Prop where
  blk : Blk w ge 61 #[.pointer (some ⟨gt, 0, none⟩), .int .i64 told, .int .i64 least]
  tb : Tb w B F gt most L
  base : B ≤ ge
  ne : ge ∉ F
  ok : TabOk most L
section
variable {w w' : World} {B : Nat} {F F' : List Nat} {ge gt : Nat} {most told least : Int} {L : List Fd}
theorem EncAt.below (h : EncAt w B F ge gt most told least L) (hb : Below w.heap.size w w') : EncAt w' B F ge gt most told least L :=
  ⟨h.blk.below hb h.blk.lt, h.tb.below hb, h.base, h.ne, h.ok⟩
theorem EncAt.turned {G : List Nat} (h : EncAt w B F ge gt most told least L) (ht : Turned G w w') (hd : ∀ k ∈ ge :: F, k ∉ G) : EncAt w' B F ge gt most told least L :=
  ⟨h.blk.turned ht (hd ge (by simp)), h.tb.turned ht (fun k hk => hd k (by simp [hk])), h.base, h.ne, h.ok⟩
theorem EncAt.ge_ (h : EncAt w B F ge gt most told least L) : ∀ k ∈ ge :: F, B ≤ k ∧ k < w.heap.size := by
  intro k hk
  rcases List.mem_cons.1 hk with rfl | hk
  · exact ⟨h.base, h.blk.lt⟩
  · exact h.tb.ge k hk
end

set_option maxHeartbeats 400000 in
set_option maxRecDepth 100000 in
theorem encTable_any (B : Nat) (F : List Nat) (ge gt : Nat) (most told least : Int) (L : List Fd) (w : World) (h : EncAt w B F ge gt most told least L) :
    Calls Tryd.prog 10 #[.pointer (some ⟨ge, 0, none⟩)] w fun e w' => e = .returned (.pointer (some ⟨gt, 0, none⟩)) ∧ w = w' := by
  have h0 := h.blk.cell 0
  simp at h0
  clear h
  go_enter Tryd.func10, Tryd.ntmps10
  go_wp2_with fail
  go_ret
  exact ⟨rfl, rfl⟩

/-- What New answers. -/
def EncNew (w : World) (e : Ending) (w' : World) : Prop :=
  ∃ F ge gt, e = .returned (.pointer (some ⟨ge, 0, none⟩)) ∧ EncAt w' w.heap.size F ge gt 4096 4096 4096 [] ∧ Below w.heap.size w w'
set_option maxHeartbeats 400000 in
set_option maxRecDepth 100000 in
theorem encNew_any (w : World) : Calls Tryd.prog 9 #[] w (EncNew w) := by
  go_enter Tryd.func9, Tryd.ntmps9
  go_wp2_with fail
  refine (new_tb 4096 w).mono ?_
  intro e w1 hp
  unfold NewTb at hp
  rw [if_neg (by omega)] at hp
  obtain ⟨F, rfl, h1, hb1⟩ := hp
  have H1 := hid h1
  have HB1 := hid hb1
  clear h1 hb1
  go_wp2_with fail
  go_ret
  have hb2 : Below w1.heap.size w1 (w1.alloc (.cells #[.pointer (some ⟨w.heap.size, 0, none⟩), .int .i64 4096, .int .i64 4096] 61)) := (Below.refl _ _).alloc (Nat.le_refl _) _
  exact ⟨F, w1.heap.size, w.heap.size, rfl, ⟨Blk.new w1 _ _, H1.out.below hb2, HB1.out.size, fun hm => by have := (H1.out.ge _ hm).2; omega, by omega, by omega, by simp [total], fun f hf => by cases hf⟩, HB1.out.trans (hb2.mono HB1.out.size)⟩

/-- A call that leaves the encoder with other limits and fields. -/
def EncPost (v : Value) (B : Nat) (F : List Nat) (ge gt : Nat) (most told least : Int) (L : List Fd) (w : World) (e : Ending) (w' : World) : Prop :=
  ∃ F', e = .returned v ∧ EncAt w' B F' ge gt most told least L ∧ Turned (ge :: F) w w' ∧ ∀ k ∈ F', k ∈ F ∨ w.heap.size ≤ k
set_option maxHeartbeats 400000 in
set_option maxRecDepth 100000 in
theorem peer_any (n : Int) (B : Nat) (F : List Nat) (ge gt : Nat) (most told least : Int) (L : List Fd) (w : World) (h : EncAt w B F ge gt most told least L) (hB : B ≤ w.heap.size) :
    Calls Tryd.prog 13 #[.pointer (some ⟨ge, 0, none⟩), .int .i64 n] w (EncPost (.tuple #[]) B F ge gt (peerN n) told (min least (peerN n)) (shr (peerN n) L) w) := by
  have H := hid h
  have h0 := h.blk.cell 0
  have hlen := h.ok.len
  have htot := h.ok.2.2.1
  have hm1 := h.ok.2.1
  have hp := peerN_le n
  have HP : Hid (min (max n 0) 4096 = peerN n) := hid rfl
  simp at h0
  clear h
  go_enter Tryd.func13, Tryd.ntmps13
  go_wp2_with fail
  rw [HP.out]
  clear HP
  refine (limit_tb (peerN n) H.out.tb (by omega) (by omega) hB).mono ?_
  intro e w1 hq
  unfold LimTb at hq
  rw [if_neg (by omega)] at hq
  obtain ⟨F1, rfl, h1, ht1, hk1⟩ := hq
  have hblk := H.out.blk.turned ht1 H.out.ne
  have HK := hid hblk
  have H1 := hid h1
  have HT1 := hid ht1
  have HK1 := hid hk1
  have k2 := hblk.cell 2
  have kf2 := hblk.frozen 2
  simp at k2
  clear h0 h1 ht1 hk1 hblk
  go_wp2_with fail
  go_end0
  have hgl := H.out.blk.lt
  have hz := HK.out.set_ 2 (.int .i64 (min least (peerN n)))
  have ht2 : Turned [ge] w1 (w1.setCell ⟨ge, 2, none⟩ (.int .i64 (min least (peerN n)))) := (Turned.refl _ _).setCell (by simp) _
  have hne : ge ∉ F1 := fun hm => by
    rcases HK1.out ge hm with h | h
    · exact H.out.ne h
    · omega
  refine ⟨F1, rfl, ⟨by simpa using hz, H1.out.turned ht2 (fun k hk hm => hne (by have := List.mem_singleton.1 hm; subst this; exact hk)), H.out.base, hne, H.out.ok.lim hp.1 hp.2⟩, ?_, HK1.out⟩
  exact (HT1.out.mono (fun b hb => by simp [hb])).trans ht2 (fun b hb => .inl (by have := List.mem_singleton.1 hb; simp [this]))

/-- The encoder beside the row that it writes, in a call that began in w0 with the row v0 and the table's blocks F0. -/
structure PkS (w0 w : World) (Bo B : Nat) (v0 : Value) (F0 F : List Nat) (ge gt : Nat) (most told least : Int) (L : List Fd) (A : Option Addr) (m c : Nat) (o : List UInt8) : Prop where
  row : w.ownsRow Bo 5 1 (.slice A m c) m (o.map bv)
  enc : EncAt w B F ge gt most told least L
  tn : Turned (ge :: F0 ++ v0.ownBlock.toList) w0 w
  kf : ∀ k ∈ F, k ∈ F0 ∨ w0.heap.size ≤ k
  kr : ∀ k, (Value.slice A m c).ownBlock = some k → v0.ownBlock = some k ∨ w0.heap.size ≤ k
  dis : ∀ k ∈ ge :: F, (Value.slice A m c).ownBlock ≠ some k
section
variable {w0 w w' : World} {Bo B : Nat} {v0 : Value} {F0 F F' : List Nat} {ge gt : Nat} {most told least most' told' least' : Int} {L L' : List Fd} {A A' : Option Addr} {m c m' c' : Nat} {o o' : List UInt8}
theorem PkS.start (h : EncAt w B F ge gt most told least L) (ho : w.ownsRow Bo 5 1 (.slice A m c) m (o.map bv)) (hd : ∀ k ∈ ge :: F, (Value.slice A m c).ownBlock ≠ some k) : PkS w w Bo B (.slice A m c) F F ge gt most told least L A m c o :=
  ⟨ho, h, Turned.refl _ _, fun k hk => .inl hk, fun k hk => .inl hk, hd⟩
theorem PkS.below (h : PkS w0 w Bo B v0 F0 F ge gt most told least L A m c o) (hb : Below w.heap.size w w') : PkS w0 w' Bo B v0 F0 F ge gt most told least L A m c o :=
  ⟨own_below h.row hb, h.enc.below hb, h.tn.trans (Turned.of_below (F := []) hb) (fun b hb => by cases hb), h.kf, h.kr, h.dis⟩
theorem PkS.out (h : PkS w0 w Bo B v0 F0 F ge gt most told least L A m c o) (hp : OutPost Bo (.slice A m c) o' w (.returned (.slice A' m' c')) w') : PkS w0 w' Bo B v0 F0 F ge gt most told least L A' m' c' o' := by
  obtain ⟨A2, m2, c2, he, ho, ht, hk⟩ := hp
  injection he with he
  injection he with e1 e2 e3
  subst e1 e2 e3
  refine ⟨ho, h.enc.turned ht (fun k hk hm => h.dis k hk (by simpa using hm)), h.tn.trans ht (fun b hb => ?_), h.kf, fun k hq => ?_, fun k hk' he => ?_⟩
  · rcases h.kr b (by simpa using hb) with h1 | h1
    · exact .inl (by simp [h1])
    · exact .inr h1
  · rcases hk k hq with h1 | h1
    · exact h.kr k h1
    · have := h.tn.size
      exact .inr (by omega)
  · rcases hk k he with h1 | h1
    · exact h.dis k hk' h1
    · have := (h.enc.ge_ k hk').2
      omega
theorem PkS.turn (h : PkS w0 w Bo B v0 F0 F ge gt most told least L A m c o) (he : EncAt w' B F' ge gt most' told' least' L') (ht : Turned (ge :: F) w w') (hk : ∀ k ∈ F', k ∈ F ∨ w.heap.size ≤ k) : PkS w0 w' Bo B v0 F0 F' ge gt most' told' least' L' A m c o := by
  refine ⟨own_turned h.row ht (fun k hk hm => h.dis k hm hk), he, h.tn.trans ht (fun b hb => ?_), fun k hq => ?_, h.kr, fun k hk' he' => ?_⟩
  · rcases List.mem_cons.1 hb with rfl | hb
    · exact .inl (by simp)
    · rcases h.kf b hb with h1 | h1
      · exact .inl (by simp [h1])
      · exact .inr h1
  · rcases hk k hq with h1 | h1
    · exact h.kf k h1
    · have := h.tn.size
      exact .inr (by omega)
  · rcases List.mem_cons.1 hk' with rfl | hk'
    · exact h.dis _ (by simp) he'
    · rcases hk k hk' with h1 | h1
      · exact h.dis k (by simp [h1]) he'
      · have := (own_row_lt h.row k he').2
        omega
theorem PkS.len (h : PkS w0 w Bo B v0 F0 F ge gt most told least L A m c o) : o.length = m := own_len h.row
end
/-- A call that also answers a row of bytes. -/
def EncOut (o : List UInt8) (Bo B : Nat) (v : Value) (F : List Nat) (ge gt : Nat) (most told least : Int) (L : List Fd) (w : World) (e : Ending) (w' : World) : Prop :=
  ∃ A' m' c' F', e = .returned (.slice A' m' c') ∧ PkS w w' Bo B v F F' ge gt most told least L A' m' c' o

set_option maxHeartbeats 1000000 in
set_option maxRecDepth 100000 in
theorem limits_any (B Bo : Nat) (F : List Nat) (ge gt : Nat) (most told least : Int) (L : List Fd) (w : World) (h : EncAt w B F ge gt most told least L) (hB : Bo ≤ w.heap.size) :
    Calls Tryd.prog 29 #[.pointer (some ⟨ge, 0, none⟩), .slice none 0 0] w (EncOut (limitsP most told least) Bo B (.slice none 0 0) F ge gt most most 4096 L w) := by
  have H := hid h
  have HS := hid (PkS.start (Bo := Bo) (o := []) h (World.ownsRow_nil w Bo 5 1) (fun k _ h => by cases h))
  have c0 := h.blk.cell 0
  have c1 := h.blk.cell 1
  have c2 := h.blk.cell 2
  have f1 := h.blk.frozen 1
  have f2 := h.blk.frozen 2
  simp at c0 c1 c2
  clear h
  have HN := hid (fun (w' : World) (n : Int) (A : Option Addr) (m c : Nat) (o : List UInt8) (h : w'.ownsRow Bo 5 1 (.slice A m c) m (o.map bv)) (hm : m ≤ 1099511627776) (hB : Bo ≤ w'.heap.size) => number_any 32 5 n Bo A m c o w' h (by omega) (by omega) hm hB)
  have HEND : Hid (∀ (w1 : World) (A : Option Addr) (m c : Nat) (o : List UInt8), PkS w w1 Bo B (.slice none 0 0) F F ge gt most told least L A m c o → limitsP most told least = o →
      EncOut (limitsP most told least) Bo B (.slice none 0 0) F ge gt most most 4096 L w (.returned (.slice A m c)) ((w1.setCell ⟨ge, 1, none⟩ (.int .i64 most)).setCell ⟨ge, 2, none⟩ (.int .i64 4096))) := hid (fun w1 A m c o hp ho => by
    have hz := (hp.enc.blk.set_ 1 (.int .i64 most)).set_ 2 (.int .i64 4096)
    have ht : Turned (ge :: F) w1 ((w1.setCell ⟨ge, 1, none⟩ (.int .i64 most)).setCell ⟨ge, 2, none⟩ (.int .i64 4096)) := ((Turned.refl _ _).setCell (by simp) _).setCell (by simp) _
    have ht2 : Turned [ge] w1 ((w1.setCell ⟨ge, 1, none⟩ (.int .i64 most)).setCell ⟨ge, 2, none⟩ (.int .i64 4096)) := ((Turned.refl _ _).setCell (by simp) _).setCell (by simp) _
    rw [ho]
    refine ⟨A, m, c, F, rfl, hp.turn ⟨by simpa using hz, hp.enc.tb.turned ht2 (fun k hk hm => hp.enc.ne (by have := List.mem_singleton.1 hm; subst this; exact hk)), hp.enc.base, hp.enc.ne, hp.enc.ok⟩ ht (fun k hk => .inl hk)⟩)
  go_enter Tryd.func29, Tryd.ntmps29
  go_wp2_with fail
  refine (most_tb H.out.tb).mono ?_
  rintro e w1 ⟨rfl, rfl⟩
  by_cases hl : least < most
  · have HLP : Hid (limitsP most told least = [] ++ (putR 32 5 least).1 ++ (putR 32 5 most).1) := hid (by unfold limitsP; rw [if_pos hl, if_pos (.inl hl)]; rfl)
    go_wp2_with fail
    refine (HN.out w least none 0 0 [] HS.out.row (by omega) hB).mono ?_
    rintro e w2 ⟨A2, m2, k2, rfl, ho2, ht2, hk2⟩
    have hp2 := HS.out.out ⟨A2, m2, k2, rfl, ho2, ht2, hk2⟩
    have HP2 := hid hp2
    have d0 := hp2.enc.blk.cell 0
    have d1 := hp2.enc.blk.cell 1
    have d2 := hp2.enc.blk.cell 2
    have e1 := hp2.enc.blk.frozen 1
    have e2 := hp2.enc.blk.frozen 2
    have hs2 := ht2.size
    have hl2 : m2 ≤ 100 := by
      have := hp2.len
      have := putR_len 32 5 least
      simp only [List.length_append, List.length_nil] at *
      omega
    simp at d0 d1 d2
    clear ho2 ht2 hk2 hp2 c0 c1 c2 f1 f2
    go_wp2_with fail
    refine (HN.out w2 most A2 m2 k2 _ HP2.out.row (by omega) (by omega)).mono ?_
    rintro e w3 ⟨A3, m3, k3, rfl, ho3, ht3, hk3⟩
    have hp3 := HP2.out.out ⟨A3, m3, k3, rfl, ho3, ht3, hk3⟩
    have HP3 := hid hp3
    clear d0 d1 d2 e1 e2
    have d0 := hp3.enc.blk.cell 0
    have d1 := hp3.enc.blk.cell 1
    have d2 := hp3.enc.blk.cell 2
    have e1 := hp3.enc.blk.frozen 1
    have e2 := hp3.enc.blk.frozen 2
    simp at d0 d1 d2
    clear ho3 ht3 hk3 hp3
    go_wp2_with fail
    go_ret
    exact HEND.out _ _ _ _ _ HP3.out HLP.out
  · by_cases hne : most = told
    · have HLP : Hid (limitsP most told least = []) := hid (by unfold limitsP; rw [if_neg hl, if_neg (by omega)]; rfl)
      subst hne
      go_wp2_with fail
      go_ret
      exact HEND.out _ _ _ _ _ HS.out HLP.out
    · have HLP : Hid (limitsP most told least = [] ++ (putR 32 5 most).1) := hid (by unfold limitsP; rw [if_neg hl, if_pos (.inr hne)])
      have hne2 : (most != told) = true := by simpa using hne
      go_wp2_with fail
      refine (HN.out w most none 0 0 [] HS.out.row (by omega) hB).mono ?_
      rintro e w3 ⟨A3, m3, k3, rfl, ho3, ht3, hk3⟩
      have hp3 := HS.out.out ⟨A3, m3, k3, rfl, ho3, ht3, hk3⟩
      have HP3 := hid hp3
      clear c0 c1 c2 f1 f2
      have d0 := hp3.enc.blk.cell 0
      have d1 := hp3.enc.blk.cell 1
      have d2 := hp3.enc.blk.cell 2
      have e1 := hp3.enc.blk.frozen 1
      have e2 := hp3.enc.blk.frozen 2
      simp at d0 d1 d2
      clear ho3 ht3 hk3 hp3
      go_wp2_with fail
      go_ret
      exact HEND.out _ _ _ _ _ HP3.out HLP.out
end Go.Proofs.YtjeocmglcgnclaaDoor

/- The encoder's field, once. Conditions: at most 2^29 bytes a text, 2^39 in all. -/
namespace Go.Proofs.YtjeocmglcgnclaaDoor
open Go.RowKit
attribute [local go_sem] kd kdS

theorem sfind_any (a b : ByteArray) (w : World) : Calls Tryd.prog 43 #[.string a, .string b] w fun e w' => e = .returned (.tuple #[.int .i64 ((findP a.data.toList b.data.toList 61).1 : Nat), .int .i64 ((findP a.data.toList b.data.toList 61).2 : Nat)]) ∧ Below w.heap.size w w' := by
  obtain ⟨⟨a⟩⟩ := a
  obtain ⟨⟨b⟩⟩ := b
  exact find_any a b w
theorem findK_le (l : List Fd) (nm vl : ByteArray) : ∀ k, (findK l nm vl k).1 ≤ l.length ∧ (findK l nm vl k).2 ≤ l.length
  | 0 => ⟨Nat.zero_le _, Nat.zero_le _⟩
  | k + 1 => by
    have ih := findK_le l nm vl k
    rw [findK]
    split
    · exact ih
    · split
      · split
        · exact ⟨Nat.sub_le _ _, Nat.sub_le _ _⟩
        · exact ⟨ih.1, Nat.sub_le _ _⟩
      · exact ih
theorem ix_le {a b : Nat} (h : a ≤ 61) (k : b ≤ 4096) : ixB a b ≤ 4157 := by unfold ixB; split <;> omega
theorem ix_own {a b : Nat} (h : a = 0) (k : 0 < b) : ixB a b = b + 61 := by unfold ixB; rw [if_pos ⟨h, k⟩]
theorem ix_stat {a b : Nat} (h : ¬ (a = 0 ∧ 0 < b)) : ixB a b = a := by unfold ixB; rw [if_neg h]

/-- The same beside a field's box. -/
structure PkB (w0 w : World) (Bo B : Nat) (v0 : Value) (F0 F : List Nat) (ge gt : Nat) (most told least : Int) (L : List Fd) (A : Option Addr) (m c : Nat) (o : List UInt8) (b : Nat) (f : Fd) : Prop where
  st : PkS w0 w Bo B v0 F0 F ge gt most told least L A m c o
  box : BoxAt w b f
  nb : ∀ k, (Value.slice A m c).ownBlock = some k → k ≠ b
  nf : ∀ k ∈ ge :: F, k ≠ b
section
variable {w0 w w' : World} {Bo B : Nat} {v0 : Value} {F0 F F' : List Nat} {ge gt : Nat} {most told least most' told' least' : Int} {L L' : List Fd} {A A' : Option Addr} {m c m' c' : Nat} {o o' : List UInt8} {b : Nat} {f : Fd}
theorem PkB.below (h : PkB w0 w Bo B v0 F0 F ge gt most told least L A m c o b f) (hb : Below w.heap.size w w') : PkB w0 w' Bo B v0 F0 F ge gt most told least L A m c o b f :=
  ⟨h.st.below hb, h.box.below hb, h.nb, h.nf⟩
theorem PkB.out (h : PkB w0 w Bo B v0 F0 F ge gt most told least L A m c o b f) (hp : OutPost Bo (.slice A m c) o' w (.returned (.slice A' m' c')) w') : PkB w0 w' Bo B v0 F0 F ge gt most told least L A' m' c' o' b f := by
  refine ⟨h.st.out hp, ?_, ?_, h.nf⟩
  · obtain ⟨A2, m2, c2, he, ho, ht, hk⟩ := hp
    exact Blk.turned h.box ht (fun hm => h.nb b (by simpa using hm) rfl)
  · obtain ⟨A2, m2, c2, he, ho, ht, hk⟩ := hp
    injection he with he
    injection he with e1 e2 e3
    subst e1 e2 e3
    intro k hq
    rcases hk k hq with h1 | h1
    · exact h.nb k h1
    · have := Blk.lt h.box
      omega
theorem PkB.turn (h : PkB w0 w Bo B v0 F0 F ge gt most told least L A m c o b f) (he : EncAt w' B F' ge gt most' told' least' L') (ht : Turned (ge :: F) w w') (hk : ∀ k ∈ F', k ∈ F ∨ w.heap.size ≤ k) : PkB w0 w' Bo B v0 F0 F' ge gt most' told' least' L' A m c o b f := by
  refine ⟨h.st.turn he ht hk, Blk.turned h.box ht (fun hm => h.nf b hm rfl), h.nb, fun k hk' => ?_⟩
  rcases List.mem_cons.1 hk' with rfl | hk'
  · exact h.nf _ (by simp)
  · rcases hk k hk' with h1 | h1
    · exact h.nf k (by simp [h1])
    · have := Blk.lt h.box
      omega
end
theorem EncAt.tabbed {w w' : World} {B : Nat} {F F' : List Nat} {ge gt : Nat} {most told least : Int} {L L' : List Fd} (h : EncAt w B F ge gt most told least L) (h1 : Tb w' B F' gt most L') (ht : Turned F w w') (hk : ∀ k ∈ F', k ∈ F ∨ w.heap.size ≤ k) (ho : TabOk most L') : EncAt w' B F' ge gt most told least L' :=
  ⟨h.blk.turned ht h.ne, h1, h.base, fun hm => by
    rcases hk ge hm with h2 | h2
    · exact h.ne h2
    · have := h.blk.lt
      omega, ho⟩
theorem enc_out_of {o o' : List UInt8} {Bo B : Nat} {A0 : Option Addr} {m0 c0 : Nat} {F F' : List Nat} {ge gt : Nat} {most told least : Int} {L L' : List Fd} {w w' : World} {A : Option Addr} {m c : Nat} (h : PkS w w' Bo B (.slice A0 m0 c0) F F' ge gt most told least L A m c o) (ho : o = o') (hL : L = L') :
    EncOut o' Bo B (.slice A0 m0 c0) F ge gt most told least L' w (.returned (.slice A m c)) w' := by
  subst ho hL
  exact ⟨A, m, c, F', rfl, h⟩

set_option maxHeartbeats 1000000 in
set_option maxRecDepth 100000 in
theorem field_any (f : Fd) (B Bo : Nat) (F : List Nat) (ge gt : Nat) (most told least : Int) (L : List Fd) (A : Option Addr) (m c : Nat) (o : List UInt8) (w : World) (h : EncAt w B F ge gt most told least L)
    (ho : w.ownsRow Bo 5 1 (.slice A m c) m (o.map bv)) (hd : ∀ k ∈ ge :: F, (Value.slice A m c).ownBlock ≠ some k) (hm : m ≤ 549755813888) (hn : f.n.size ≤ 536870912) (hv : f.v.size ≤ 536870912) (hBo : Bo ≤ w.heap.size) (hB : B ≤ w.heap.size) :
    Calls Tryd.prog 30 #[.pointer (some ⟨ge, 0, none⟩), .slice A m c, f.val] w (EncOut (o ++ (fieldP most L f).1) Bo B (.slice A m c) F ge gt most told least (fieldP most L f).2 w) := by
  have HS := hid (PkS.start h ho hd)
  have hLl := h.ok.len
  have hfa := findP_le f.n.data.toList f.v.data.toList 61
  have hfb := findK_le L f.n f.v L.length
  obtain ⟨x, hx⟩ : ∃ x, (findP f.n.data.toList f.v.data.toList 61).1 = x := ⟨_, rfl⟩
  obtain ⟨y, hy⟩ : ∃ y, (findP f.n.data.toList f.v.data.toList 61).2 = y := ⟨_, rfl⟩
  obtain ⟨u, hu⟩ : ∃ u, (findK L f.n f.v L.length).1 = u := ⟨_, rfl⟩
  obtain ⟨v, hv2⟩ : ∃ v, (findK L f.n f.v L.length).2 = v := ⟨_, rfl⟩
  have HBI : Hid (bothI L f = ixB x u) := hid (by unfold bothI; rw [hx, hu])
  have HNI : Hid (nameI L f = ixB y v) := hid (by unfold nameI; rw [hy, hv2])
  have HX : Hid (∀ w, Calls Tryd.prog 43 #[.string f.n, .string f.v] w fun e w' => e = .returned (.tuple #[.int .i64 x, .int .i64 y]) ∧ Below w.heap.size w w') := hid (fun w => by rw [← hx, ← hy]; exact sfind_any f.n f.v w)
  have HK : Hid (∀ w, Tb w B F gt most L → Calls Tryd.prog 44 #[.pointer (some ⟨gt, 0, none⟩), .string f.n, .string f.v] w fun e w' => e = .returned (.tuple #[.int .i64 u, .int .i64 v]) ∧ Below w.heap.size w w') := hid (fun w h => by rw [← hu, ← hv2]; exact find_tb f.n f.v h (by omega))
  rw [hx, hy] at hfa
  rw [hu, hv2] at hfb
  clear hx hy hu hv2 h ho hd
  go_enter Tryd.func30, Tryd.ntmps30
  go_upto_region 1 with fail
  obtain ⟨wa, hwa⟩ : ∃ wa, w.alloc (.cells #[.string f.n, .string f.v, .bool f.x] 23) = wa := ⟨_, rfl⟩
  have hFa : Blk wa w.heap.size 23 #[.string f.n, .string f.v, .bool f.x] := by rw [← hwa]; exact Blk.new w _ _
  have hba : Below w.heap.size w wa := by rw [← hwa]; exact (Below.refl _ _).alloc (Nat.le_refl _) _
  rw [hwa]
  have HF := hid hFa
  have HSA := hid (HS.out.below hba)
  have HQ : Hid (∀ k ∈ ge :: F, k ≠ w.heap.size) := hid (fun k hk e => by have := (HS.out.enc.ge_ k hk).2; omega)
  have HQR : Hid (∀ k, (Value.slice A m c).ownBlock = some k → k ≠ w.heap.size) := hid (fun k hk e => by have := (own_row_lt HS.out.row k hk).2; omega)
  have hBa : Bo ≤ wa.heap.size ∧ B ≤ wa.heap.size := by have := hba.size; omega
  obtain ⟨c0, c1, c2⟩ := BoxAt.c HF.out
  clear hFa hba hwa
  go_wp2_with fail
  refine (HX.out wa).mono ?_
  rintro e w1 ⟨rfl, hb1⟩
  have HF1 := hid (HF.out.below hb1 HF.out.lt)
  have HS1 := hid (HSA.out.below hb1)
  have hs1 := hb1.size
  clear hb1 c0 c1 c2
  obtain ⟨c0, c1, c2⟩ := BoxAt.c HF1.out
  have e0 := HS1.out.enc.blk.cell 0
  simp at e0
  go_wp2_with fail
  go_cut [9, 10] (fun s t wx => s = .int .i64 u ∧ t = .int .i64 v ∧ Below w1.heap.size w1 wx)
  case first =>
    (refine wp_mix ?_ ?_ ?_; (focus kernel_rfl); (focus kernel_rfl); intro KK hKK; go_wp2_with (first
          | (go_at_call 44; go_must (with_reducible refine (HK.out _ (HS1.out.enc.tb.below (Below.refl w1.heap.size w1).drew)).mono ?_); rintro e w2 ⟨rfl, hb2⟩; have HB2 := hid ((Below.refl w1.heap.size w1).drew.trans hb2); clear hb2)
          | (with_reducible refine mix_nil ?_)
          | ((with_reducible refine mix_on ?_ ?_); (focus rfl); intro K hK; go_simp; (first | ((with_reducible refine hK _ _ ?_); clear hK K) | skip))
          | ((with_reducible refine mix_off ?_ ?_); (focus rfl); intro K hK; go_simp; (first | ((with_reducible refine hK _ _ ?_); clear hK K) | skip))
          | ((with_reducible refine mix_step ?_); intro K hK; go_simp; (first | ((with_reducible refine hK _ _ ?_); clear hK K) | skip))))
    go_meet
    exact ⟨rfl, rfl, HB2.out⟩
  case rest =>
  obtain ⟨rfl, rfl, hb2⟩ := hcut
  obtain ⟨w2, rfl⟩ : ∃ w2 : World, w2 = wc := ⟨_, rfl⟩
  have HF2 := hid (HF1.out.below hb2 HF1.out.lt)
  have HS2 := hid (HS1.out.below hb2)
  have hs2 := hb2.size
  clear hb2 c0 c1 c2 e0
  clear HS1 HF1 HX HK
  go_upto_region 3 with fail
  go_cut [36] (fun s wx => s = .bool (decide (x = 0 ∧ 0 < u)) ∧ w2 = wx)
  case first =>
    by_cases hx : x = 0
    · by_cases hu : 0 < u
      · go_wp2_with fail
        go_meet
        exact ⟨by rw [decide_eq_true ⟨hx, hu⟩], rfl⟩
      · go_wp2_with fail
        go_meet
        exact ⟨by rw [decide_eq_false (fun h => hu h.2)], rfl⟩
    · have hx1 : ((x : Int) == 0) = false := by simp; omega
      go_wp2_with fail
      go_meet
      exact ⟨by rw [decide_eq_false (fun h => hx h.1)], rfl⟩
  case rest =>
  obtain ⟨rfl, rfl⟩ := hcut
  go_upto_if 36 with fail
  go_cut [7] (fun s wx => s = .int .i64 ((ixB x u : Nat) : Int) ∧ w2 = wx)
  case first =>
    by_cases hxu : x = 0 ∧ 0 < u
    · have hd := decide_eq_true hxu
      go_wp2_with fail
      go_meet
      exact ⟨by rw [ix_own hxu.1 hxu.2]; rfl, rfl⟩
    · have hd := decide_eq_false hxu
      go_wp2_with fail
      go_meet
      exact ⟨by rw [ix_stat hxu], rfl⟩
  case rest =>
  obtain ⟨rfl, rfl⟩ := hcut
  go_upto_region 5 with fail
  go_cut [44] (fun s wx => s = .bool (decide (y = 0 ∧ 0 < v)) ∧ w2 = wx)
  case first =>
    by_cases hx : y = 0
    · by_cases hu : 0 < v
      · go_wp2_with fail
        go_meet
        exact ⟨by rw [decide_eq_true ⟨hx, hu⟩], rfl⟩
      · go_wp2_with fail
        go_meet
        exact ⟨by rw [decide_eq_false (fun h => hu h.2)], rfl⟩
    · have hx1 : ((y : Int) == 0) = false := by simp; omega
      go_wp2_with fail
      go_meet
      exact ⟨by rw [decide_eq_false (fun h => hx h.1)], rfl⟩
  case rest =>
  obtain ⟨rfl, rfl⟩ := hcut
  go_upto_if 44 with fail
  go_cut [8] (fun s wx => s = .int .i64 ((ixB y v : Nat) : Int) ∧ w2 = wx)
  case first =>
    by_cases hxu : y = 0 ∧ 0 < v
    · have hd := decide_eq_true hxu
      go_wp2_with fail
      go_meet
      exact ⟨by rw [ix_own hxu.1 hxu.2]; rfl, rfl⟩
    · have hd := decide_eq_false hxu
      go_wp2_with fail
      go_meet
      exact ⟨by rw [ix_stat hxu], rfl⟩
  case rest =>
  obtain ⟨rfl, rfl⟩ := hcut
  rw [← HBI.out, ← HNI.out]
  obtain ⟨bo, hbo⟩ : ∃ bo, bothI L f = bo := ⟨_, rfl⟩
  obtain ⟨na, hna⟩ : ∃ na, nameI L f = na := ⟨_, rfl⟩
  have hb4 : bo ≤ 4157 := by rw [← hbo, HBI.out]; exact ix_le hfa.1 (by omega)
  have hn4 : na ≤ 4157 := by rw [← hna, HNI.out]; exact ix_le hfa.2 (by omega)
  rw [hbo, hna]
  have HBO := hid hbo
  have HNA := hid hna
  clear hbo hna HBI HNI hfa hfb
  have HBX := hid (show PkB w w2 Bo B (.slice A m c) F F ge gt most told least L A m c o w.heap.size f from ⟨HS2.out, HF2.out, HQR.out, HQ.out⟩)
  obtain ⟨c0, c1, c2⟩ := BoxAt.c HF2.out
  clear HS HF HSA HF2 HS2 HQ HQR
  have HW := hid (And.intro hBo hB)
  clear hBo hB
  generalize w.heap.size = bx at HBX c0 c1 c2 ⊢
  rcases hx : f.x with _ | _
  · rw [hx] at c2
    have HX := hid (show ¬ f.x = true by rw [hx]; simp)
    by_cases hb : 0 < bo
    · have HBZ := hid (show 0 < bothI L f by rw [HBO.out]; exact hb)
      go_wp2_with fail
      refine (number_any 128 7 (bo : Int) Bo _ _ _ o _ HBX.out.st.row (by omega) (by omega) (by omega) (Nat.le_trans HW.out.1 HBX.out.st.tn.size)).mono ?_
      rintro e w3 ⟨A3, m3, k3, rfl, ho, ht, hk⟩
      have HB3 := hid (HBX.out.out ⟨A3, m3, k3, rfl, ho, ht, hk⟩)
      have hm3 : m3 ≤ m + 7 := by
        have h1 := HB3.out.st.len
        have h2 := HBX.out.st.len
        have h3 := putR_len 128 7 (bo : Int)
        rw [List.length_append] at h1
        omega
      clear ho ht hk c0 c1 c2
      obtain ⟨c0, c1, c2⟩ := BoxAt.c HB3.out.box
      go_wp2_with fail
      go_ret
      refine enc_out_of HB3.out.st (by unfold fieldP; rw [if_neg HX.out, if_pos HBZ.out, HBO.out]) (by unfold fieldP; rw [if_neg HX.out, if_pos HBZ.out])
    · have HBZ := hid (show ¬ 0 < bothI L f by rw [HBO.out]; exact hb)
      have HADD := hid (show ∀ (w' : World) (F' : List Nat), Tb w' B F' gt most L → TabOk most L → B ≤ w'.heap.size → Calls Tryd.prog 46 #[.pointer (some ⟨gt, 0, none⟩), .agg #[.string f.n, .string f.v, .bool false]] w' (TbPost (.tuple #[]) B F' gt most (addL most L f) w') from fun w' F' h1 h2 h3 => by
        have h4 := add_tb f h1 (by have := h2.2.1; have := h2.2.2.1; omega) (by unfold Fd.size; omega) (by have := h2.len; omega) h3 (by have := h2.1; omega) (by have := h2.2.1; omega)
        unfold Fd.val at h4
        rw [hx] at h4
        exact h4)
      by_cases hz : na = 0
      · subst hz
        go_wp2_with fail
        refine (number_any 64 6 (0 : Int) Bo _ _ _ o _ HBX.out.st.row (by omega) (by omega) (by omega) (Nat.le_trans HW.out.1 HBX.out.st.tn.size)).mono ?_
        rintro e w3 ⟨A3, m3, k3, rfl, ho, ht, hk⟩
        have HB3 := hid (HBX.out.out ⟨A3, m3, k3, rfl, ho, ht, hk⟩)
        have hm3 : m3 ≤ m + 7 := by
          have h1 := HB3.out.st.len
          have h2 := HBX.out.st.len
          have h3 := putR_len 64 6 (0 : Int)
          rw [List.length_append] at h1
          omega
        clear ho ht hk c0 c1 c2
        obtain ⟨c0, c1, c2⟩ := BoxAt.c HB3.out.box
        go_wp2_with fail
        refine (text_any f.n Bo _ _ _ (o ++ (putR 64 6 (0 : Int)).1) _ HB3.out.st.row (by omega) (by omega) (Nat.le_trans HW.out.1 HB3.out.st.tn.size)).mono ?_
        rintro e w4 ⟨A4, m4, k4, rfl, ho, ht, hk⟩
        have HB4 := hid (HB3.out.out ⟨A4, m4, k4, rfl, ho, ht, hk⟩)
        have hm4 : m4 ≤ m3 + 536870919 := by
          have h1 := HB4.out.st.len
          have h2 := HB3.out.st.len
          have h3 := textP_len f.n.data.toList
          rw [ba_len] at h3
          rw [List.length_append] at h1
          omega
        clear ho ht hk c0 c1 c2
        obtain ⟨c0, c1, c2⟩ := BoxAt.c HB4.out.box
        have e0 := HB4.out.st.enc.blk.cell 0
        simp at e0
        have HTB := hid (HB4.out.st.enc.tb)
        have hBw := Nat.le_trans HW.out.2 HB4.out.st.tn.size
        have htl := HB4.out.st.enc.ok.2.2.1
        have hmo := HB4.out.st.enc.ok
        have HMO := hid hmo
        have hmo0 := hmo.1
        have hmo1 := hmo.2.1
        clear hmo
        go_wp2_with fail
        (refine wp_mix ?_ ?_ ?_; (focus kernel_rfl); (focus kernel_rfl); intro KK hKK; go_wp2_with (first
              | (go_at_call 46; go_must (with_reducible refine (HADD.out _ _ (HTB.out.below (Below.refl _ _).drew) HMO.out (by simp; omega)).mono ?_); rintro e w5 ⟨F5, rfl, h5, ht5, hk5⟩; have HD := hid (HB4.out.below (Below.refl _ _).drew); have HB5 := hid (HD.out.turn (HD.out.st.enc.tabbed h5 ht5 hk5 (HMO.out.add f)) (ht5.mono (fun b hb => by simp [hb])) hk5); clear h5 ht5 hk5; obtain ⟨z0, z1, z2⟩ := BoxAt.c HB5.out.box)
              | (with_reducible refine mix_nil ?_)
              | ((with_reducible refine mix_on ?_ ?_); (focus rfl); intro K hK; go_simp; (first | ((with_reducible refine hK _ _ ?_); clear hK K) | skip))
              | ((with_reducible refine mix_off ?_ ?_); (focus rfl); intro K hK; go_simp; (first | ((with_reducible refine hK _ _ ?_); clear hK K) | skip))
              | ((with_reducible refine mix_step ?_); intro K hK; go_simp; (first | ((with_reducible refine hK _ _ ?_); clear hK K) | skip))))
        clear c0 c1 c2 e0
        have c0 := z0
        have c1 := z1
        have c2 := z2
        clear z0 z1 z2
        go_wp2_with fail
        refine (text_any f.v Bo _ _ _ (o ++ (putR 64 6 (0 : Int)).1 ++ textP f.n.data.toList) _ HB5.out.st.row (by omega) (by omega) (Nat.le_trans HW.out.1 HB5.out.st.tn.size)).mono ?_
        rintro e w6 ⟨A6, m6, k6, rfl, ho, ht, hk⟩
        have HB6 := hid (HB5.out.out ⟨A6, m6, k6, rfl, ho, ht, hk⟩)
        have hm6 : m6 ≤ m4 + 536870919 := by
          have h1 := HB6.out.st.len
          have h2 := HB5.out.st.len
          have h3 := textP_len f.v.data.toList
          rw [ba_len] at h3
          rw [List.length_append] at h1
          omega
        clear ho ht hk c0 c1 c2
        obtain ⟨c0, c1, c2⟩ := BoxAt.c HB6.out.box
        go_wp2_with fail
        go_ret
        refine enc_out_of HB6.out.st (by unfold fieldP; rw [if_neg HX.out, if_neg HBZ.out]; unfold litP; rw [HNA.out, if_pos rfl]; simp [List.append_assoc]) (by unfold fieldP; rw [if_neg HX.out, if_neg HBZ.out])
      · have hz1 : ((na : Int) == 0) = false := by simp; omega
        go_wp2_with fail
        refine (number_any 64 6 (na : Int) Bo _ _ _ o _ HBX.out.st.row (by omega) (by omega) (by omega) (Nat.le_trans HW.out.1 HBX.out.st.tn.size)).mono ?_
        rintro e w3 ⟨A3, m3, k3, rfl, ho, ht, hk⟩
        have HB3 := hid (HBX.out.out ⟨A3, m3, k3, rfl, ho, ht, hk⟩)
        have hm3 : m3 ≤ m + 7 := by
          have h1 := HB3.out.st.len
          have h2 := HBX.out.st.len
          have h3 := putR_len 64 6 (na : Int)
          rw [List.length_append] at h1
          omega
        clear ho ht hk c0 c1 c2
        obtain ⟨c0, c1, c2⟩ := BoxAt.c HB3.out.box
        have e0 := HB3.out.st.enc.blk.cell 0
        simp at e0
        have HTB := hid (HB3.out.st.enc.tb)
        have hBw := Nat.le_trans HW.out.2 HB3.out.st.tn.size
        have htl := HB3.out.st.enc.ok.2.2.1
        have hmo := HB3.out.st.enc.ok
        have HMO := hid hmo
        have hmo0 := hmo.1
        have hmo1 := hmo.2.1
        clear hmo
        go_wp2_with fail
        (refine wp_mix ?_ ?_ ?_; (focus kernel_rfl); (focus kernel_rfl); intro KK hKK; go_wp2_with (first
              | (go_at_call 46; go_must (with_reducible refine (HADD.out _ _ (HTB.out.below (Below.refl _ _).drew) HMO.out (by simp; omega)).mono ?_); rintro e w5 ⟨F5, rfl, h5, ht5, hk5⟩; have HD := hid (HB3.out.below (Below.refl _ _).drew); have HB5 := hid (HD.out.turn (HD.out.st.enc.tabbed h5 ht5 hk5 (HMO.out.add f)) (ht5.mono (fun b hb => by simp [hb])) hk5); clear h5 ht5 hk5; obtain ⟨z0, z1, z2⟩ := BoxAt.c HB5.out.box)
              | (with_reducible refine mix_nil ?_)
              | ((with_reducible refine mix_on ?_ ?_); (focus rfl); intro K hK; go_simp; (first | ((with_reducible refine hK _ _ ?_); clear hK K) | skip))
              | ((with_reducible refine mix_off ?_ ?_); (focus rfl); intro K hK; go_simp; (first | ((with_reducible refine hK _ _ ?_); clear hK K) | skip))
              | ((with_reducible refine mix_step ?_); intro K hK; go_simp; (first | ((with_reducible refine hK _ _ ?_); clear hK K) | skip))))
        clear c0 c1 c2 e0
        have c0 := z0
        have c1 := z1
        have c2 := z2
        clear z0 z1 z2
        go_wp2_with fail
        refine (text_any f.v Bo _ _ _ (o ++ (putR 64 6 (na : Int)).1) _ HB5.out.st.row (by omega) (by omega) (Nat.le_trans HW.out.1 HB5.out.st.tn.size)).mono ?_
        rintro e w6 ⟨A6, m6, k6, rfl, ho, ht, hk⟩
        have HB6 := hid (HB5.out.out ⟨A6, m6, k6, rfl, ho, ht, hk⟩)
        have hm6 : m6 ≤ m3 + 536870919 := by
          have h1 := HB6.out.st.len
          have h2 := HB5.out.st.len
          have h3 := textP_len f.v.data.toList
          rw [ba_len] at h3
          rw [List.length_append] at h1
          omega
        clear ho ht hk c0 c1 c2
        obtain ⟨c0, c1, c2⟩ := BoxAt.c HB6.out.box
        go_wp2_with fail
        go_ret
        refine enc_out_of HB6.out.st (by unfold fieldP; rw [if_neg HX.out, if_neg HBZ.out]; unfold litP; rw [HNA.out, if_neg hz]; simp only [List.append_assoc, List.append_nil]) (by unfold fieldP; rw [if_neg HX.out, if_neg HBZ.out])
  · rw [hx] at c2
    have HX := hid (show f.x = true from hx)
    by_cases hz : na = 0
    · subst hz
      go_wp2_with fail
      refine (number_any 16 4 (0 : Int) Bo _ _ _ o _ HBX.out.st.row (by omega) (by omega) (by omega) (Nat.le_trans HW.out.1 HBX.out.st.tn.size)).mono ?_
      rintro e w3 ⟨A3, m3, k3, rfl, ho, ht, hk⟩
      have HB3 := hid (HBX.out.out ⟨A3, m3, k3, rfl, ho, ht, hk⟩)
      have hm3 : m3 ≤ m + 7 := by
        have h1 := HB3.out.st.len
        have h2 := HBX.out.st.len
        have h3 := putR_len 16 4 (0 : Int)
        rw [List.length_append] at h1
        omega
      clear ho ht hk c0 c1 c2
      obtain ⟨c0, c1, c2⟩ := BoxAt.c HB3.out.box
      go_wp2_with fail
      refine (text_any f.n Bo _ _ _ (o ++ (putR 16 4 (0 : Int)).1) _ HB3.out.st.row (by omega) (by omega) (Nat.le_trans HW.out.1 HB3.out.st.tn.size)).mono ?_
      rintro e w4 ⟨A4, m4, k4, rfl, ho, ht, hk⟩
      have HB4 := hid (HB3.out.out ⟨A4, m4, k4, rfl, ho, ht, hk⟩)
      have hm4 : m4 ≤ m3 + 536870919 := by
        have h1 := HB4.out.st.len
        have h2 := HB3.out.st.len
        have h3 := textP_len f.n.data.toList
        rw [ba_len] at h3
        rw [List.length_append] at h1
        omega
      clear ho ht hk c0 c1 c2
      obtain ⟨c0, c1, c2⟩ := BoxAt.c HB4.out.box
      go_wp2_with fail
      refine (text_any f.v Bo _ _ _ (o ++ (putR 16 4 (0 : Int)).1 ++ textP f.n.data.toList) _ HB4.out.st.row (by omega) (by omega) (Nat.le_trans HW.out.1 HB4.out.st.tn.size)).mono ?_
      rintro e w6 ⟨A6, m6, k6, rfl, ho, ht, hk⟩
      have HB6 := hid (HB4.out.out ⟨A6, m6, k6, rfl, ho, ht, hk⟩)
      have hm6 : m6 ≤ m4 + 536870919 := by
        have h1 := HB6.out.st.len
        have h2 := HB4.out.st.len
        have h3 := textP_len f.v.data.toList
        rw [ba_len] at h3
        rw [List.length_append] at h1
        omega
      clear ho ht hk c0 c1 c2
      obtain ⟨c0, c1, c2⟩ := BoxAt.c HB6.out.box
      go_wp2_with fail
      go_ret
      refine enc_out_of HB6.out.st (by unfold fieldP; rw [if_pos HX.out]; unfold litP; rw [HNA.out, if_pos rfl]; simp [List.append_assoc]) (by unfold fieldP; rw [if_pos HX.out])
    · have hz1 : ((na : Int) == 0) = false := by simp; omega
      go_wp2_with fail
      refine (number_any 16 4 (na : Int) Bo _ _ _ o _ HBX.out.st.row (by omega) (by omega) (by omega) (Nat.le_trans HW.out.1 HBX.out.st.tn.size)).mono ?_
      rintro e w3 ⟨A3, m3, k3, rfl, ho, ht, hk⟩
      have HB3 := hid (HBX.out.out ⟨A3, m3, k3, rfl, ho, ht, hk⟩)
      have hm3 : m3 ≤ m + 7 := by
        have h1 := HB3.out.st.len
        have h2 := HBX.out.st.len
        have h3 := putR_len 16 4 (na : Int)
        rw [List.length_append] at h1
        omega
      clear ho ht hk c0 c1 c2
      obtain ⟨c0, c1, c2⟩ := BoxAt.c HB3.out.box
      go_wp2_with fail
      refine (text_any f.v Bo _ _ _ (o ++ (putR 16 4 (na : Int)).1) _ HB3.out.st.row (by omega) (by omega) (Nat.le_trans HW.out.1 HB3.out.st.tn.size)).mono ?_
      rintro e w6 ⟨A6, m6, k6, rfl, ho, ht, hk⟩
      have HB6 := hid (HB3.out.out ⟨A6, m6, k6, rfl, ho, ht, hk⟩)
      have hm6 : m6 ≤ m3 + 536870919 := by
        have h1 := HB6.out.st.len
        have h2 := HB3.out.st.len
        have h3 := textP_len f.v.data.toList
        rw [ba_len] at h3
        rw [List.length_append] at h1
        omega
      clear ho ht hk c0 c1 c2
      obtain ⟨c0, c1, c2⟩ := BoxAt.c HB6.out.box
      go_wp2_with fail
      go_ret
      refine enc_out_of HB6.out.st (by unfold fieldP; rw [if_pos HX.out]; unfold litP; rw [HNA.out, if_neg hz]; simp only [List.append_assoc, List.append_nil]) (by unfold fieldP; rw [if_pos HX.out])
end Go.Proofs.YtjeocmglcgnclaaDoor

/- The encoder's Encode, once. Conditions: at most 2^20 fields. -/
namespace Go.Proofs.YtjeocmglcgnclaaDoor
open Go.RowKit
attribute [local go_sem] kd kdS

/-- What Encode leaves. -/
def EncodePost (l : List Fd) (B : Nat) (F : List Nat) (ge gt : Nat) (most told least : Int) (L : List Fd) (w : World) (e : Ending) (w' : World) : Prop :=
  if l.any longF = true then e = .returned (.tuple #[.slice none 0 0, .int .i64 3]) ∧ Below w.heap.size w w'
  else ∃ A' m' c' F', e = .returned (.tuple #[.slice A' m' c', .int .i64 0]) ∧ PkS w w' w.heap.size B (.slice none 0 0) F F' ge gt most most 4096 (blockP most told least L l).2 A' m' c' (blockP most told least L l).1
theorem total_short {l : List Fd} (h : l.any longF = false) : total l ≤ l.length * 32800 := by
  induction l with
  | nil => simp [total]
  | cons f l ih =>
    rw [List.any_cons, Bool.or_eq_false_iff] at h
    have h1 := ih h.2
    have h2 := h.1
    unfold longF at h2
    simp at h2
    rw [total_cons, List.length_cons]
    unfold Fd.size
    omega
theorem total_take (l : List Fd) (k : Nat) : total (l.take k) ≤ total l := by
  have h := total_append (l.take k) (l.drop k)
  rw [List.take_append_drop] at h
  omega
theorem take_snoc {l : List Fd} {k : Nat} {f : Fd} (h : l[k]? = some f) : l.take (k + 1) = l.take k ++ [f] := by
  rw [List.take_add_one, h]; rfl
theorem short_at {l : List Fd} (h : l.any longF = false) {k : Nat} {f : Fd} (hf : l[k]? = some f) : longF f = false := by
  rw [List.any_eq_false] at h
  simpa using h f (List.mem_of_getElem? hf)
theorem Fs.turned {F : List Nat} {w w' : World} {A : Option Addr} {n : Nat} {l : List Fd} (h : Fs w A n l) (ht : Turned F w w') (hF : Off A F) : Fs w' A n l := Rd.turned h ht hF

section
variable {w0 w w1 w2 : World} {Bo B : Nat} {v0 : Value} {F0 F F2 : List Nat} {ge gt : Nat} {most told least most' told' least' : Int} {L L' : List Fd} {A A' : Option Addr} {m c m' c' : Nat} {o o' : List UInt8}
theorem PkS.from_ (hb : Below w0.heap.size w0 w) (h : PkS w w1 Bo B v0 F0 F ge gt most told least L A m c o) : PkS w0 w1 Bo B v0 F0 F ge gt most told least L A m c o :=
  ⟨h.row, h.enc, (Turned.of_below hb).trans h.tn (fun b hb => .inl hb), fun k hk => (h.kf k hk).imp id (fun h1 => Nat.le_trans hb.size h1), fun k hk => (h.kr k hk).imp id (fun h1 => Nat.le_trans hb.size h1), h.dis⟩
theorem PkS.trans (h : PkS w0 w1 Bo B v0 F0 F ge gt most told least L A m c o) (h2 : PkS w1 w2 Bo B (.slice A m c) F F2 ge gt most' told' least' L' A' m' c' o') : PkS w0 w2 Bo B v0 F0 F2 ge gt most' told' least' L' A' m' c' o' := by
  have hs := h.tn.size
  refine ⟨h2.row, h2.enc, h.tn.trans h2.tn (fun b hb => ?_), fun k hk => ?_, fun k hk => ?_, h2.dis⟩
  · rcases List.mem_append.1 hb with hb | hb
    · rcases List.mem_cons.1 hb with rfl | hb
      · exact .inl (by simp)
      · rcases h.kf b hb with h1 | h1
        · exact .inl (by simp [h1])
        · exact .inr h1
    · rcases h.kr b (by simpa using hb) with h1 | h1
      · exact .inl (by simp [h1])
      · exact .inr h1
  · rcases h2.kf k hk with h1 | h1
    · exact h.kf k h1
    · exact .inr (by omega)
  · rcases h2.kr k hk with h1 | h1
    · exact h.kr k h1
    · exact .inr (by omega)
end

set_option maxHeartbeats 1000000 in
set_option maxRecDepth 100000 in
theorem encode_anyZ (B : Nat) (F : List Nat) (ge gt : Nat) (most told least : Int) (L : List Fd) (A : Option Addr) (n c : Nat) (l : List Fd) (w : World) (h : EncAt w B F ge gt most told least L) (hl : Fs w A n l) (hoff : 0 < n → Off A (ge :: F)) (hn : n ≤ 1048576) (hB : B ≤ w.heap.size) :
    Calls Tryd.prog 11 #[.pointer (some ⟨ge, 0, none⟩), .slice A n c] w (EncodePost l B F ge gt most told least L w) := by
  have H := hid h
  have HL := hid hl
  have HO := hid hoff
  have hlen := hl.len
  have HLEN := hid hlen
  clear h hl hoff hlen
  go_enter Tryd.func11, Tryd.ntmps11
  go_wp2_with fail
  go_loopw [13] (fun i wr => ∃ k : Nat, k ≤ n ∧ i = .int .i64 k ∧ (l.take k).any longF = false ∧ Below w.heap.size w wr) (fun i _ => n - (intOf i).toNat)
  case atStart => exact ⟨0, Nat.zero_le _, rfl, rfl, Below.refl _ _⟩
  case round =>
    obtain ⟨k, hk, rfl, hs, hb⟩ := hrel
    have HB := hid hb
    have HSH := hid hs
    clear hs
    by_cases hkn : k < n
    · obtain ⟨b, o, f, rfl, hf, f0, f1, f2⟩ := Fs.at_ (HL.out.below hb) hkn
      have HF := hid hf
      clear hf hb
      by_cases hn1 : 16384 < f.n.size
      · have HLO : Hid (l.any longF = true) := hid (List.any_eq_true.2 ⟨f, List.mem_of_getElem? HF.out, by unfold longF; rw [decide_eq_true hn1]; rfl⟩)
        go_wp2_with fail
        go_ret2
        unfold EncodePost
        rw [if_pos HLO.out]
        exact ⟨rfl, HB.out.alloc HB.out.size _⟩
      · by_cases hn2 : 16384 < f.v.size
        · have HLO : Hid (l.any longF = true) := hid (List.any_eq_true.2 ⟨f, List.mem_of_getElem? HF.out, by unfold longF; rw [decide_eq_true hn2, Bool.or_true]⟩)
          go_wp2_with fail
          go_ret2
          unfold EncodePost
          rw [if_pos HLO.out]
          exact ⟨rfl, HB.out.alloc HB.out.size _⟩
        · have HSS : Hid ((l.take (k + 1)).any longF = false) := hid (by
            rw [take_snoc HF.out, List.any_append, HSH.out]
            unfold longF
            simp [hn1, hn2])
          go_wp2_with fail
          go_roundw
          case rel => exact ⟨k + 1, by omega, by go_num, HSS.out, HB.out.alloc HB.out.size _⟩
          case measure => simp [intOf]; omega
    · obtain rfl : k = n := by omega
      have HSA : Hid (l.any longF = false) := hid (by have := HSH.out; rwa [List.take_of_length_le (by have := HLEN.out; omega)] at this)
      have hhs := hb.size
      clear hb hkn HSH
      go_wp2_with fail
      refine (limits_any B w.heap.size F ge gt most told least L wr (H.out.below HB.out) hhs).mono ?_
      rintro e w1 ⟨A1, m1, c1, F1, rfl, hp⟩
      have HP := hid (PkS.from_ HB.out hp)
      clear hp hhs
      go_wp2_with fail
      go_loopw [8, 32] (fun out i wv => ∃ (j : Nat) (A2 : Option Addr) (m2 c2 : Nat) (F2 : List Nat), j ≤ k ∧ i = .int .i64 j ∧ out = .slice A2 m2 c2 ∧ PkS w wv w.heap.size B (.slice none 0 0) F F2 ge gt most most 4096 (fieldsP most L (l.take j)).2 A2 m2 c2 (limitsP most told least ++ (fieldsP most L (l.take j)).1)) (fun _ i _ => k - (intOf i).toNat)
      case atStart => exact ⟨0, A1, m1, c1, F1, Nat.zero_le _, rfl, rfl, by simpa [fieldsP] using HP.out⟩
      case round =>
        obtain ⟨j, A2, m2, c2, F2, hj, rfl, rfl, hp2⟩ := hrel
        have HP2 := hid hp2
        by_cases hjk : j < k
        · obtain ⟨b, o, f, rfl, hf, f0, f1, f2⟩ := Fs.at_ (HL.out.turned hp2.tn (by simpa [Value.ownBlock] using HO.out (by omega))) hjk
          have HF := hid hf
          have hsf := short_at HSA.out hf
          have hm2 : m2 ≤ 549755813888 := by
            have h1 := hp2.len
            have h2 := limitsP_len most told least
            have h3 := fieldsP_len most L (l.take j)
            have h4 := total_take l j
            have h5 := total_short HSA.out
            have h6 := HLEN.out
            rw [List.length_append] at h1
            omega
          have hfs : f.n.size ≤ 536870912 ∧ f.v.size ≤ 536870912 := by
            unfold longF at hsf
            simp at hsf
            omega
          obtain ⟨hfs1, hfs2⟩ := hfs
          have hws := hp2.tn.size
          clear hf hsf hp2 HP
          go_upto_region 11 with fail
          obtain ⟨wa, hwa⟩ : ∃ wa, wr.alloc (.cells #[.string f.n, .string f.v, .bool f.x] 23) = wa := ⟨_, rfl⟩
          have hFa : Blk wa wr.heap.size 23 #[.string f.n, .string f.v, .bool f.x] := by rw [← hwa]; exact Blk.new wr _ _
          have hba : Below wr.heap.size wr wa := by rw [← hwa]; exact (Below.refl _ _).alloc (Nat.le_refl _) _
          rw [hwa]
          have HPA := hid (HP2.out.below hba)
          obtain ⟨z0, z1, z2⟩ := BoxAt.c hFa
          have hwsa := hba.size
          clear hFa hba hwa f0 f1 f2
          generalize wr.heap.size = bx at z0 z1 z2 hws hwsa ⊢
          have hBwa : B ≤ wa.heap.size := by omega
          have hWwa : w.heap.size ≤ wa.heap.size := by omega
          go_wp2_with fail
          refine (field_any f B w.heap.size F2 ge gt most most 4096 _ A2 m2 c2 _ wa HPA.out.enc HPA.out.row HPA.out.dis hm2 hfs1 hfs2 hWwa hBwa).mono ?_
          rintro e w3 ⟨A3, m3, c3, F3, rfl, hp3⟩
          have HP3 := hid (HPA.out.trans hp3)
          clear hp3 z0 z1 z2 hwsa hBwa hWwa hws
          have HSN := hid (fieldsP_snoc most L (l.take j) f)
          rw [← take_snoc HF.out] at HSN
          go_wp2_with fail
          go_roundw
          case rel => exact ⟨j + 1, A3, m3, c3, F3, by omega, by go_num, rfl, by rw [HSN.out, ← List.append_assoc]; exact HP3.out⟩
          case measure => simp [intOf]; omega
        · obtain rfl : j = k := by omega
          clear hp2 HP
          have HTK : Hid (l.take j = l) := hid (List.take_of_length_le (by have := HLEN.out; omega))
          rw [HTK.out] at HP2
          go_wp2_with fail
          go_ret2
          unfold EncodePost
          rw [if_neg (by rw [HSA.out]; simp)]
          exact ⟨A2, m2, c2, F2, rfl, HP2.out⟩
/-- The same where the row's block is off the encoder's. -/
theorem encode_any (B : Nat) (F : List Nat) (ge gt : Nat) (most told least : Int) (L : List Fd) (A : Option Addr) (n c : Nat) (l : List Fd) (w : World) (h : EncAt w B F ge gt most told least L) (hl : Fs w A n l) (hoff : Off A (ge :: F)) (hn : n ≤ 1048576) (hB : B ≤ w.heap.size) :
    Calls Tryd.prog 11 #[.pointer (some ⟨ge, 0, none⟩), .slice A n c] w (EncodePost l B F ge gt most told least L w) :=
  encode_anyZ B F ge gt most told least L A n c l w h hl (fun _ => hoff) hn hB
end Go.Proofs.YtjeocmglcgnclaaDoor

/- first, the chapter's example: it answers true. No condition. -/
namespace Go.Proofs.YtjeocmglcgnclaaDoor
open Go.RowKit
attribute [local go_sem] kd kdS

def fdS : Fd := ⟨⟨#[58, 115, 116, 97, 116, 117, 115]⟩, ⟨#[50, 48, 48]⟩, false⟩
theorem first_none {m : Int} (h : m ≤ 4096) : limitsP m m 4096 = [] := by unfold limitsP; rw [if_neg (by omega), if_neg (by omega)]; rfl
theorem first_block : (blockP 4096 4096 4096 [] [fdS]).1 = [136] := by decide +kernel
/-- An Encode whose fields are short. -/
theorem encode_ok {l : List Fd} {B : Nat} {F : List Nat} {ge gt : Nat} {most told least : Int} {L : List Fd} {w : World} {e : Ending} {w' : World} (hl : l.any longF = false) (h : EncodePost l B F ge gt most told least L w e w') :
    ∃ A' m' c' F', e = .returned (.tuple #[.slice A' m' c', .int .i64 0]) ∧ PkS w w' w.heap.size B (.slice none 0 0) F F' ge gt most most 4096 (blockP most told least L l).2 A' m' c' (blockP most told least L l).1 := by
  unfold EncodePost at h
  rwa [if_neg (by rw [hl]; simp)] at h
theorem PkS.out_below {w0 w : World} {Bo B : Nat} {F0 F : List Nat} {ge gt : Nat} {most told least : Int} {L : List Fd} {A : Option Addr} {m c : Nat} {o : List UInt8} {W : World} {C : Nat} {most' told' least' : Int} {L' : List Fd} (h : PkS w0 w Bo B (.slice none 0 0) F0 F ge gt most told least L A m c o)
    (h0 : EncAt w0 B F0 ge gt most' told' least' L') (hb : Below C W w0) (hC : C ≤ B) (hC2 : C ≤ w0.heap.size) : Below C W w :=
  hb.trans (h.tn.below (fun b hb => by
    have := h0.ge_ b (by simpa [Value.ownBlock] using hb)
    omega) hC2)
theorem tab_off {w : World} {B : Nat} {F : List Nat} {ge gt : Nat} {most told least : Int} {L : List Fd} (h : EncAt w B F ge gt most told least L) : Off (some ⟨w.heap.size, 0, none⟩) (ge :: F) := fun ad had hm => by
  injection had with had
  subst had
  have := (h.ge_ _ hm).2
  simp at this

set_option maxHeartbeats 400000 in
set_option maxRecDepth 100000 in
theorem first9_any (w : World) : Calls Tryd.prog 8 #[] w fun e w' => e = .returned (.bool true) ∧ Below w.heap.size w w' := by
  go_enter Tryd.func8, Tryd.ntmps8
  go_wp2_with fail
  refine (encNew_any w).mono ?_
  rintro e w1 ⟨F, ge, gt, rfl, h1, hb1⟩
  have H1 := hid h1
  have HB1 := hid hb1
  clear h1 hb1
  go_wp2_with fail
  have hf : Fs (w1.alloc (.cells #[.string ⟨#[58, 115, 116, 97, 116, 117, 115]⟩, .string ⟨#[50, 48, 48]⟩, .bool false] 23)) (some ⟨w1.heap.size, 0, none⟩) 1 [fdS] := rd_new rfl rfl
  have hb2 : Below w1.heap.size w1 (w1.alloc (.cells #[.string ⟨#[58, 115, 116, 97, 116, 117, 115]⟩, .string ⟨#[50, 48, 48]⟩, .bool false] 23)) := (Below.refl _ _).alloc (Nat.le_refl _) _
  have hof := tab_off H1.out
  generalize w1.alloc (.cells #[.string ⟨#[58, 115, 116, 97, 116, 117, 115]⟩, .string ⟨#[50, 48, 48]⟩, .bool false] 23) = wa at hf hb2 ⊢
  have HF := hid hf
  have HOF := hid hof
  have HA := hid (H1.out.below hb2)
  have HBA := hid (HB1.out.trans (hb2.mono HB1.out.size))
  clear hf hb2 hof
  generalize w1.heap.size = bx at HF HOF ⊢
  refine (encode_any w.heap.size F ge gt 4096 4096 4096 [] (some ⟨bx, 0, none⟩) 1 1 [fdS] wa HA.out HF.out HOF.out (by omega) HBA.out.size).mono ?_
  intro e w3 hp
  obtain ⟨A2, m2, c2, F2, rfl, hq⟩ := encode_ok rfl hp
  clear hp
  have hrow := hq.row
  rw [first_block] at hrow
  have HBO := hid (hq.out_below HA.out HBA.out (Nat.le_refl _) HBA.out.size)
  have hR := Bs.of_own hrow
  have e1 : 1 = m2 := hR.len
  subst e1
  obtain ⟨b, oo, x, rfl, hx, hc⟩ := hR.at_ (i := 0) (by omega)
  obtain rfl : x = 136 := by simpa using hx.symm
  rw [Nat.add_zero] at hc
  have hc1 : w3.cell? ⟨b, oo, none⟩ = some (.int .u8 136) := hc
  clear hq hrow hR hx hc
  go_wp2_with fail
  go_ret
  exact ⟨rfl, HBO.out⟩
end Go.Proofs.YtjeocmglcgnclaaDoor

/- An encoder in a law's walk: its state beside blocks that are kept. No condition. -/
namespace Go.Proofs.YtjeocmglcgnclaaDoor
open Go.RowKit

/-- An encoder that was made in the walk from w on; the blocks K are none of its. -/
structure EncI (w wr : World) (B : Nat) (F : List Nat) (ge gt : Nat) (most told least : Int) (L : List Fd) (K : List Nat) : Prop where
  enc : EncAt wr B F ge gt most told least L
  kept : ∀ k ∈ K, k ∉ ge :: F ∧ k < wr.heap.size
  out : Below w.heap.size w wr
  wB : w.heap.size ≤ B
section
variable {w wr w' : World} {B : Nat} {F F' : List Nat} {ge gt : Nat} {most told least most' told' least' : Int} {L L' : List Fd} {K : List Nat} {Bo : Nat} {A : Option Addr} {m c : Nat} {o : List UInt8} {v : Value}
theorem EncI.below (h : EncI w wr B F ge gt most told least L K) (hb : Below wr.heap.size wr w') : EncI w w' B F ge gt most told least L K :=
  ⟨h.enc.below hb, fun k hk => ⟨(h.kept k hk).1, Nat.lt_of_lt_of_le (h.kept k hk).2 hb.size⟩, h.out.trans (hb.mono h.out.size), h.wB⟩
theorem EncI.keep (h : EncI w wr B F ge gt most told least L K) {k : Nat} (hk : k ∉ ge :: F) (hl : k < wr.heap.size) : EncI w wr B F ge gt most told least L (k :: K) :=
  ⟨h.enc, fun q hq => by
    rcases List.mem_cons.1 hq with rfl | hq
    · exact ⟨hk, hl⟩
    · exact h.kept q hq, h.out, h.wB⟩
/-- A block that was made since is kept. -/
theorem EncI.fresh (h : EncI w wr B F ge gt most told least L K) (hb : Below wr.heap.size wr w') {k : Nat} (hk : wr.heap.size ≤ k) (hl : k < w'.heap.size) : EncI w w' B F ge gt most told least L (k :: K) :=
  (h.below hb).keep (fun hm => by have := (h.enc.ge_ k hm).2; omega) hl
theorem EncI.set_ (h : EncI w wr B F ge gt most told least L K) {p : Addr} (hp : p.block ∈ K) (hw : w.heap.size ≤ p.block) (u : Value) : EncI w (wr.setCell p u) B F ge gt most told least L K := by
  have ht : Turned [p.block] wr (wr.setCell p u) := (Turned.refl _ _).setCell (by simp) _
  refine ⟨h.enc.turned ht (fun k hk hm => (h.kept _ hp).1 (by have := List.mem_singleton.1 hm; subst this; exact hk)), fun k hk => ⟨(h.kept k hk).1, Nat.lt_of_lt_of_le (h.kept k hk).2 ht.size⟩, h.out.setCell hw u, h.wB⟩
theorem EncI.turned (h : EncI w wr B F ge gt most told least L K) (he : EncAt w' B F' ge gt most' told' least' L') (ht : Turned (ge :: F) wr w') (hk : ∀ k ∈ F', k ∈ F ∨ wr.heap.size ≤ k) : EncI w w' B F' ge gt most' told' least' L' K := by
  refine ⟨he, fun k hk' => ⟨fun hm => ?_, Nat.lt_of_lt_of_le (h.kept k hk').2 ht.size⟩, h.out.trans (ht.below (fun b hb => Nat.le_trans h.wB (h.enc.ge_ b hb).1) h.out.size), h.wB⟩
  rcases List.mem_cons.1 hm with rfl | hm
  · exact (h.kept _ hk').1 (by simp)
  · rcases hk k hm with h1 | h1
    · exact (h.kept k hk').1 (by simp [h1])
    · have := (h.kept k hk').2
      omega
theorem PkS.turn_ {w0 : World} {F0 : List Nat} (hp : PkS w0 w' Bo B (.slice none 0 0) F0 F' ge gt most told least L A m c o) : Turned (ge :: F0) w0 w' := by
  have := hp.tn
  simpa [Value.ownBlock] using this
theorem EncI.encoded (h : EncI w wr B F ge gt most told least L K) (hp : PkS wr w' Bo B (.slice none 0 0) F F' ge gt most' told' least' L' A m c o) : EncI w w' B F' ge gt most' told' least' L' K :=
  h.turned hp.enc hp.turn_ hp.kf
/-- The row that was answered is kept. -/
theorem EncI.row (h : EncI w w' B F' ge gt most' told' least' L' K) (hp : PkS wr w' Bo B (.slice none 0 0) F F' ge gt most' told' least' L' A m c o) {g : Nat} (hA : (Value.slice A m c).ownBlock = some g) : EncI w w' B F' ge gt most' told' least' L' (g :: K) :=
  h.keep (fun hm => hp.dis g hm hA) (own_row_lt hp.row g hA).2
theorem EncI.hB (h : EncI w wr B F ge gt most told least L K) : B ≤ wr.heap.size := by
  have := h.enc.ge_ ge (by simp)
  omega
theorem EncI.blk (h : EncI w wr B F ge gt most told least L K) (ht : Turned (ge :: F) wr w') {k : Nat} {t : TypeId} {cs : Array Value} (hb : Blk wr k t cs) (hk : k ∈ K) : Blk w' k t cs := hb.turned ht (h.kept k hk).1
theorem EncI.cell (h : EncI w wr B F ge gt most told least L K) (ht : Turned (ge :: F) wr w') {p : Addr} {u : Value} (hc : wr.cell? p = some u) (hk : p.block ∈ K) : w'.cell? p = some u := ht.cell hc (h.kept _ hk).1
end
end Go.Proofs.YtjeocmglcgnclaaDoor
