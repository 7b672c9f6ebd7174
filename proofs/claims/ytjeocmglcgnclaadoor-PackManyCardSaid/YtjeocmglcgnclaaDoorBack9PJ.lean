/- What the encoder wrote, the decoder reads: plain law of blocks. No program in sight; no condition beyond each lemma's own. -/
import Derived.Test.YtjeocmglcgnclaaDoorBackPJ
import Derived.Test.YtjeocmglcgnclaaDoorGk
import Derived.Test.YtjeocmglcgnclaaDoorGs
import Derived.Test.YtjeocmglcgnclaaDoorGu
namespace Go.Proofs.YtjeocmglcgnclaaDoor
open Go.RowKit

theorem ba_of (b : ByteArray) : (⟨b.data.toList.toArray⟩ : ByteArray) = b := by cases b; rfl
theorem ba_eq {a b : ByteArray} (h : a.toList = b.toList) : a = b := by
  rw [Lib.toList_data, Lib.toList_data] at h
  obtain ⟨a⟩ := a
  obtain ⟨b⟩ := b
  have e : a = b := Array.toList_inj.1 h
  rw [e]
/-- What an own index says. -/
theorem findK_says (L : List Fd) (nm vl : ByteArray) : ∀ k, k ≤ L.length →
    ((findK L nm vl k).1 = 0 ∨ (1 ≤ (findK L nm vl k).1 ∧ (findK L nm vl k).1 ≤ L.length ∧ ∃ f, getF L ((findK L nm vl k).1 : Nat) = (f, true) ∧ f ∈ L ∧ f.n = nm ∧ f.v = vl)) ∧
    ((findK L nm vl k).2 = 0 ∨ (1 ≤ (findK L nm vl k).2 ∧ (findK L nm vl k).2 ≤ L.length ∧ ∃ f, getF L ((findK L nm vl k).2 : Nat) = (f, true) ∧ f ∈ L ∧ f.n = nm))
  | 0, _ => ⟨.inl rfl, .inl rfl⟩
  | k + 1, hk => by
    have ih := findK_says L nm vl k (by omega)
    have hl : k < L.length := by omega
    rw [findK_some (List.getElem?_eq_getElem hl)]
    have hg : getF L ((L.length - k : Nat) : Int) = (L[k], true) := by
      unfold getF
      rw [if_pos (by omega)]
      have e : L.length - ((L.length - k : Nat) : Int).toNat = k := by omega
      rw [e, List.getElem?_eq_getElem hl]
      rfl
    have hm : L[k] ∈ L := List.getElem_mem hl
    split
    · rename_i h1
      have h1' := ba_eq (beq_iff_eq.1 h1)
      split
      · rename_i h2
        have h2' := ba_eq (beq_iff_eq.1 h2)
        dsimp only
        exact ⟨.inr ⟨by omega, by omega, _, hg, hm, h1', h2'⟩, .inr ⟨by omega, by omega, _, hg, hm, h1'⟩⟩
      · dsimp only
        exact ⟨ih.1, .inr ⟨by omega, by omega, _, hg, hm, h1'⟩⟩
    · exact ih
theorem atD_own {L : List Fd} {i : Nat} {f : Fd} (h1 : 1 ≤ i) (h : getF L (i : Nat) = (f, true)) : atD L (i + 61) = some f := by
  unfold atD
  rw [if_neg (by omega)]
  have e : ((i + 61 : Nat) : Int) - 61 = (i : Nat) := by omega
  rw [e, h]
  rfl
theorem atD_static {L : List Fd} {i : Nat} (h1 : 1 ≤ i) (h : i ≤ 61) : atD L i = some ⟨⟨(tabF i).1.toArray⟩, ⟨(tabF i).2.toArray⟩, false⟩ := by
  unfold atD
  rw [if_pos h, if_pos h1]
theorem both_at {most : Int} {L : List Fd} (h : TabOk most L) (f : Fd) (hb : 0 < bothI L f) : atD L (bothI L f) = some ⟨f.n, f.v, false⟩ ∧ bothI L f ≤ 4157 := by
  have hs := (findP_says f.n.data.toList f.v.data.toList 61).1
  have hle := (findP_le f.n.data.toList f.v.data.toList 61).1
  have hk := (findK_says L f.n f.v L.length (Nat.le_refl _)).1
  have hlen := h.len
  unfold bothI at hb ⊢
  generalize (findP f.n.data.toList f.v.data.toList 61).1 = a at hs hle hb
  generalize (findP f.n.data.toList f.v.data.toList 61).2 = a2 at hs
  generalize (findK L f.n f.v L.length).1 = o at hk hb
  unfold ixB at hb ⊢
  by_cases hz : a = 0 ∧ 0 < o
  · rw [if_pos hz]
    rcases hk with hk | ⟨k1, k2, g, hg, hm, hn, hv⟩
    · omega
    · rw [atD_own k1 hg]
      have hx := h.2.2.2 g hm
      refine ⟨?_, by omega⟩
      cases g
      simp only at hn hv hx
      subst hn hv hx
      rfl
  · rw [if_neg hz] at hb ⊢
    rcases hs with hs | ⟨s1, s2, s3, _⟩
    · omega
    · rw [atD_static s1 hle, s2, s3, ba_of, ba_of]
      exact ⟨rfl, by omega⟩
theorem name_at {most : Int} {L : List Fd} (h : TabOk most L) (f : Fd) (hb : 0 < nameI L f) : (∃ g, atD L (nameI L f) = some g ∧ g.n = f.n ∧ g.x = false) ∧ nameI L f ≤ 4157 := by
  have hs := (findP_says f.n.data.toList f.v.data.toList 61).2
  have hle := (findP_le f.n.data.toList f.v.data.toList 61).2
  have hk := (findK_says L f.n f.v L.length (Nat.le_refl _)).2
  have hlen := h.len
  unfold nameI at hb ⊢
  generalize (findP f.n.data.toList f.v.data.toList 61).2 = a at hs hle hb
  generalize (findK L f.n f.v L.length).2 = o at hk hb
  unfold ixB at hb ⊢
  by_cases hz : a = 0 ∧ 0 < o
  · rw [if_pos hz]
    rcases hk with hk | ⟨k1, k2, g, hg, hm, hn⟩
    · omega
    · exact ⟨⟨g, atD_own k1 hg, hn, h.2.2.2 g hm⟩, by omega⟩
  · rw [if_neg hz] at hb ⊢
    rcases hs with hs | ⟨s1, s2⟩
    · omega
    · refine ⟨⟨_, atD_static s1 hle, ?_, rfl⟩, by omega⟩
      dsimp only
      rw [s2, ba_of]
theorem nameI_le {most : Int} {L : List Fd} (h : TabOk most L) (f : Fd) : nameI L f ≤ 4157 := by
  by_cases hb : 0 < nameI L f
  · exact (name_at h f hb).2
  · omega
/-- A literal is read back. -/
theorem litD_litP {most : Int} {L : List Fd} (h : TabOk most L) {f : Fd} (hn : f.n.size ≤ 16384) (hv : f.v.size ≤ 16384) {first bits : Int} (h0 : 0 ≤ first) (h1 : first < 256) (hb1 : 1 ≤ bits) (hb2 : bits ≤ 8) (more : List UInt8) :
    litD L (litP first bits L f ++ more) bits = some (⟨f.n, f.v, false⟩, more) := by
  have hl := nameI_le h f
  have e1 := ba_len f.n
  have e2 := ba_len f.v
  unfold litP litD
  rw [List.append_assoc, List.append_assoc, numP_put h0 h1 hb1 hb2 (by omega) (by omega)]
  dsimp only
  have ht : ((nameI L f : Nat) : Int).toNat = nameI L f := by omega
  rw [ht]
  unfold nameD
  by_cases hb : 0 < nameI L f
  · obtain ⟨g, hg, hgn, hgx⟩ := (name_at h f hb).1
    rw [if_pos hb, hg, if_neg (by omega)]
    dsimp only
    rw [List.nil_append, textD_textP (by omega)]
    dsimp only
    rw [hgn, hgx, ba_of]
  · rw [if_neg hb, if_pos (by omega), textD_textP (by omega)]
    dsimp only
    rw [textD_textP (by omega)]
/-- A step of the decoder takes back what a field's writing put. -/
theorem head_of {first bits n : Int} (h0 : 0 ≤ first) (h1 : first < 256) (hb1 : 1 ≤ bits) (hb2 : bits ≤ 8) (hn : 0 ≤ n) (hn1 : n ≤ 2147483647) (more : List UInt8) :
    ∃ (x : UInt8) (t : List UInt8), (putR first bits n).1 ++ more = x :: t ∧ (x.toNat : Int) = first / (onesN bits + 1) * (onesN bits + 1) + min n (onesN bits) := by
  obtain ⟨x, t, e1, e2, _⟩ := put_headB h0 h1 hb1 hb2 hn hn1
  exact ⟨x, t ++ more, by rw [e1]; rfl, e2⟩
theorem litP_head {most : Int} {L : List Fd} (h : TabOk most L) (f : Fd) {first bits : Int} (h0 : 0 ≤ first) (h1 : first < 256) (hb1 : 1 ≤ bits) (hb2 : bits ≤ 8) (more : List UInt8) :
    ∃ (x : UInt8) (t : List UInt8), litP first bits L f ++ more = x :: t ∧ (x.toNat : Int) = first / (onesN bits + 1) * (onesN bits + 1) + min ((nameI L f : Nat) : Int) (onesN bits) := by
  have hl := nameI_le h f
  unfold litP
  rw [List.append_assoc, List.append_assoc]
  exact head_of h0 h1 hb1 hb2 (by omega) (by omega) _
theorem ones_7 : onesN 7 = 127 := by decide +kernel
theorem ones_6 : onesN 6 = 63 := by decide +kernel
theorem ones_5 : onesN 5 = 31 := by decide +kernel
theorem ones_4 : onesN 4 = 15 := by decide +kernel
theorem step_field {most : Int} {L : List Fd} (h : TabOk most L) {f : Fd} (hn : f.n.size ≤ 16384) (hv : f.v.size ≤ 16384) (more : List UInt8) (told : Nat) (acc : List Fd) :
    stepD ⟨(fieldP most L f).1 ++ more, most, L, told, acc⟩ = some ⟨more, most, (fieldP most L f).2, told, acc ++ [f]⟩ := by
  unfold fieldP
  by_cases hx : f.x = true
  · rw [if_pos hx]
    obtain ⟨x, t, e1, e2⟩ := litP_head h f (first := 16) (bits := 4) (by omega) (by omega) (by omega) (by omega) more
    rw [ones_4] at e2
    have hs := stepD_plain (s := ⟨litP 16 4 L f ++ more, most, L, told, acc⟩) (b := x) (t := t) e1 (by omega)
    refine hs.trans ?_
    dsimp only
    rw [litD_litP h hn hv (by omega) (by omega) (by omega) (by omega)]
    dsimp only
    rw [decide_eq_true (show 16 ≤ x.toNat by omega), ← hx]
  · rw [if_neg hx]
    have hxf : f.x = false := by simpa using hx
    have ef : (⟨f.n, f.v, false⟩ : Fd) = f := by rw [← hxf]
    by_cases hb : 0 < bothI L f
    · rw [if_pos hb]
      obtain ⟨ha, hle⟩ := both_at h f hb
      obtain ⟨x, t, e1, e2⟩ := head_of (first := 128) (bits := 7) (n := (bothI L f : Nat)) (by omega) (by omega) (by omega) (by omega) (by omega) (by omega) more
      rw [ones_7] at e2
      have hs := stepD_known (s := ⟨(putR 128 7 (bothI L f : Nat)).1 ++ more, most, L, told, acc⟩) (b := x) (t := t) e1 (by omega)
      refine hs.trans ?_
      dsimp only
      rw [numP_put (by omega) (by omega) (by omega) (by omega) (by omega) (by omega)]
      dsimp only
      rw [show ((bothI L f : Nat) : Int).toNat = bothI L f by omega, ha]
      dsimp only
      rw [ef]
    · rw [if_neg hb]
      obtain ⟨x, t, e1, e2⟩ := litP_head h f (first := 64) (bits := 6) (by omega) (by omega) (by omega) (by omega) more
      rw [ones_6] at e2
      have hs := stepD_added (s := ⟨litP 64 6 L f ++ more, most, L, told, acc⟩) (b := x) (t := t) e1 (by omega) (by omega)
      refine hs.trans ?_
      dsimp only
      rw [litD_litP h hn hv (by omega) (by omega) (by omega) (by omega)]
      dsimp only
      rw [ef]
theorem fieldsP_cons (most : Int) (L : List Fd) (f : Fd) (l : List Fd) : fieldsP most L (f :: l) = ((fieldP most L f).1 ++ (fieldsP most (fieldP most L f).2 l).1, (fieldsP most (fieldP most L f).2 l).2) := by
  have key : ∀ (l : List Fd) (p : List UInt8) (L : List Fd), l.foldl (fun r f => (r.1 ++ (fieldP most r.2 f).1, (fieldP most r.2 f).2)) (p, L) = (p ++ (fieldsP most L l).1, (fieldsP most L l).2) := by
    intro l
    induction l with
    | nil => intro p L; simp [fieldsP]
    | cons g l ih =>
      intro p L
      unfold fieldsP
      simp only [List.foldl_cons]
      rw [ih, ih]
      simp
  unfold fieldsP
  simp only [List.foldl_cons]
  rw [key]
  simp [fieldsP]
/-- All fields of a block are read back. -/
theorem run_fields {most : Int} : ∀ (l : List Fd) {L : List Fd} (_ : TabOk most L) (_ : ∀ f ∈ l, f.n.size ≤ 16384 ∧ f.v.size ≤ 16384) (told : Nat) (acc : List Fd),
    decR ⟨(fieldsP most L l).1, most, L, told, acc⟩ = (⟨[], most, (fieldsP most L l).2, told, acc ++ l⟩, true)
  | [], L, h, _, told, acc => by
    rw [show fieldsP most L [] = ([], L) from rfl]
    dsimp only
    rw [decR_nil rfl, List.append_nil]
  | f :: l, L, h, hl, told, acc => by
    have hf := hl f (by simp)
    rw [fieldsP_cons]
    dsimp only
    rw [decR_some (step_field h hf.1 hf.2 _ told acc)]
    have ih := run_fields l (h.field f) (fun g hg => hl g (by simp [hg])) told (acc ++ [f])
    rw [ih]
    simp
/-- A limit is read back. -/
theorem step_limit {most m : Int} {L : List Fd} (h0 : 0 ≤ m) (h1 : m ≤ 4096) (more : List UInt8) {told : Nat} (ht : told ≤ 1) :
    stepD ⟨(putR 32 5 m).1 ++ more, most, L, told, []⟩ = some ⟨more, m, shr m L, told + 1, []⟩ := by
  obtain ⟨x, t, e1, e2⟩ := head_of (first := 32) (bits := 5) (n := m) (by omega) (by omega) (by omega) (by omega) (by omega) (by omega) more
  rw [ones_5] at e2
  have hs := stepD_limit (s := ⟨(putR 32 5 m).1 ++ more, most, L, told, []⟩) (b := x) (t := t) e1 (by omega) (by omega)
  refine hs.trans ?_
  dsimp only
  rw [numP_put (by omega) (by omega) (by omega) (by omega) (by omega) (by omega)]
  dsimp only
  rw [if_neg (by simp; omega), show ((m.toNat : Nat) : Int) = m by omega]
theorem shr_fit {r : Int} {l : List Fd} (h : ¬ r < (total l : Nat)) : shr r l = l := by
  cases l with
  | nil => rfl
  | cons f l => rw [shr, if_neg h]
theorem shr_shr (r s : Int) : ∀ l : List Fd, shr r (shr s l) = shr (min r s) l
  | [] => rfl
  | f :: l => by
    by_cases h : s < (total (f :: l) : Nat)
    · rw [show shr s (f :: l) = shr s l by rw [shr, if_pos h], shr_shr r s l]
      rw [show shr (min r s) (f :: l) = shr (min r s) l by rw [shr, if_pos (by omega)]]
    · rw [shr_fit h]
      by_cases hr : r < (total (f :: l) : Nat)
      · have hm : min r s = r := by omega
        rw [hm]
      · rw [shr_fit hr, shr_fit (by omega)]
/-- An encoder and a decoder that has read all its blocks: the limits told and not yet told. -/
structure Pair (most told least : Int) (L LD : List Fd) : Prop where
  d : TabOk told LD
  m0 : 0 ≤ most
  m1 : most ≤ 4096
  l0 : 0 ≤ least
  l1 : least ≤ 4096
  same : L = shr (min least told) LD
  ways : least ≤ most ∨ most = told
theorem Pair.start : Pair 4096 4096 4096 [] [] := ⟨⟨by omega, by omega, by simp [total], fun f h => by cases h⟩, by omega, by omega, by omega, by omega, rfl, .inr rfl⟩
theorem Pair.peer {most told least : Int} {L LD : List Fd} (h : Pair most told least L LD) (n : Int) : Pair (peerN n) told (min least (peerN n)) (shr (peerN n) L) LD := by
  have hp := peerN_le n
  refine ⟨h.d, hp.1, hp.2, by have := h.l0; omega, by have := h.l1; omega, ?_, .inl (by omega)⟩
  rw [h.same, shr_shr]
  congr 1
  omega
/-- A block is read back: the fields, and the table. -/
theorem Pair.block {most told least : Int} {L LD : List Fd} (h : Pair most told least L LD) {l : List Fd} (hl : ∀ f ∈ l, f.n.size ≤ 16384 ∧ f.v.size ≤ 16384) :
    (∃ k, decR (startD (blockP most told least L l).1 told LD) = (⟨[], most, (blockP most told least L l).2, k, l⟩, true)) ∧ Pair most most 4096 (blockP most told least L l).2 (blockP most told least L l).2 := by
  obtain ⟨hd, m0, m1, l0, l1, hs, hw⟩ := h
  have hfit : ¬ told < (total LD : Nat) := by have := hd.2.2.1; omega
  have hL : TabOk most L ∧ ∃ k, decR (startD (limitsP most told least ++ (fieldsP most L l).1) told LD) = decR ⟨(fieldsP most L l).1, most, L, k, []⟩ := by
    unfold limitsP startD
    by_cases h1 : least < most
    · rw [if_pos h1, if_pos (.inl h1)]
      have e : shr most (shr least LD) = L := by
        rw [shr_shr, hs]
        by_cases h2 : least ≤ told
        · congr 1
          omega
        · have e1 : min most least = least := by omega
          have e2 : min least told = told := by omega
          rw [e1, e2, shr_fit hfit, shr_fit (by omega)]
      refine ⟨?_, 2, ?_⟩
      · rw [← e]
        exact (hd.lim l0 l1).lim m0 m1
      · rw [List.append_assoc, decR_some (step_limit l0 l1 _ (Nat.zero_le _)), decR_some (step_limit m0 m1 _ (Nat.le_refl _)), e]
    · rw [if_neg h1]
      by_cases h2 : most = told
      · subst h2
        have e : L = LD := by
          rw [hs]
          have e1 : min least most = most := by omega
          rw [e1, shr_fit hfit]
        subst e
        rw [if_neg (by omega)]
        exact ⟨hd, 0, rfl⟩
      · rw [if_pos (.inr h2)]
        have hlm : least = most := by omega
        have e : shr most LD = L := by
          rw [hs, hlm]
          by_cases h3 : most ≤ told
          · congr 1
            omega
          · have e2 : min most told = told := by omega
            rw [e2, shr_fit hfit, shr_fit (by omega)]
        refine ⟨?_, 1, ?_⟩
        · rw [← e]
          exact hd.lim m0 m1
        · rw [List.nil_append, decR_some (step_limit m0 m1 _ (Nat.zero_le _)), e]
  obtain ⟨hok, k, hk⟩ := hL
  have hz := hok.fields l
  refine ⟨⟨k, ?_⟩, ⟨hz, m0, m1, by omega, by omega, ?_, .inr rfl⟩⟩
  · unfold blockP
    dsimp only
    rw [hk, run_fields l hok hl k []]
    rfl
  · unfold blockP
    dsimp only
    have hf2 : ¬ most < (total (fieldsP most L l).2 : Nat) := by have := hz.2.2.1; omega
    have e1 : min 4096 most = most := by omega
    rw [e1, shr_fit hf2]
end Go.Proofs.YtjeocmglcgnclaaDoor
