/- Joined texts: Huff HuffBook HuffOpen HuffCodes HuffBits HuffPlain HuffDecP HuffLawP HuffEnc HuffDec HuffCalls. Each names its own conditions. -/
import Derived.Test.YtjeocmglcgnclaaDoorGa
import Derived.Outline
import Derived.Deep.DeepCutAuto
import Derived.WalkMore
import Derived.Deep.RegionWith
import Derived.Deep.Onto

/- The lengths of codes, and what bitsOf answers. -/
namespace Go.Proofs.YtjeocmglcgnclaaDoor
open Go.RowKit
attribute [local go_sem] kd kdS

/-- Five bits a sign: the length of its code, less five. -/
def lenN : Nat := 0x19adad6b5af6b5ad6ad6d595673a52319421183e6fb5ad7ad6109dab6b560ea4eb6b56b5a465173eb5946328c62f94a328461094a309c63284a518be119ca519461294a539467394e5294a51946317be2fba1265084210820004410042110801084010040a0a50e40c4310842108421084210842108421082829c2a1882108421080000842330ca530c28394a1bdef7bdef7be6f7bdef7bdf37be677bdef7bde48
def hl (s : Nat) : Nat := lenN >>> (5 * s) % 32 + 5

def chkK (K : ByteArray) : Bool := (List.range 257).all fun s => decide (97 ≤ (K.data.toList.getD s 0).toNat) && ((K.data.toList.getD s 0).toNat - 92 == hl s)
theorem bits_of (K : ByteArray) (s : Nat) (hs : s < K.size) (hz : K.size = 257) (h : chkK K = true) : (((K[s]'hs).toNat : Int) - 97) % 256 + 5 = hl s := by
  unfold chkK at h
  rw [List.all_eq_true] at h
  have h1 := h s (by simp; omega)
  simp only [Bool.and_eq_true, decide_eq_true_eq, beq_iff_eq] at h1
  have e : K.data.toList.getD s 0 = K[s]'hs := by
    rw [List.getD_eq_getElem?_getD]
    have : K.data.toList[s]? = some (K[s]'hs) := by
      rw [Array.getElem?_toList]
      exact Array.getElem?_eq_getElem hs
    rw [this]
    rfl
  rw [e] at h1
  have := (K[s]'hs).toNat_lt
  omega
theorem hl_le (s : Nat) : 5 ≤ hl s ∧ hl s ≤ 36 := by
  unfold hl
  omega

set_option maxHeartbeats 400000 in
set_option maxRecDepth 100000 in
theorem bitsOf_any (s : Nat) (w : World) (hs : s < 257) : Calls Tryd.prog 74 #[.int .i64 s] w fun e w' => e = .returned (.int .i64 (hl s)) ∧ w = w' := by
  go_enter Tryd.func74, Tryd.ntmps74
  go_wp2_with fail
  go_ret
  exact ⟨congrArg (fun z => Ending.returned (.int .i64 z)) (bits_of _ s (by exact hs) (by kernel_rfl) (by kernel_rfl)), rfl⟩
end Go.Proofs.YtjeocmglcgnclaaDoor

/- The book of codes: what opened answers. No condition. -/
namespace Go.Proofs.YtjeocmglcgnclaaDoor
open Go.RowKit
attribute [local go_sem] kd kdS

/-- The signs whose codes have n bits. -/
def signs (n : Nat) : List Nat := (List.range 257).filter fun s => hl s == n
/-- The signs in order, those of fewer than 5 + k bits. -/
def ordB (k : Nat) : List Nat := (List.range k).flatMap fun j => signs (5 + j)
/-- The first code of 5 + k bits. -/
def firstC : Nat → Nat
  | 0 => 0
  | k + 1 => 2 * (firstC k + (signs (5 + k)).length)
theorem ordB_succ (k : Nat) : ordB (k + 1) = ordB k ++ signs (5 + k) := by
  unfold ordB
  rw [List.range_succ, List.flatMap_append]
  simp
theorem signs_le (n : Nat) : (signs n).length ≤ 257 := by
  unfold signs
  have := List.length_filter_le (fun s => hl s == n) (List.range 257)
  simpa using this
theorem ordB_le (k : Nat) : (ordB k).length ≤ k * 257 := by
  induction k with
  | zero => simp [ordB]
  | succ k ih =>
    rw [ordB_succ, List.length_append]
    have := signs_le (5 + k)
    omega
theorem first_all : ∀ k, k ≤ 26 → firstC k < 4294967296 := by decide +kernel
theorem sign_take (n s : Nat) : ((List.range (s + 1)).filter fun x => hl x == n) = ((List.range s).filter fun x => hl x == n) ++ (if hl s = n then [s] else []) := by
  rw [List.range_succ, List.filter_append]
  by_cases h : hl s = n <;> simp [h]

/-- The book's cells. -/
def vals (f m p : Nat → Int) (v : Value) : Array Value :=
  ((List.range 31).map (fun j => Value.int .i64 (f j)) ++ (List.range 31).map (fun j => Value.int .i64 (m j)) ++ (List.range 31).map (fun j => Value.int .i64 (p j)) ++ [v]).toArray
def upd (f : Nat → Int) (j : Nat) (x : Int) : Nat → Int := fun i => if i = j then x else f i
section
variable {f m p : Nat → Int} {v u : Value} {j : Nat} {x : Int}
theorem vals_size : (vals f m p v).size = 94 := by simp [vals]
theorem vals_f (h : j < 31) : (vals f m p v)[j]? = some (.int .i64 (f j)) := by
  unfold vals
  simp only [List.getElem?_toArray]
  rw [List.getElem?_append_left (by simp; omega), List.getElem?_append_left (by simp; omega), List.getElem?_append_left (by simpa using h), List.getElem?_map, List.getElem?_range h]
  rfl
theorem vals_m (h : j < 31) : (vals f m p v)[31 + j]? = some (.int .i64 (m j)) := by
  unfold vals
  simp only [List.getElem?_toArray]
  rw [List.getElem?_append_left (by simp; omega), List.getElem?_append_left (by simp; omega), List.getElem?_append_right (by simp)]
  simp [List.getElem?_map, List.getElem?_range h]
theorem vals_p (h : j < 31) : (vals f m p v)[62 + j]? = some (.int .i64 (p j)) := by
  unfold vals
  simp only [List.getElem?_toArray]
  rw [List.getElem?_append_left (by simp; omega), List.getElem?_append_right (by simp)]
  simp [List.getElem?_map, List.getElem?_range h]
theorem vals_o : (vals f m p v)[93]? = some v := by
  unfold vals
  simp only [List.getElem?_toArray]
  rw [List.getElem?_append_right (by simp)]
  simp
theorem map_upd (f : Nat → Int) (j : Nat) (x : Int) (n : Nat) : ((List.range n).map fun i => Value.int .i64 (f i)).set j (.int .i64 x) = (List.range n).map fun i => Value.int .i64 (upd f j x i) := by
  apply List.ext_getElem?
  intro i
  rw [List.getElem?_set]
  by_cases h : j = i
  · subst h
    by_cases hn : j < n
    · simp [hn, upd]
    · simp [hn]
  · rw [if_neg h, List.getElem?_map, List.getElem?_map]
    rcases hr : (List.range n)[i]? with _ | y
    · rfl
    · have : y = i := by
        have := List.getElem?_eq_some_iff.1 hr
        obtain ⟨_, e⟩ := this
        simpa using e.symm
      subst this
      simp [upd, Ne.symm h]
theorem vals_set_f (h : j < 31) : (vals f m p v).setIfInBounds j (.int .i64 x) = vals (upd f j x) m p v := by
  unfold vals
  rw [List.setIfInBounds_toArray, List.set_append_left _ _ (by simp; omega), List.set_append_left _ _ (by simp; omega), List.set_append_left _ _ (by simpa using h), map_upd]
theorem vals_set_m (h : j < 31) : (vals f m p v).setIfInBounds (31 + j) (.int .i64 x) = vals f (upd m j x) p v := by
  unfold vals
  rw [List.setIfInBounds_toArray, List.set_append_left _ _ (by simp; omega), List.set_append_left _ _ (by simp; omega), List.set_append_right _ _ (by simp)]
  simp only [List.length_map, List.length_range, Nat.add_sub_cancel_left]
  rw [map_upd]
theorem vals_set_p (h : j < 31) : (vals f m p v).setIfInBounds (62 + j) (.int .i64 x) = vals f m (upd p j x) v := by
  unfold vals
  rw [List.setIfInBounds_toArray, List.set_append_left _ _ (by simp; omega), List.set_append_right _ _ (by simp)]
  simp only [List.length_append, List.length_map, List.length_range, Nat.add_sub_cancel_left]
  rw [map_upd]
theorem vals_set_o : (vals f m p v).setIfInBounds 93 u = vals f m p u := by
  unfold vals
  rw [List.setIfInBounds_toArray, List.set_append_right _ _ (by simp)]
  simp
end

/-- The parts of the book when the lengths below 5 + k are done. -/
def fK (k : Nat) : Nat → Int := fun j => if 5 ≤ j ∧ j < 5 + k then (firstC (j - 5) : Int) else 0
def mK (k : Nat) : Nat → Int := fun j => if 5 ≤ j ∧ j < 5 + k then ((signs j).length : Int) else 0
def pK (k : Nat) : Nat → Int := fun j => if 5 ≤ j ∧ j < 5 + k then ((ordB (j - 5)).length : Int) else 0
theorem fK_succ (k : Nat) : upd (fK k) (5 + k) (firstC k) = fK (k + 1) := by
  funext i
  unfold upd fK
  by_cases h : i = 5 + k
  · subst h
    rw [if_pos rfl, if_pos (by omega), Nat.add_sub_cancel_left]
  · rw [if_neg h]
    by_cases h2 : 5 ≤ i ∧ i < 5 + k
    · rw [if_pos h2, if_pos (by omega)]
    · rw [if_neg h2, if_neg (by omega)]
theorem mK_succ (k : Nat) : upd (mK k) (5 + k) ((signs (5 + k)).length : Int) = mK (k + 1) := by
  funext i
  unfold upd mK
  by_cases h : i = 5 + k
  · subst h
    rw [if_pos rfl, if_pos (by omega)]
  · rw [if_neg h]
    by_cases h2 : 5 ≤ i ∧ i < 5 + k
    · rw [if_pos h2, if_pos (by omega)]
    · rw [if_neg h2, if_neg (by omega)]
theorem pK_succ (k : Nat) : upd (pK k) (5 + k) ((ordB k).length : Int) = pK (k + 1) := by
  funext i
  unfold upd pK
  by_cases h : i = 5 + k
  · subst h
    rw [if_pos rfl, if_pos (by omega), Nat.add_sub_cancel_left]
  · rw [if_neg h]
    by_cases h2 : 5 ≤ i ∧ i < 5 + k
    · rw [if_pos h2, if_pos (by omega)]
    · rw [if_neg h2, if_neg (by omega)]
def ints (l : List Nat) : List Value := l.map fun (s : Nat) => Value.int .i64 (s : Int)
theorem ints_one (l : List Nat) : ∀ u ∈ ints l, u.oneCell' = true := by
  intro u hu
  obtain ⟨b, _, rfl⟩ := List.mem_map.1 hu
  rfl
theorem ints_len (l : List Nat) : (ints l).length = l.length := by simp [ints]
theorem ints_append (a b : List Nat) : ints (a ++ b) = ints a ++ ints b := by simp [ints]

/-- A book in block g, when the lengths below 5 + k are done. -/
structure BookAt (w : World) (g : Nat) (f m p : Nat → Int) (A : Option Addr) (c : Nat) (l : List Nat) : Prop where
  blk : Blk w g 118 (vals f m p (.slice A l.length c))
  own : w.ownsRow (g + 1) 3 1 (.slice A l.length c) l.length (ints l)
theorem BookAt.below {w w' : World} {g : Nat} {f m p : Nat → Int} {A : Option Addr} {c : Nat} {l : List Nat} (h : BookAt w g f m p A c l) (hb : Below w.heap.size w w') : BookAt w' g f m p A c l :=
  ⟨h.blk.below hb h.blk.lt, own_below h.own hb⟩
theorem int_info : (Tryd.prog.info? 3).map (fun i => (i.zero, i.size, i.bytes)) = some (some (.int .i64 0), 1, 8) := by kernel_rfl
end Go.Proofs.YtjeocmglcgnclaaDoor

/- What opened answers: the book of all codes. No condition. -/
namespace Go.Proofs.YtjeocmglcgnclaaDoor
open Go.RowKit
attribute [local go_sem] kd kdS

theorem book_zero (w : World) : (zeroValue 118).run Tryd.prog w = .ok (.agg (vals (fK 0) (mK 0) (pK 0) (.slice none 0 0))) w := by kernel_rfl

set_option maxHeartbeats 4000000 in
set_option maxRecDepth 100000 in
theorem opened_any (w : World) : Calls Tryd.prog 75 #[] w fun e w' => ∃ A c, e = .returned (.pointer (some ⟨w.heap.size, 0, none⟩)) ∧ BookAt w' w.heap.size (fK 26) (mK 26) (pK 26) A c (ordB 26) ∧ Below w.heap.size w w' := by
  obtain ⟨i0, hi0, hz0, hz1, hz2⟩ := info_parts int_info
  have hi := hid hi0
  have hz := hid hz0
  have hsz := hid hz1
  have hby := hid hz2
  clear hi0 hz0 hz1 hz2
  have hbz := book_zero
  generalize hva : vals (fK 0) (mK 0) (pK 0) (.slice none 0 0) = va at hbz
  go_enter Tryd.func75, Tryd.ntmps75
  go_upto_region 2 with fail
  have hblk : Blk (w.alloc (.cells va 118)) w.heap.size 118 va := Blk.new w _ _
  have hbw : Below w.heap.size w (w.alloc (.cells va 118)) := (Below.refl _ _).alloc (Nat.le_refl _) _
  have hgl : w.heap.size < (w.alloc (.cells va 118)).heap.size := by simp
  subst hva
  have HBK := hid (show BookAt (w.alloc (.cells (vals (fK 0) (mK 0) (pK 0) (.slice none 0 0)) 118)) w.heap.size (fK 0) (mK 0) (pK 0) none 0 (ordB 0) from ⟨hblk, World.ownsRow_nil _ _ _ _⟩)
  have HBW := hid hbw
  clear hblk hbw hbz hgl
  generalize w.alloc (.cells (vals (fK 0) (mK 0) (pK 0) (.slice none 0 0)) 118) = W at HBK HBW ⊢
  generalize Value.agg (vals (fK 0) (mK 0) (pK 0) (.slice none 0 0)) = vagg
  generalize hg : w.heap.size = g at HBK HBW ⊢
  have HG := hid hg
  clear hg
  go_wp2_with fail
  go_loopw [2, 3] (fun co nn wr => ∃ (k : Nat) (A : Option Addr) (c : Nat), k ≤ 26 ∧ nn = .int .i64 ((5 + k : Nat) : Int) ∧ co = .int .i64 (firstC k) ∧ BookAt wr g (fK k) (mK k) (pK k) A c (ordB k) ∧ Below g w wr) (fun _ nn _ => 31 - (intOf nn).toNat)
  case atStart => exact ⟨0, none, 0, by omega, rfl, rfl, HBK.out, HBW.out⟩
  case round =>
    obtain ⟨k, A, c, hk, rfl, rfl, hbk, hb⟩ := hrel
    have HK := hid hbk
    have HB := hid hb
    have hol := ordB_le k
    clear hbk hb HBK HBW
    by_cases hk26 : k < 26
    · have hfc := first_all k (by omega)
      have hfc1 := first_all (k + 1) (by omega)
      have HFC1 := hid (show firstC (k + 1) = 2 * (firstC k + (signs (5 + k)).length) from rfl)
      have hsl := signs_le (5 + k)
      have HFS := hid (fK_succ k)
      have HMS := hid (mK_succ k)
      have HPS := hid (pK_succ k)
      have HOS := hid (ordB_succ k)
      have HFV := hid (show fK (k + 1) (5 + k) = firstC k by unfold fK; rw [if_pos (by omega), Nat.add_sub_cancel_left])
      have HPV := hid (show pK (k + 1) (5 + k) = (ordB k).length by unfold pK; rw [if_pos (by omega), Nat.add_sub_cancel_left])
      generalize hn : 5 + k = n at HFC1 hsl HFS HMS HPS HOS HFV HPV ⊢
      have hn5 : 5 ≤ n := by omega
      have hn30 : n ≤ 30 := by omega
      have HN := hid hn
      have c93 := HK.out.blk.cell 93
      have cf := HK.out.blk.cell n
      have cp := HK.out.blk.cell (62 + n)
      have ff := HK.out.blk.frozen n
      have fp := HK.out.blk.frozen (62 + n)
      rw [vals_o] at c93
      rw [vals_f (by omega)] at cf
      rw [vals_p (by omega)] at cp
      clear hn
      go_wp2_with fail
      (refine wp_mix ?_ ?_ ?_; (focus kernel_rfl); (focus kernel_rfl); intro KK hKK; go_wp2_with (first
            | (fail)
            | (with_reducible refine mix_nil ?_)
            | ((with_reducible refine mix_on ?_ ?_); (focus rfl); intro K hK; go_simp; (first | ((with_reducible refine hK _ _ ?_); clear hK K) | skip))
            | ((with_reducible refine mix_off ?_ ?_); (focus rfl); intro K hK; go_simp; (first | ((with_reducible refine hK _ _ ?_); clear hK K) | skip))
            | ((with_reducible refine mix_step ?_); intro K hK; go_simp; (first | ((with_reducible refine hK _ _ ?_); clear hK K) | skip))))
      have hVb := ((HK.out.blk.set_ n (.int .i64 (firstC k))).set_ (62 + n) (.int .i64 (ordB k).length)).drew
      rw [vals_set_f (by omega), vals_set_p (by omega), HFS.out, HPS.out] at hVb
      have hVt : Turned [g] wr (((wr.setCell ⟨g, n, none⟩ (.int .i64 (firstC k))).setCell ⟨g, 62 + n, none⟩ (.int .i64 (ordB k).length))).drew := (((Turned.refl [g] wr).setCell (p := ⟨g, n, none⟩) (by simp) _).setCell (p := ⟨g, 62 + n, none⟩) (by simp) _).drew
      generalize (((wr.setCell ⟨g, n, none⟩ (.int .i64 (firstC k))).setCell ⟨g, 62 + n, none⟩ (.int .i64 (ordB k).length))).drew = V at hVb hVt ⊢
      have HV := hid (show BookAt V g (fK (k + 1)) (mK k) (pK (k + 1)) A c (ordB k) from ⟨hVb, own_turned HK.out.own hVt (fun b hb hm => by have := (HK.out.own.lt b hb).1; simp at hm; omega)⟩)
      have HBV := hid (HB.out.trans (hVt.below (B := g) (by simp) (Nat.le_of_lt HK.out.blk.lt)))
      clear hVb hVt c93 cf cp ff fp HK HB
      go_loopw [27] (fun ss wv => ∃ (q : Nat) (A2 : Option Addr) (c2 : Nat), q ≤ 257 ∧ ss = .int .i64 q ∧ BookAt wv g (fK (k + 1)) (mK k) (pK (k + 1)) A2 c2 (ordB k ++ (List.range q).filter fun x => hl x == n) ∧ Below g w wv) (fun ss _ => 257 - (intOf ss).toNat)
      case atStart => exact ⟨0, A, c, by omega, rfl, by simpa using HV.out, HBV.out⟩
      case round =>
        obtain ⟨q, A2, c2, hq, rfl, hbk, hb⟩ := hrel
        have HK := hid hbk
        have HB := hid hb
        have HQS := hid (sign_take n q)
        have hfl : ((List.range q).filter fun x => hl x == n).length ≤ 257 := by
          have := List.length_filter_le (fun x => hl x == n) (List.range q)
          simp at this
          omega
        have hll : (ordB k ++ (List.range q).filter fun x => hl x == n).length = (ordB k).length + ((List.range q).filter fun x => hl x == n).length := List.length_append
        clear hbk hb HV HBV
        have c93 := HK.out.blk.cell 93
        rw [vals_o] at c93
        by_cases hq257 : q < 257
        · generalize hL : (ordB k ++ (List.range q).filter fun x => hl x == n) = L at HK c93 hll
          have HL := hid hL
          have hLn : L.length ≤ 10000 := by omega
          clear hL hll hfl
          by_cases hqn : hl q = n
          · have HQN := hid hqn
            have hown := hid HK.out.own
            have hgs : g + 1 ≤ wr.heap.size := HK.out.blk.lt
            go_wp2_with (first
              | (go_at_call 74; go_must (refine (bitsOf_any q wr hq257).mono ?_; rw [HQN.out]; rintro e w2 ⟨rfl, rfl⟩))
              | (at_builtin; go_loud (refine wpList_app _ rfl _ _ _ rfl (g + 1) 3 i0 _ 1 8 Tryd.underlying43 hi.out hz.out hsz.out hby.out rfl (by omega) _ L.length _ rfl (HK.out.own.alloc _) _ 1 1 _ rfl (rd_one rfl) (by simp [Value.oneCell']) (by omega) (by omega) (by simp; omega) ?_; intro A5 c5 w5 ho5 hg5 hc5; have HO5 := hid ho5; have HG5 := hid hg5; have HB5 := hid ((HK.out.blk.alloc _).grown hg5 (fun e => by have := (HK.out.own.lt g e.symm).1; omega)); have c93 := HB5.out.cell 93; rw [vals_o] at c93; have f93 := HB5.out.frozen 93; clear ho5 hg5 hc5)))
            have hT : Turned [g] w5 (w5.setCell ⟨g, 93, none⟩ (.slice A5 (L.length + 1) c5)) := (Turned.refl [g] w5).setCell (p := ⟨g, 93, none⟩) (by simp) _
            have hb2 := HB5.out.set_ 93 (.slice A5 (L.length + 1) c5)
            rw [vals_set_o] at hb2
            have HT := hid hT
            have HB2 := hid hb2
            clear hT hb2 c93 f93
            have HLE : Hid (ordB k ++ ((List.range (q + 1)).filter fun x => hl x == n) = L ++ [q]) := hid (by rw [HQS.out, if_pos HQN.out, ← List.append_assoc, HL.out])
            go_roundw
            case rel => exact ⟨q + 1, A5, c5, by omega, by go_num, by
              rw [HLE.out]
              refine ⟨by rw [List.length_append]; exact HB2.out, ?_⟩
              rw [List.length_append, ints_append]
              exact own_turned HO5.out HT.out (fun b hb hm => by have := (HO5.out.lt b hb).1; simp at hm; omega), (below_app (HB.out.alloc (by omega) _) (HK.out.own.alloc _) HG5.out (by omega) (by simp; omega)).trans (HT.out.below (B := g) (by simp) (by have := HB5.out.lt; omega))⟩
            case measure => simp [intOf]; omega
          · have HQN := hid hqn
            have hqb : (((hl q : Nat) : Int) == (n : Int)) = false := beq_eq_false_iff_ne.2 (by omega)
            clear hqn
            go_wp2_with (go_at_call 74; go_must (refine (bitsOf_any q wr hq257).mono ?_; rintro e w2 ⟨rfl, rfl⟩))
            have HLE : Hid (ordB k ++ ((List.range (q + 1)).filter fun x => hl x == n) = L) := hid (by rw [HQS.out, if_neg HQN.out, List.append_nil, HL.out])
            go_roundw
            case rel => exact ⟨q + 1, A2, c2, by omega, by go_num, by rw [HLE.out]; exact HK.out, HB.out⟩
            case measure => simp [intOf]; omega
        · obtain rfl : q = 257 := by omega
          have HSG : Hid (ordB k ++ ((List.range 257).filter fun x => hl x == n) = ordB (k + 1)) := hid (by rw [HOS.out]; rfl)
          have HSN : Hid (((List.range 257).filter fun x => hl x == n).length = (signs n).length) := hid rfl
          rw [HSG.out] at HK c93 hll
          rw [HSN.out] at hll hfl
          have cp := HK.out.blk.cell (62 + n)
          have cm := HK.out.blk.cell (31 + n)
          have fm := HK.out.blk.frozen (31 + n)
          rw [vals_p (by omega), HPV.out] at cp
          rw [vals_m (by omega)] at cm
          generalize hSL : (signs n).length = S at HFC1 HMS hll hfl
          generalize hOL : (ordB k).length = N at cp hll hol
          rw [hll] at c93
          have hs1 : IntKind.i64.wrap ((((N + S : Nat) : Int)) - (N : Int)) = (S : Int) := by rw [IntWalk.i64_in _ (by omega)]; omega
          go_wp2_with fail
          (refine wp_mix ?_ ?_ ?_; (focus kernel_rfl); (focus kernel_rfl); intro KK hKK; go_wp2_with (first
                | (fail)
                | (with_reducible refine mix_nil ?_)
                | ((with_reducible refine mix_on ?_ ?_); (focus rfl); intro K hK; go_simp; (first | ((with_reducible refine hK _ _ ?_); clear hK K) | skip))
                | ((with_reducible refine mix_off ?_ ?_); (focus rfl); intro K hK; go_simp; (first | ((with_reducible refine hK _ _ ?_); clear hK K) | skip))
                | ((with_reducible refine mix_step ?_); intro K hK; go_simp; (first | ((with_reducible refine hK _ _ ?_); clear hK K) | skip))))
          rw [show (N : Int) + (S : Int) - (N : Int) = (S : Int) by omega]
          have hVb := (HK.out.blk.set_ (31 + n) (.int .i64 (S : Int))).drew
          rw [vals_set_m (by omega), HMS.out] at hVb
          have hVt : Turned [g] wr (wr.setCell ⟨g, 31 + n, none⟩ (.int .i64 (S : Int))).drew := ((Turned.refl [g] wr).setCell (p := ⟨g, 31 + n, none⟩) (by simp) _).drew
          have HVB := hid hVb
          have HVT := hid hVt
          clear hVb hVt cp cm fm c93
          generalize (wr.setCell ⟨g, 31 + n, none⟩ (.int .i64 (S : Int))).drew = V2 at HVB HVT ⊢
          refine ⟨⟨k + 1, A2, c2, by omega, by have := HN.out; congr 1; omega, by rw [HFC1.out]; congr 1; omega, ⟨HVB.out, own_turned HK.out.own HVT.out (fun b hb hm => by have := (HK.out.own.lt b hb).1; simp at hm; omega)⟩, HB.out.trans (HVT.out.below (B := g) (by simp) (Nat.le_of_lt HK.out.blk.lt))⟩, by simp [intOf]; omega⟩
    · obtain rfl : k = 26 := by omega
      go_wp2_with fail
      go_ret
      rw [HG.out]
      exact ⟨A, c, rfl, HK.out, HB.out⟩
end Go.Proofs.YtjeocmglcgnclaaDoor

/- All codes: what codes and Code answer. No condition. -/
namespace Go.Proofs.YtjeocmglcgnclaaDoor
open Go.RowKit
attribute [local go_sem] kd kdS

theorem ord_len : (ordB 26).length = 257 := by decide +kernel
theorem hl_top : ∀ s, s < 257 → hl s ≤ 30 := by decide +kernel
theorem ord_at : ∀ i, i < 257 → (ordB 26).getD i 0 < 257 ∧ (ordB 26).idxOf ((ordB 26).getD i 0) = i := by decide +kernel
theorem ord_has : ∀ s, s < 257 → (ordB 26).idxOf s < 257 := by decide +kernel
/-- A sign's code. -/
def codeN (s : Nat) : Nat := firstC (hl s - 5) + (ordB 26).idxOf s - (ordB (hl s - 5)).length
theorem code_ge : ∀ s, s < 257 → (ordB (hl s - 5)).length ≤ firstC (hl s - 5) + (ordB 26).idxOf s ∧ codeN s < 2 ^ hl s := by decide +kernel
def cellsF (f : Nat → Int) : Array Value := ((List.range 257).map fun s => Value.int .i64 (f s)).toArray
theorem cellsF_at {f : Nat → Int} {j : Nat} (h : j < 257) : (cellsF f)[j]? = some (.int .i64 (f j)) := by
  unfold cellsF
  simp [List.getElem?_map, List.getElem?_range h]
theorem cellsF_set {f : Nat → Int} {j : Nat} {x : Int} : (cellsF f).setIfInBounds j (.int .i64 x) = cellsF (upd f j x) := by
  unfold cellsF
  rw [List.setIfInBounds_toArray, map_upd]
/-- The codes of the first i signs in order. -/
def cK (i : Nat) : Nat → Int := fun s => if (ordB 26).idxOf s < i then (codeN s : Int) else 0
theorem cK_zero : cellsF (cK 0) = (List.replicate 257 (Value.int .i64 0)).toArray := by
  unfold cellsF cK
  refine congrArg List.toArray (List.ext_getElem? fun i => ?_)
  rw [List.getElem?_map, List.getElem?_replicate]
  by_cases h : i < 257
  · rw [List.getElem?_range h, if_pos h]
    rfl
  · rw [if_neg h, List.getElem?_eq_none (by rw [List.length_range]; omega)]
    rfl
theorem cK_succ {i : Nat} (hi : i < 257) : upd (cK i) ((ordB 26).getD i 0) (codeN ((ordB 26).getD i 0)) = cK (i + 1) := by
  obtain ⟨h1, h2⟩ := ord_at i hi
  funext s
  unfold upd cK
  by_cases h : s = (ordB 26).getD i 0
  · subst h
    rw [if_pos rfl, if_pos (by omega)]
  · rw [if_neg h]
    by_cases h3 : (ordB 26).idxOf s < i
    · rw [if_pos h3, if_pos (by omega)]
    · rw [if_neg h3, if_neg]
      intro h4
      have h5 : (ordB 26).idxOf s = i := by omega
      apply h
      have hlt : (ordB 26).idxOf s < (ordB 26).length := by rw [ord_len]; omega
      rw [← h5, List.getD_eq_getElem?_getD, List.getElem?_eq_getElem hlt, Option.getD_some, List.getElem_idxOf hlt]
theorem cK_all : (List.range 257).map (fun s => Value.int .i64 (cK 257 s)) = (List.range 257).map fun s => Value.int .i64 (codeN s) := by
  apply List.map_congr_left
  intro s hs
  unfold cK
  rw [if_pos (ord_has s (by simpa using hs))]
theorem codes_make : ∀ w, (Instr.makeSlice 43 (.int .i64 257) (.int .i64 257)).run Tryd.prog w = .ok (.slice (some ⟨w.heap.size, 0, none⟩) 257 257) (w.alloc (.cells (List.replicate 257 (Value.int .i64 0)).toArray 3)) := fun _ => by kernel_rfl
/-- The codes lie at A. -/
def Cods (w : World) (A : Option Addr) : Prop := Rd w 1 A 257 ((List.range 257).map fun s => Value.int .i64 (codeN s))

set_option maxHeartbeats 2000000 in
set_option maxRecDepth 100000 in
theorem codes_any (g : Nat) (A : Option Addr) (c : Nat) (w : World) (h : BookAt w g (fK 26) (mK 26) (pK 26) A c (ordB 26)) :
    Calls Tryd.prog 76 #[.pointer (some ⟨g, 0, none⟩)] w fun e w' => ∃ A2, e = .returned (.slice A2 257 257) ∧ Cods w' A2 ∧ Below w.heap.size w w' := by
  have H := hid h
  have c93 := h.blk.cell 93
  rw [vals_o, ord_len] at c93
  have hmk := codes_make
  rw [← cK_zero] at hmk
  generalize hva : cellsF (cK 0) = va at hmk
  clear h
  go_enter Tryd.func76, Tryd.ntmps76
  go_upto_region 2 with fail
  subst hva
  have hblk : Blk (w.alloc (.cells (cellsF (cK 0)) 3)) w.heap.size 3 (cellsF (cK 0)) := Blk.new w _ _
  have hbw : Below w.heap.size w (w.alloc (.cells (cellsF (cK 0)) 3)) := (Below.refl _ _).alloc (Nat.le_refl _) _
  have hgl := H.out.blk.lt
  generalize w.alloc (.cells (cellsF (cK 0)) 3) = W at hblk hbw ⊢
  have HBK := hid hblk
  have HBW := hid hbw
  have HW := hid (H.out.below hbw)
  have c93 := HW.out.blk.cell 93
  rw [vals_o, ord_len] at c93
  clear hmk hblk hbw
  generalize hq : w.heap.size = q at HBK HBW hgl ⊢
  have HQ := hid hq
  clear hq
  go_wp2_with fail
  go_loopw [18] (fun co wr => ∃ k : Nat, k ≤ 257 ∧ co = .int .i64 (k : Int) ∧ Blk wr q 3 (cellsF (cK k)) ∧ Below q w wr) (fun co _ => 257 - (intOf co).toNat)
  case atStart => exact ⟨0, by omega, rfl, HBK.out, HBW.out⟩
  case round =>
    obtain ⟨k, hk, rfl, hbk, hb⟩ := hrel
    have HK := hid hbk
    have HB := hid hb
    clear hbk hb HBK HBW
    by_cases hk7 : k < 257
    · obtain ⟨hs7, hix⟩ := ord_at k hk7
      have HSU := hid (cK_succ hk7)
      have hBk : BookAt wr g (fK 26) (mK 26) (pK 26) A c (ordB 26) := H.out.below (by rw [HQ.out]; exact HB.out)
      have hrd := Rd.of_own hBk.own
      rw [ord_len] at hrd
      obtain ⟨bo, oo, rfl, hcell⟩ := hrd.2 (by omega)
      have hc1 : wr.cell? ⟨bo, oo + k, none⟩ = some (.int .i64 (((ordB 26).getD k 0 : Nat) : Int)) := by
        apply hcell
        unfold ints
        rw [List.getElem?_map, List.getD_eq_getElem?_getD, List.getElem?_eq_getElem (by rw [ord_len]; exact hk7)]
        rfl
      generalize (ordB 26).getD k 0 = s at hs7 hix HSU hc1
      have h5 := hl_le s
      have h30 := hl_top s hs7
      have hcg := code_ge s hs7
      have hp30 : 2 ^ hl s ≤ 2 ^ 30 := Nat.pow_le_pow_right (by omega) h30
      have cf := hBk.blk.cell (hl s)
      have cp := hBk.blk.cell (62 + hl s)
      rw [vals_f (by omega), show fK 26 (hl s) = (firstC (hl s - 5) : Int) from if_pos (by omega)] at cf
      rw [vals_p (by omega), show pK 26 (hl s) = ((ordB (hl s - 5)).length : Int) from if_pos (by omega)] at cp
      have cq := HK.out.cell s
      rw [cellsF_at hs7] at cq
      have fq := HK.out.frozen s
      have hfc := first_all (hl s - 5) (by omega)
      have hcn : ((firstC (hl s - 5) : Nat) : Int) + (k : Int) - ((ordB (hl s - 5)).length : Int) = (codeN s : Int) := by
        unfold codeN at hcg ⊢
        rw [hix] at hcg ⊢
        omega
      have hs2 : 2 ^ 30 = 1073741824 := by decide
      have hcl : codeN s < 1073741824 := by omega
      clear hcg hp30 hix hBk hrd hcell
      have HCN := hid hcn
      generalize hfe : firstC (hl s - 5) = F at cf hfc hcn
      generalize hpe : (ordB (hl s - 5)).length = PL at cp hcn
      generalize hce : codeN s = CN at HSU hcn hcl
      clear HCN hfe hpe hce
      generalize hnn : hl s = n at cf cp h5 h30
      have HN := hid hnn
      clear hnn
      have hw1 : IntKind.i64.wrap ((F : Int) + (k : Int)) = (F : Int) + (k : Int) := IntWalk.i64_in _ (by omega)
      have hw2 : IntKind.i64.wrap ((F : Int) + (k : Int) - (PL : Int)) = (CN : Int) := by rw [hcn]; exact IntWalk.i64_in _ (by omega)
      go_wp2_with (go_at_call 74; go_must (refine (bitsOf_any s wr hs7).mono ?_; rw [HN.out]; rintro e w2 ⟨rfl, rfl⟩))
      (refine wp_mix ?_ ?_ ?_; (focus kernel_rfl); (focus kernel_rfl); intro KK hKK; go_wp2_with (first
            | (fail)
            | (with_reducible refine mix_nil ?_)
            | ((with_reducible refine mix_on ?_ ?_); (focus rfl); intro K hK; go_simp; (first | ((with_reducible refine hK _ _ ?_); clear hK K) | skip))
            | ((with_reducible refine mix_off ?_ ?_); (focus rfl); intro K hK; go_simp; (first | ((with_reducible refine hK _ _ ?_); clear hK K) | skip))
            | ((with_reducible refine mix_step ?_); intro K hK; go_simp; (first | ((with_reducible refine hK _ _ ?_); clear hK K) | skip))))
      have hset := (HK.out.set_ s (.int .i64 (CN : Int))).drew
      rw [cellsF_set, HSU.out] at hset
      have hbl : Below q w (wr.setCell ⟨q, s, none⟩ (.int .i64 (CN : Int))).drew := (HB.out.setCell (p := ⟨q, s, none⟩) (Nat.le_refl _) _).drew
      exact ⟨⟨k + 1, by omega, rfl, hset, hbl⟩, by simp [intOf]; omega⟩
    · obtain rfl : k = 257 := by omega
      go_wp2_with fail
      go_ret
      refine ⟨_, rfl, ⟨by simp, fun _ => ⟨q, 0, rfl, fun j u hu => ?_⟩⟩, by rw [HQ.out]; exact HB.out⟩
      rw [← cK_all] at hu
      rw [Nat.zero_add, HK.out.cell j]
      unfold cellsF
      rw [List.getElem?_toArray]
      exact hu
theorem opened_calls (w : World) : Calls Tryd.prog 75 #[] w fun e w' => ∃ g A c, e = .returned (.pointer (some ⟨g, 0, none⟩)) ∧ g = w.heap.size ∧ BookAt w' g (fK 26) (mK 26) (pK 26) A c (ordB 26) ∧ Below w.heap.size w w' :=
  (opened_any w).mono fun _ _ h => by
    obtain ⟨A, c, h1, h2, h3⟩ := h
    exact ⟨_, A, c, h1, rfl, h2, h3⟩
/-- A book lies in block g. -/
def Book (w : World) (g : Nat) : Prop := ∃ A c, BookAt w g (fK 26) (mK 26) (pK 26) A c (ordB 26)
theorem Book.drew {w : World} {g : Nat} (h : Book w g) : Book w.drew g := by
  obtain ⟨A, c, h⟩ := h
  exact ⟨A, c, h.below (Below.refl _ _).drew⟩
theorem open_calls (w : World) : Calls Tryd.prog 75 #[] w fun e w' => ∃ g, e = .returned (.pointer (some ⟨g, 0, none⟩)) ∧ Book w' g ∧ Below w.heap.size w w' :=
  (opened_any w).mono fun _ _ h => by
    obtain ⟨A, c, h1, h2, h3⟩ := h
    exact ⟨_, h1, ⟨A, c, h2⟩, h3⟩
theorem codes_calls (g : Nat) (w : World) (h : Book w g) :
    Calls Tryd.prog 76 #[.pointer (some ⟨g, 0, none⟩)] w fun e w' => ∃ b o, e = .returned (.slice (some ⟨b, o, none⟩) 257 257) ∧ (∀ s, s < 257 → w'.cell? ⟨b, o + s, none⟩ = some (.int .i64 (codeN s))) ∧ Below w.heap.size w w' := by
  obtain ⟨A, c, h⟩ := h
  refine (codes_any g A c w h).mono ?_
  rintro e w' ⟨A2, rfl, hc, hb⟩
  obtain ⟨b, o, rfl, hat⟩ := hc.2 (by omega)
  refine ⟨b, o, rfl, fun s hs => hat s _ ?_, hb⟩
  rw [List.getElem?_map, List.getElem?_range hs]
  rfl
theorem bits_calls (s n : Nat) (w : World) (hs : s < 257) (hn : hl s = n) : Calls Tryd.prog 74 #[.int .i64 s] w fun e w' => e = .returned (.int .i64 n) ∧ w = w' := by
  subst hn
  exact bitsOf_any s w hs

end Go.Proofs.YtjeocmglcgnclaaDoor

/- What Bits answers. Condition: the row is no longer than 2^40. -/
namespace Go.Proofs.YtjeocmglcgnclaaDoor
open Go.RowKit
attribute [local go_sem] kd kdS

/-- The bits of a text. -/
def hbits (l : List UInt8) : Nat := (l.map fun c => hl c.toNat).sum
theorem hbits_le (l : List UInt8) : hbits l ≤ 36 * l.length := by
  induction l with
  | nil => simp [hbits]
  | cons c l ih =>
    have := (hl_le c.toNat).2
    simp only [hbits, List.map_cons, List.sum_cons, List.length_cons] at ih ⊢
    omega
theorem hbits_take (l : List UInt8) (k : Nat) (h : k < l.length) : hbits (l.take (k + 1)) = hbits (l.take k) + hl (l[k]'h).toNat := by
  rw [List.take_succ_eq_append_getElem h]
  unfold hbits
  rw [List.map_append, List.sum_append]
  simp only [List.map_cons, List.map_nil, List.sum_cons, List.sum_nil, Nat.add_zero]

set_option maxHeartbeats 1000000 in
set_option maxRecDepth 100000 in
theorem Bits_any (A : Option Addr) (n c : Nat) (l : List UInt8) (w : World) (h : Bs w A n l) (hn : n ≤ 1099511627776) :
    Calls Tryd.prog 61 #[.slice A n c] w fun e w' => e = .returned (.int .i64 (hbits l)) ∧ w = w' := by
  have hlen := h.len
  have H := hid h
  have hw := hid (rfl : w = w)
  clear h
  go_enter Tryd.func61, Tryd.ntmps61
  go_wp2_with fail
  go_loopw [3, 8] (fun nn co wr => ∃ k : Nat, k ≤ n ∧ co = .int .i64 (k : Int) ∧ nn = .int .i64 (hbits (l.take k) : Nat) ∧ w = wr) (fun _ co _ => n - (intOf co).toNat)
  case atStart => exact ⟨0, by omega, rfl, rfl, rfl⟩
  case round =>
    obtain ⟨k, hk, rfl, rfl, rfl⟩ := hrel
    have hle := hbits_le (l.take k)
    have hlt : (l.take k).length ≤ k := by rw [List.length_take]; exact Nat.min_le_left _ _
    by_cases hkn : k < n
    · obtain ⟨b, o, rfl, hc⟩ := H.out.2 (by omega)
      have hc1 : w.cell? ⟨b, o + k, none⟩ = some (.int .u8 ((l[k]'(by omega)).toNat : Int)) := hc k _ (by rw [List.getElem?_map, List.getElem?_eq_getElem (by omega)]; rfl)
      have HT := hid (hbits_take l k (by omega))
      have hx := (l[k]'(by omega)).toNat_lt
      generalize (l[k]'(by omega)).toNat = x at hc1 HT hx
      have hx2 : x < 256 := hx
      have hwx : IntKind.i64.wrap (x : Int) = (x : Int) := IntWalk.i64_in _ (by omega)
      have hln := hl_le x
      generalize hne : hl x = m at HT hln
      have HNE := hid hne
      generalize hqe : hbits (l.take k) = q at HT hle
      have HQ := hid hqe
      clear hne hqe hx hc
      go_wp2_with (go_at_call 74; go_must (refine (bits_calls x m _ (by omega) HNE.out).mono ?_; rintro e w3 ⟨rfl, rfl⟩))
      go_roundw
      case rel => exact ⟨k + 1, by omega, by go_num, by rw [HT.out]; go_num, by trivial⟩
      case measure => simp [intOf]; omega
    · obtain rfl : k = n := by omega
      go_wp2_with fail
      go_ret
      exact ⟨by rw [List.take_of_length_le (by omega)]; rfl, by trivial⟩
end Go.Proofs.YtjeocmglcgnclaaDoor

/- Bits: lists of them. No program in sight. -/
namespace Go.Proofs.YtjeocmglcgnclaaDoor
open Go.RowKit

/-- The low n bits of v, the highest first. -/
def lowb (n v : Nat) : List Bool := (List.range n).map fun i => v.testBit (n - 1 - i)
theorem lowb_len (n v : Nat) : (lowb n v).length = n := by simp [lowb]
theorem lowb_get {n v i : Nat} (h : i < n) : (lowb n v)[i]? = some (v.testBit (n - 1 - i)) := by
  unfold lowb
  rw [List.getElem?_map, List.getElem?_range h]
  rfl
theorem lowb_ext {n : Nat} {l : List Bool} {v : Nat} (hl : l.length = n) (h : ∀ i, i < n → l[i]? = some (v.testBit (n - 1 - i))) : l = lowb n v := by
  apply List.ext_getElem?
  intro i
  by_cases hi : i < n
  · rw [h i hi, lowb_get hi]
  · rw [List.getElem?_eq_none (by omega), List.getElem?_eq_none (by rw [lowb_len]; omega)]
theorem lowb_add (n m v : Nat) : lowb (n + m) v = lowb n (v >>> m) ++ lowb m v := by
  symm
  apply lowb_ext (by rw [List.length_append, lowb_len, lowb_len])
  intro i hi
  by_cases h : i < n
  · rw [List.getElem?_append_left (by rw [lowb_len]; exact h), lowb_get h, Nat.testBit_shiftRight]
    congr 2
    omega
  · rw [List.getElem?_append_right (by rw [lowb_len]; omega), lowb_len, lowb_get (by omega)]
    congr 2
    omega
theorem lowb_mod {n k v : Nat} (h : n ≤ k) : lowb n (v % 2 ^ k) = lowb n v := by
  apply (lowb_ext (lowb_len _ _) ?_)
  intro i hi
  rw [lowb_get hi, Nat.testBit_mod_two_pow]
  congr 1
  simp
  omega
theorem lowb_same {n v u : Nat} (h : ∀ i, i < n → v.testBit i = u.testBit i) : lowb n v = lowb n u := by
  apply lowb_ext (lowb_len _ _)
  intro i hi
  rw [lowb_get hi, h _ (by omega)]
theorem lowb_put {n k h c : Nat} (hc : c < 2 ^ k) : lowb (n + k) (h <<< k ||| c) = lowb n h ++ lowb k c := by
  rw [lowb_add]
  congr 1
  · apply lowb_same
    intro i _
    rw [Nat.testBit_shiftRight, Nat.testBit_or, Nat.testBit_shiftLeft, Nat.testBit_lt_two_pow (Nat.lt_of_lt_of_le hc (Nat.pow_le_pow_right (by omega) (by omega)))]
    simp
  · apply lowb_same
    intro i hi
    rw [Nat.testBit_or, Nat.testBit_shiftLeft]
    simp
    omega
theorem lowb_ones (n : Nat) : lowb n (2 ^ n - 1) = List.replicate n true := by
  symm
  apply lowb_ext (by simp)
  intro i hi
  rw [List.getElem?_replicate, if_pos hi, Nat.testBit_two_pow_sub_one]
  congr 1
  simp
  omega
/-- The bits of bytes. -/
def bitsB (o : List UInt8) : List Bool := o.flatMap fun c => lowb 8 c.toNat
theorem bitsB_len (o : List UInt8) : (bitsB o).length = 8 * o.length := by
  induction o with
  | nil => rfl
  | cons c o ih =>
    unfold bitsB at ih ⊢
    rw [List.flatMap_cons, List.length_append, ih, lowb_len, List.length_cons]
    omega
theorem bitsB_append (a b : List UInt8) : bitsB (a ++ b) = bitsB a ++ bitsB b := by simp [bitsB]
theorem bitsB_one (c : UInt8) : bitsB [c] = lowb 8 c.toNat := by simp [bitsB]
/-- The bits of a sign's code, and of a text. -/
def cb (s : Nat) : List Bool := lowb (hl s) (codeN s)
def bitsL (l : List UInt8) : List Bool := l.flatMap fun c => cb c.toNat
theorem bitsL_len (l : List UInt8) : (bitsL l).length = hbits l := by
  induction l with
  | nil => rfl
  | cons c l ih =>
    unfold bitsL hbits at ih ⊢
    rw [List.flatMap_cons, List.length_append, ih, List.map_cons, List.sum_cons]
    congr 1
    exact lowb_len _ _
theorem bitsL_append (a b : List UInt8) : bitsL (a ++ b) = bitsL a ++ bitsL b := by simp [bitsL]
theorem bitsL_take (l : List UInt8) (k : Nat) (h : k < l.length) : bitsL (l.take (k + 1)) = bitsL (l.take k) ++ cb (l[k]'h).toNat := by
  rw [List.take_succ_eq_append_getElem h, bitsL_append]
  unfold bitsL
  rw [List.flatMap_cons, List.flatMap_nil, List.append_nil]
theorem u64_wrap (v : Nat) : IntKind.u64.wrap (v : Int) = ((v % 2 ^ 64 : Nat) : Int) := by
  unfold IntKind.wrap
  simp [IntKind.bits, IntKind.signed]
theorem bor_u64 {a b : Nat} (ha : a < 2 ^ 64) (hb : b < 2 ^ 64) : bits .or .u64 (a : Int) (b : Int) = ((a ||| b : Nat) : Int) := by
  have h : bits .or .u64 (a : Int) (b : Int) = IntKind.u64.wrap ((a ||| b : Nat) : Int) := by
    show IntKind.u64.wrap ((BitVec.ofInt 64 (a : Int) ||| BitVec.ofInt 64 (b : Int)).toNat : Int) = _
    rw [BitVec.toNat_or, BitVec.ofInt_natCast, BitVec.ofInt_natCast, BitVec.toNat_ofNat, BitVec.toNat_ofNat, Nat.mod_eq_of_lt ha, Nat.mod_eq_of_lt hb]
  rw [h, u64_wrap, Nat.mod_eq_of_lt (Nat.or_lt_two_pow ha hb)]
theorem held_put {hv c z : Nat} (hc : c < 2 ^ 64) : bits .or .u64 (IntKind.u64.wrap ((hv : Int) * 2 ^ z)) (IntKind.u64.wrap (c : Int)) = (((hv <<< z) % 2 ^ 64 ||| c : Nat) : Int) := by
  rw [show (hv : Int) * 2 ^ z = ((hv <<< z : Nat) : Int) by rw [Nat.shiftLeft_eq]; push_cast; rfl, u64_wrap, u64_wrap, Nat.mod_eq_of_lt hc]
  exact bor_u64 (Nat.mod_lt _ (by decide)) hc
theorem held_bits {hv c z m : Nat} (hc : c < 2 ^ z) (hz : m + z ≤ 64) : lowb (m + z) ((hv <<< z) % 2 ^ 64 ||| c) = lowb m hv ++ lowb z c := by
  rw [← lowb_put hc]
  apply lowb_same
  intro i hi
  rw [Nat.testBit_or, Nat.testBit_or, Nat.testBit_mod_two_pow, decide_eq_true (show i < 64 by omega), Bool.true_and]
theorem held_lt {hv c z : Nat} (hc : c < 2 ^ 64) : (hv <<< z) % 2 ^ 64 ||| c < 2 ^ 64 := Nat.or_lt_two_pow (Nat.mod_lt _ (by decide)) hc
theorem byte_val (h m : Nat) : Value.int .u8 ((h : Int) / 2 ^ m % 256) = bv (UInt8.ofNat (h / 2 ^ m)) := by
  have e : (h : Int) / 2 ^ m % 256 = ((h / 2 ^ m % 256 : Nat) : Int) := by
    rw [show (2 : Int) ^ m = ((2 ^ m : Nat) : Int) by rw [Int.natCast_pow]; rfl]
    generalize 2 ^ m = q
    rw [← Int.natCast_ediv]
    omega
  rw [e]
  unfold bv
  rw [UInt8.toNat_ofNat']
theorem byte_bits (h m : Nat) : lowb (m + 8) h = lowb 8 (UInt8.ofNat (h / 2 ^ m)).toNat ++ lowb m h := by
  rw [Nat.add_comm, lowb_add, UInt8.toNat_ofNat', lowb_mod (Nat.le_refl 8), Nat.shiftRight_eq_div_pow]
theorem u8_wrap (v : Nat) : IntKind.u8.wrap (v : Int) = ((v % 2 ^ 8 : Nat) : Int) := by
  unfold IntKind.wrap
  simp [IntKind.bits, IntKind.signed]
theorem last_val {hv r : Nat} (hr : r ≤ 8) : Value.int .u8 (IntKind.u8.wrap (bits .or .u64 (IntKind.u64.wrap ((hv : Int) * 2 ^ r)) (IntKind.u64.wrap (IntKind.u64.wrap (2 ^ r) - 1)))) = bv (UInt8.ofNat ((hv <<< r) % 2 ^ 64 ||| (2 ^ r - 1))) := by
  have h1 : 2 ^ r ≤ 2 ^ 8 := Nat.pow_le_pow_right (by omega) hr
  have h0 : 0 < 2 ^ r := Nat.pow_pos (by omega)
  have h2 : 2 ^ r - 1 < 2 ^ 64 := Nat.lt_of_lt_of_le (show 2 ^ r - 1 < 2 ^ 8 by omega) (by decide)
  have e : IntKind.u64.wrap ((2 : Int) ^ r) - 1 = ((2 ^ r - 1 : Nat) : Int) := by
    rw [show (2 : Int) ^ r = ((2 ^ r : Nat) : Int) by rw [Int.natCast_pow]; rfl, u64_wrap, Nat.mod_eq_of_lt (Nat.lt_of_le_of_lt h1 (by decide))]
    omega
  rw [e, held_put h2, u8_wrap]
  unfold bv
  rw [UInt8.toNat_ofNat']
theorem last_bits {hv m : Nat} (hm : m ≤ 8) : lowb 8 (UInt8.ofNat ((hv <<< (8 - m)) % 2 ^ 64 ||| (2 ^ (8 - m) - 1))).toNat = lowb m hv ++ List.replicate (8 - m) true := by
  rw [UInt8.toNat_ofNat', lowb_mod (Nat.le_refl 8)]
  have h0 : 0 < 2 ^ (8 - m) := Nat.pow_pos (by omega)
  have h := held_bits (hv := hv) (c := 2 ^ (8 - m) - 1) (z := 8 - m) (m := m) (by omega) (by omega)
  rw [show m + (8 - m) = 8 by omega, lowb_ones] at h
  exact h
end Go.Proofs.YtjeocmglcgnclaaDoor

/- What Decode computes: plain. -/
namespace Go.Proofs.YtjeocmglcgnclaaDoor
open Go.RowKit

/-- How many codes have n bits, and the first of them. -/
def many (n : Nat) : Nat := (signs n).length
def first (n : Nat) : Nat := firstC (n - 5)
/-- The sign whose code is the n bits c, if any. -/
def decS (n c : Nat) : Option Nat :=
  if 5 ≤ n ∧ first n ≤ c ∧ c < first n + many n then some ((ordB 26).getD ((ordB (n - 5)).length + c - first n) 0) else none
/-- The text, and the errno; c: the last n bits. -/
def dec (most : Int) : List Bool → Nat → Nat → List UInt8 → List UInt8 × Nat
  | [], c, n, o => if n ≤ 7 ∧ c = 2 ^ n - 1 then (o, 0) else ([], 2)
  | b :: t, c, n, o =>
    match decS (n + 1) (2 * c + b.toNat) with
    | none => dec most t (2 * c + b.toNat) (n + 1) o
    | some s => if s = 256 then ([], 2) else if most ≤ (o.length : Int) then ([], 3) else dec most t 0 0 (o ++ [UInt8.ofNat s])
/-- n bits that are no code, and none of whose beginnings is one. -/
def Inv (n c : Nat) : Prop := n ≤ 29 ∧ c < 2 ^ n ∧ (5 ≤ n → first n + many n ≤ c)
theorem inv_zero : Inv 0 0 := ⟨by omega, by omega, by omega⟩
theorem first_next : ∀ n, n < 30 → 4 ≤ n → first (n + 1) ≤ 2 * (first n + many n) := by decide +kernel
theorem kraft : first 30 + many 30 = 2 ^ 30 := by decide +kernel
theorem first_5 : first 5 = 0 := rfl
theorem inv_step {n c : Nat} {b : Bool} (h : Inv n c) (hd : decS (n + 1) (2 * c + b.toNat) = none) : Inv (n + 1) (2 * c + b.toNat) := by
  obtain ⟨h1, h2, h3⟩ := h
  have hb : b.toNat ≤ 1 := by cases b <;> decide
  have hp : 2 ^ (n + 1) = 2 * 2 ^ n := by rw [Nat.pow_succ]; omega
  have hlt : 2 * c + b.toNat < 2 ^ (n + 1) := by omega
  have hge : 5 ≤ n + 1 → first (n + 1) + many (n + 1) ≤ 2 * c + b.toNat := by
    intro h5
    have hf : first (n + 1) ≤ 2 * c + b.toNat := by
      by_cases h4 : n = 4
      · subst h4
        rw [first_5]
        omega
      · have := first_next n (by omega) (by omega)
        have := h3 (by omega)
        omega
    unfold decS at hd
    split at hd
    · simp at hd
    · omega
  refine ⟨?_, hlt, hge⟩
  by_cases h29 : n + 1 ≤ 29
  · exact h29
  · obtain rfl : n = 29 := by omega
    have hge2 : first 30 + many 30 ≤ 2 * c + b.toNat := hge (by omega)
    have hk := kraft
    omega
/-- A look-up that finds lies within the order. -/
theorem dec_in : ∀ n, n < 31 → 5 ≤ n → (ordB (n - 5)).length + many n ≤ 257 := by decide +kernel
theorem dec_first (most : Int) (b : Bool) (t : List Bool) (c n : Nat) (o : List UInt8) (h : decS (n + 1) (2 * c + b.toNat) = none) : dec most (b :: t) c n o = dec most t (2 * c + b.toNat) (n + 1) o := by
  simp only [dec, h]
theorem dec_some (most : Int) (b : Bool) (t : List Bool) (c n s : Nat) (o : List UInt8) (h : decS (n + 1) (2 * c + b.toNat) = some s) :
    dec most (b :: t) c n o = if s = 256 then ([], 2) else if most ≤ (o.length : Int) then ([], 3) else dec most t 0 0 (o ++ [UInt8.ofNat s]) := by
  simp only [dec, h]
/-- A bit of bytes. -/
theorem bitsB_at (l : List UInt8) (k : Nat) (h : k < 8 * l.length) : (bitsB l)[k]? = some ((l[k / 8]'(by omega)).toNat.testBit (7 - k % 8)) := by
  induction l generalizing k with
  | nil => simp at h
  | cons x l ih =>
    unfold bitsB at ih ⊢
    rw [List.flatMap_cons]
    by_cases hk : k < 8
    · rw [List.getElem?_append_left (by rw [lowb_len]; exact hk), lowb_get hk]
      have h0 : k / 8 = 0 := by omega
      simp only [h0, List.getElem_cons_zero]
      rw [Nat.mod_eq_of_lt hk]
    · rw [List.getElem?_append_right (by rw [lowb_len]; omega), lowb_len, ih (k - 8) (by simp at h; omega)]
      have h1 : k / 8 = (k - 8) / 8 + 1 := by omega
      have h2 : (k - 8) % 8 = k % 8 := by omega
      simp only [h1, List.getElem_cons_succ, h2]
theorem bit_get {x p : Nat} : bits .and .u8 ((x : Int) / 2 ^ p) 1 = ((x.testBit p).toNat : Int) := by
  have e : (x : Int) / 2 ^ p = ((x / 2 ^ p : Nat) : Int) := by
    rw [show (2 : Int) ^ p = ((2 ^ p : Nat) : Int) by rw [Int.natCast_pow]; rfl]
    exact (Int.natCast_ediv _ _).symm
  rw [e, Nat.testBit_eq_decide_div_mod_eq]
  generalize x / 2 ^ p = y
  have h : bits .and .u8 (y : Int) 1 = IntKind.u8.wrap (((y % 2 ^ 8) &&& 1 : Nat) : Int) := by
    show IntKind.u8.wrap ((BitVec.ofInt 8 (y : Int) &&& BitVec.ofInt 8 ((1 : Nat) : Int)).toNat : Int) = _
    rw [BitVec.toNat_and, BitVec.ofInt_natCast, BitVec.ofInt_natCast, BitVec.toNat_ofNat, BitVec.toNat_ofNat]
  rw [h, Nat.and_one_is_mod, u8_wrap]
  by_cases h1 : y % 2 = 1
  · rw [decide_eq_true h1]
    simp only [Bool.toNat_true]
    omega
  · rw [decide_eq_false h1]
    simp only [Bool.toNat_false]
    omega
theorem bit_put {c : Nat} {b : Bool} (hc : c < 536870912) : bits .or .i64 ((c : Int) * 2) (IntKind.i64.wrap (b.toNat : Int)) = ((2 * c + b.toNat : Nat) : Int) := by
  have hb : b.toNat ≤ 1 := by cases b <;> decide
  rw [IntWalk.i64_in _ (by omega), show (c : Int) * 2 = ((2 * c : Nat) : Int) by omega]
  have h : bits .or .i64 ((2 * c : Nat) : Int) (b.toNat : Int) = IntKind.i64.wrap ((2 * c ||| b.toNat : Nat) : Int) := by
    show IntKind.i64.wrap ((BitVec.ofInt 64 ((2 * c : Nat) : Int) ||| BitVec.ofInt 64 (b.toNat : Int)).toNat : Int) = _
    rw [BitVec.toNat_or, BitVec.ofInt_natCast, BitVec.ofInt_natCast, BitVec.toNat_ofNat, BitVec.toNat_ofNat, Nat.mod_eq_of_lt (show 2 * c < 2 ^ 64 by omega), Nat.mod_eq_of_lt (show b.toNat < 2 ^ 64 by omega)]
  have h2 := Nat.two_pow_add_eq_or_of_lt (i := 1) (b := b.toNat) (by omega) c
  rw [Nat.pow_one] at h2
  rw [h, ← h2]
  exact IntWalk.i64_in _ (by omega)
theorem bit_put' {c : Nat} {b : Bool} (hc : c < 536870912) : bits .or .i64 ((c : Int) * 2) (wrap64 (b.toNat : Int)) = ((2 * c + b.toNat : Nat) : Int) := by
  rw [show wrap64 (b.toNat : Int) = IntKind.i64.wrap (b.toNat : Int) by
    have hb : b.toNat ≤ 1 := by cases b <;> decide
    rw [IntWalk.i64_in _ (by omega), IntWalk.wrap64_in _ (by omega)]]
  exact bit_put hc
end Go.Proofs.YtjeocmglcgnclaaDoor

/- Decode of what Encode wrote: plain. -/
namespace Go.Proofs.YtjeocmglcgnclaaDoor
open Go.RowKit

theorem ord_sign : ∀ s, s < 257 → (ordB (hl s - 5)).length ≤ (ordB 26).idxOf s ∧ (ordB 26).idxOf s < (ordB (hl s - 5)).length + many (hl s) ∧ (ordB 26).getD ((ordB 26).idxOf s) 0 = s := by decide +kernel
theorem first_succ (n : Nat) (h : 5 ≤ n) : first (n + 1) = 2 * (first n + many n) := by
  unfold first many
  obtain ⟨k, rfl⟩ : ∃ k, n = 5 + k := ⟨n - 5, by omega⟩
  rw [show 5 + k + 1 - 5 = k + 1 by omega, show 5 + k - 5 = k by omega]
  rfl
/-- Above the codes of n bits, also when bits are cut off. -/
theorem cut_ge (v k : Nat) (h5 : 5 ≤ k) : ∀ j, first (k + j + 1) ≤ v → first k + many k ≤ v >>> (j + 1) := by
  intro j
  induction j generalizing v with
  | zero =>
    intro h
    rw [Nat.add_zero, first_succ k h5] at h
    rw [Nat.shiftRight_eq_div_pow]
    omega
  | succ j ih =>
    intro h
    have h2 := first_succ (k + (j + 1)) (by omega)
    rw [h2] at h
    have h3 := ih (v / 2) (by rw [show k + j + 1 = k + (j + 1) by omega]; omega)
    rw [Nat.shiftRight_eq_div_pow] at h3 ⊢
    rw [Nat.div_div_eq_div_mul, ← Nat.pow_succ'] at h3
    exact h3
theorem code_first {s : Nat} (hs : s < 257) : first (hl s) ≤ codeN s ∧ codeN s < first (hl s) + many (hl s) ∧ (ordB (hl s - 5)).length + codeN s - first (hl s) = (ordB 26).idxOf s := by
  obtain ⟨h1, h2, _⟩ := ord_sign s hs
  unfold codeN first
  omega
theorem full_some {s : Nat} (hs : s < 257) : decS (hl s) (codeN s) = some s := by
  obtain ⟨h1, h2, h3⟩ := code_first hs
  unfold decS
  rw [if_pos ⟨(hl_le s).1, h1, h2⟩, h3, (ord_sign s hs).2.2]
theorem pre_none {s k j : Nat} (hs : s < 257) (hk : k + (j + 1) = hl s) : decS k (codeN s >>> (j + 1)) = none := by
  unfold decS
  rw [if_neg]
  rintro ⟨h5, h1, h2⟩
  have := cut_ge (codeN s) k h5 j (by rw [show k + j + 1 = hl s by omega]; exact (code_first hs).1)
  omega
theorem lowb_succ (j v : Nat) : lowb (j + 1) v = v.testBit j :: lowb j v := by
  rw [Nat.add_comm, lowb_add]
  simp [lowb]
theorem shift_bit (v j : Nat) : 2 * (v >>> (j + 1)) + (v.testBit j).toNat = v >>> j := by
  rw [Nat.shiftRight_eq_div_pow, Nat.shiftRight_eq_div_pow, Nat.testBit_eq_decide_div_mod_eq, Nat.pow_succ, ← Nat.div_div_eq_div_mul]
  generalize v / 2 ^ j = y
  by_cases h1 : y % 2 = 1
  · rw [decide_eq_true h1]
    simp only [Bool.toNat_true]
    omega
  · rw [decide_eq_false h1]
    simp only [Bool.toNat_false]
    omega
theorem dec_run (most : Int) (t : List Bool) (o : List UInt8) {s : Nat} (hs : s < 257) : ∀ j k, k + (j + 1) = hl s →
    dec most (lowb (j + 1) (codeN s) ++ t) (codeN s >>> (j + 1)) k o = if s = 256 then ([], 2) else if most ≤ (o.length : Int) then ([], 3) else dec most t 0 0 (o ++ [UInt8.ofNat s]) := by
  intro j
  induction j with
  | zero =>
    intro k hk
    rw [lowb_succ, List.cons_append, dec_some _ _ _ _ _ s _ (by rw [shift_bit, Nat.shiftRight_zero, show k + 1 = hl s by omega]; exact full_some hs)]
    rfl
  | succ j ih =>
    intro k hk
    rw [lowb_succ, List.cons_append, dec_first _ _ _ _ _ _ (by rw [shift_bit]; exact pre_none hs (by omega)), shift_bit]
    exact ih (k + 1) (by omega)
theorem dec_sign (most : Int) (t : List Bool) (o : List UInt8) {s : Nat} (hs : s < 257) :
    dec most (cb s ++ t) 0 0 o = if s = 256 then ([], 2) else if most ≤ (o.length : Int) then ([], 3) else dec most t 0 0 (o ++ [UInt8.ofNat s]) := by
  have h5 := (hl_le s).1
  have hc := (code_ge s hs).2
  obtain ⟨j, hj⟩ : ∃ j, hl s = j + 1 := ⟨hl s - 1, by omega⟩
  have h := dec_run most t o hs j 0 (by omega)
  rw [hj] at hc
  rw [Nat.shiftRight_eq_div_pow, Nat.div_eq_of_lt hc] at h
  unfold cb
  rw [hj]
  exact h
theorem bitsL_cons (c : UInt8) (l : List UInt8) : bitsL (c :: l) = cb c.toNat ++ bitsL l := by
  unfold bitsL
  rw [List.flatMap_cons]
theorem dec_byte (most : Int) (t : List Bool) (o : List UInt8) (c : UInt8) :
    dec most (cb c.toNat ++ t) 0 0 o = if most ≤ (o.length : Int) then ([], 3) else dec most t 0 0 (o ++ [c]) := by
  have := c.toNat_lt
  rw [dec_sign most t o (by omega), if_neg (by omega), UInt8.ofNat_toNat]
/-- A text with room is read whole. -/
theorem dec_text (most : Int) (t : List Bool) : ∀ (l o : List UInt8), ((o.length + l.length : Nat) : Int) ≤ most → dec most (bitsL l ++ t) 0 0 o = dec most t 0 0 (o ++ l) := by
  intro l
  induction l with
  | nil =>
    intro o _
    rw [List.append_nil]
    rfl
  | cons c l ih =>
    intro o h
    rw [List.length_cons] at h
    rw [bitsL_cons, List.append_assoc, dec_byte, if_neg (by omega), ih _ (by rw [List.length_append, List.length_singleton]; omega), List.append_assoc]
    rfl
/-- A text without room is too long. -/
theorem dec_long (most : Int) (t : List Bool) : ∀ (l o : List UInt8), (o.length : Int) ≤ most → most < ((o.length + l.length : Nat) : Int) → dec most (bitsL l ++ t) 0 0 o = ([], 3) := by
  intro l
  induction l with
  | nil =>
    intro o h1 h2
    simp at h2
    omega
  | cons c l ih =>
    intro o h1 h2
    rw [List.length_cons] at h2
    rw [bitsL_cons, List.append_assoc, dec_byte]
    by_cases h : most ≤ (o.length : Int)
    · rw [if_pos h]
    · rw [if_neg h]
      exact ih _ (by rw [List.length_append, List.length_singleton]; omega) (by rw [List.length_append, List.length_singleton]; omega)
theorem ones_gap : ∀ n, n < 30 → 5 ≤ n → first n + many n ≤ 2 ^ n - 1 := by decide +kernel
theorem hones_none {n : Nat} (h : n < 30) : decS n (2 ^ n - 1) = none := by
  unfold decS
  rw [if_neg]
  rintro ⟨h5, h1, h2⟩
  have := ones_gap n h h5
  omega
theorem dec_ones_few (most : Int) (o : List UInt8) : ∀ p k, k + p < 30 → dec most (List.replicate p true) (2 ^ k - 1) k o = if k + p ≤ 7 then (o, 0) else ([], 2) := by
  intro p
  induction p with
  | zero =>
    intro k h
    simp only [List.replicate_zero, dec, Nat.add_zero]
    by_cases h7 : k ≤ 7
    · rw [if_pos ⟨h7, trivial⟩, if_pos h7]
    · rw [if_neg (fun h => h7 h.1), if_neg h7]
  | succ p ih =>
    intro k h
    have e : 2 * (2 ^ k - 1) + true.toNat = 2 ^ (k + 1) - 1 := by
      have h0 : 0 < 2 ^ k := Nat.pow_pos (by omega)
      rw [Nat.pow_succ, Bool.toNat_true]
      omega
    rw [List.replicate_succ, dec_first _ _ _ _ _ _ (by rw [e]; exact hones_none (by omega)), e, ih (k + 1) (by omega), show k + 1 + p = k + (p + 1) by omega]
theorem end_code : cb 256 = List.replicate 30 true := by decide +kernel
/-- Ones behind: up to seven are padding. -/
theorem dec_ones (most : Int) (o : List UInt8) (p : Nat) : dec most (List.replicate p true) 0 0 o = if p ≤ 7 then (o, 0) else ([], 2) := by
  by_cases h : p < 30
  · have := dec_ones_few most o p 0 (by omega)
    rw [Nat.zero_add] at this
    exact this
  · obtain ⟨q, rfl⟩ : ∃ q, p = 30 + q := ⟨p - 30, by omega⟩
    rw [← List.replicate_append_replicate, ← end_code, dec_sign most _ o (by omega), if_pos rfl, if_neg (by omega)]
/-- What Decode answers for what Encode wrote, with ones behind. -/
theorem dec_back (most : Int) (l : List UInt8) (p : Nat) (h : (l.length : Int) ≤ most) : dec most (bitsL l ++ List.replicate p true) 0 0 [] = if p ≤ 7 then (l, 0) else ([], 2) := by
  rw [dec_text _ _ _ _ (by simpa using h), dec_ones]
  rfl
theorem dec_over (most : Int) (l : List UInt8) (t : List Bool) (h0 : 0 ≤ most) (h : most < (l.length : Int)) : dec most (bitsL l ++ t) 0 0 [] = ([], 3) :=
  dec_long most t l [] (by simpa using h0) (by simpa using h)
theorem enc_len {o l : List UInt8} {p : Nat} (h : bitsB o = bitsL l ++ List.replicate p true) (hp : p ≤ 7) : o.length = (hbits l + 7) / 8 := by
  have := congrArg List.length h
  rw [bitsB_len, List.length_append, bitsL_len, List.length_replicate] at this
  omega
theorem byte_ones : bitsB [255] = List.replicate 8 true := by decide +kernel
theorem byte_four : bitsB [255, 255, 255, 255] = List.replicate 32 true := by decide +kernel
theorem hbits_append (a b : List UInt8) : hbits (a ++ b) = hbits a + hbits b := by
  unfold hbits
  rw [List.map_append, List.sum_append]
/-- No code begins another one. -/
theorem no_begin {x y : Nat} (hx : x < 257) (hy : y < 257) (hxy : x ≠ y) (h : hl x ≤ hl y) : codeN y >>> (hl y - hl x) ≠ codeN x := by
  obtain ⟨a1, a2, a3⟩ := code_first hx
  obtain ⟨b1, b2, b3⟩ := code_first hy
  by_cases he : hl x = hl y
  · rw [he, Nat.sub_self, Nat.shiftRight_zero]
    intro hc
    rw [he] at a1 a2 a3
    rw [hc, a3] at b3
    apply hxy
    rw [← (ord_sign x hx).2.2, ← (ord_sign y hy).2.2, b3]
  · obtain ⟨j, hj⟩ : ∃ j, hl y = hl x + j + 1 := ⟨hl y - hl x - 1, by omega⟩
    have h1 := cut_ge (codeN y) (hl x) (hl_le x).1 j (by rw [← hj]; exact b1)
    rw [show hl y - hl x = j + 1 by omega]
    omega
theorem one_byte : ∀ n, n < 256 → lowb 8 n = [false, false, false, true, true, true, true, true] → n = 31 := by decide +kernel
theorem cb_a : cb 97 = [false, false, false, true, true] := by decide +kernel
/-- The code of "a". -/
theorem enc_a {o : List UInt8} {p : Nat} (h : bitsB o = bitsL [97] ++ List.replicate p true) (hp : p ≤ 7) : o = [31] := by
  have h1 : bitsL [97] = [false, false, false, true, true] := by
    rw [bitsL_cons]
    exact cb_a
  rw [h1] at h
  have hlen := congrArg List.length h
  rw [bitsB_len] at hlen
  simp at hlen
  obtain rfl : p = 3 := by omega
  match o, hlen, h with
  | [c], _, h =>
    rw [bitsB_one] at h
    have := one_byte c.toNat c.toNat_lt h
    exact congrArg (fun z => [z]) (UInt8.toNat_inj.1 (this.trans rfl))
end Go.Proofs.YtjeocmglcgnclaaDoor

/- What Encode answers. Condition: the row is no longer than 2^30. -/
namespace Go.Proofs.YtjeocmglcgnclaaDoor
open Go.RowKit
attribute [local go_sem] kd kdS

set_option maxHeartbeats 2000000 in
set_option maxRecDepth 100000 in
theorem Encode_any (A : Option Addr) (n c : Nat) (l : List UInt8) (w : World) (h : Bs w A n l) (hn : n ≤ 1073741824) :
    Calls Tryd.prog 62 #[.slice A n c] w fun e w' => ∃ A2 n2 c2 o p, e = .returned (.slice A2 n2 c2) ∧ w'.ownsRow w.heap.size 5 1 (.slice A2 n2 c2) n2 (o.map bv) ∧ bitsB o = bitsL l ++ List.replicate p true ∧ p ≤ 7 ∧ Below w.heap.size w w' := by
  obtain ⟨i0, hi0, hz0, hz1, hz2⟩ := info_parts big_info
  have hi := hid hi0
  have hz := hid hz0
  have hsz := hid hz1
  have hby := hid hz2
  clear hi0 hz0 hz1 hz2
  have hlen := h.len
  have H := hid h
  clear h
  go_enter Tryd.func62, Tryd.ntmps62
  go_wp2_with (first
    | (go_at_call 75; go_must (refine (open_calls _).mono ?_; rintro e w1 ⟨g, rfl, hbk, hb1⟩; have HBK := hid hbk; have HB1 := hid hb1; clear hbk hb1))
    | (go_at_call 76; go_must (refine (codes_calls g _ (by first | exact HBK.out | exact HBK.out.drew)).mono ?_; rintro e w2 ⟨bb, oo, rfl, hat, hb2⟩; have HAT := hid hat; have HB2 := hid hb2; clear hat hb2 HBK)))
  have HW := hid (HB1.out.trans (HB2.out.mono HB1.out.size))
  clear HB1 HB2
  have HWS := hid HW.out.size
  generalize hg : w.heap.size = B at HW HWS
  have HG := hid hg
  clear hg
  go_loopw [4, 5, 6, 13] (fun out held nn co wr => ∃ (k : Nat) (A2 : Option Addr) (c2 hv m : Nat) (o : List UInt8), k ≤ n ∧ co = .int .i64 (k : Int) ∧ nn = .int .i64 (m : Int) ∧ m ≤ 7 ∧ held = .int .u64 (hv : Int) ∧ hv < 2 ^ 64 ∧ out = .slice A2 o.length c2 ∧ o.length ≤ 5 * k ∧ wr.ownsRow w2.heap.size 5 1 (.slice A2 o.length c2) o.length (o.map bv) ∧ bitsL (l.take k) = bitsB o ++ lowb m hv ∧ Below w2.heap.size w2 wr) (fun _ _ _ co _ => n - (intOf co).toNat)
  case atStart => exact ⟨0, none, 0, 0, 0, [], by omega, rfl, rfl, by omega, rfl, by decide, rfl, by simp, World.ownsRow_nil _ _ _ _, rfl, Below.refl _ _⟩
  case round =>
    obtain ⟨k, A2, c2, hv, m, o, hk, rfl, rfl, hm, rfl, hhv, rfl, hol, hown, hbits, hb⟩ := hrel
    have HB := hid hb
    have HO := hid hown
    have HBI := hid hbits
    have hbs := hb.size
    clear hb hown hbits
    by_cases hkn : k < n
    · obtain ⟨b, oi, rfl, hc⟩ := H.out.2 (by omega)
      have hcw : w.cell? ⟨b, oi + k, none⟩ = some (.int .u8 ((l[k]'(by omega)).toNat : Int)) := hc k _ (by rw [List.getElem?_map, List.getElem?_eq_getElem (by omega)]; rfl)
      have hc1 : wr.cell? ⟨b, oi + k, none⟩ = some (.int .u8 ((l[k]'(by omega)).toNat : Int)) := below_keep HB.out _ _ (below_keep (by rw [HG.out]; exact HW.out) _ _ hcw)
      have HT := hid (bitsL_take l k (by omega))
      have hx := (l[k]'(by omega)).toNat_lt
      generalize (l[k]'(by omega)).toNat = x at hc1 HT hx
      have hx2 : x < 256 := hx
      have HC := hid (below_keep HB.out _ _ (HAT.out x (by omega)))
      have HCB := hid (show cb x = lowb (hl x) (codeN x) from rfl)
      have hcg := (code_ge x (by omega)).2
      have h30 := hl_top x (by omega)
      have h5 := (hl_le x).1
      have hwx : IntKind.i64.wrap (x : Int) = (x : Int) := IntWalk.i64_in _ (by omega)
      generalize hne : hl x = z at HCB hcg h30 h5
      have HNE := hid hne
      generalize hce : codeN x = CN at HCB hcg HC
      have hp30 : 2 ^ z ≤ 2 ^ 30 := Nat.pow_le_pow_right (by omega) h30
      have HCG := hid hcg
      have hcn : CN < 1073741824 := by
        have h4 : 2 ^ 30 = 1073741824 := by decide
        omega
      have L0 : Hid (∀ w', w'.cell? ⟨bb, oo + x, none⟩ = some (.int .i64 (CN : Int)) → (Instr.loadAt 3 (.pointer (some ⟨bb, oo + x, none⟩))).run Tryd.prog w' = .ok (.int .i64 (CN : Int)) w') := hid fun w' q => by go_simp
      clear hne hce hx hc hcw hcg hp30
      go_wp2_with fail
      (refine wp_mixC (fun w' => w'.cell? ⟨bb, oo + x, none⟩ = some (.int .i64 (CN : Int))) ?_ ?_ (show wr.drew.cell? _ = _ from HC.out) ?_; (focus kernel_rfl); (focus kernel_rfl); intro KK hKK; go_wp2_with (first
                                                                                                                         | (first
        | ((with_reducible refine mixS_load L0.out ?_ ?_ ?_); (focus rfl); (focus rfl))
        | (go_at_call 74; go_must (refine (bits_calls x z _ (by omega) HNE.out).mono ?_; rintro e w3 ⟨rfl, rfl⟩))
        | ((with_reducible refine And.intro ?_ ?_); (focus (exact (show wr.drew.cell? _ = _ from HC.out)))))
                                                                                                                         | (with_reducible refine mix_nil ?_)
                                                                                                                         | ((with_reducible refine mixS_on ?_ ?_); (focus rfl); intro K K' hK hK'; go_simp; (first | ((with_reducible refine hK _ _ ?_); clear hK hK' K K') | ((with_reducible refine hK' _ _ ?_); clear hK hK' K K') | skip))
                                                                                                                         | ((with_reducible refine mixS_off ?_ ?_); (focus rfl); intro K hK; go_simp; (first | ((with_reducible refine hK _ _ ?_); clear hK K) | skip))
                                                                                                                         | ((with_reducible refine mixS_step ?_); intro K K' hK hK'; go_simp; (first | ((with_reducible refine hK _ _ ?_); clear hK hK' K K') | ((with_reducible refine hK' _ _ ?_); clear hK hK' K K') | skip))))
      have hcn64 : CN < 2 ^ 64 := Nat.lt_trans hcn (by decide)
      have HBJ : Hid (bitsL (l.take (k + 1)) = bitsB o ++ lowb (m + z) ((hv <<< z) % 2 ^ 64 ||| CN)) := hid (by rw [HT.out, HBI.out, HCB.out, held_bits HCG.out (by omega), List.append_assoc])
      have hlt := held_lt (hv := hv) (z := z) hcn64
      rw [held_put hcn64, show IntKind.i64.wrap ((m : Int) + (z : Int)) = ((m + z : Nat) : Int) by rw [IntWalk.i64_in _ (by omega)]; omega]
      generalize (hv <<< z) % 2 ^ 64 ||| CN = h2 at HBJ hlt
      generalize IntKind.u64.wrap (CN : Int) = wcn
      generalize IntKind.u64.wrap ((hv : Int) * 2 ^ z) = whv
      have hmz37 : m + z ≤ 37 := by omega
      generalize m + z = mz at HBJ hmz37 ⊢
      clear HC L0 HBI HCB HCG HT hcn64 hhv
      have HO2 := hid HO.out.drew
      have HB2 := hid HB.out.drew
      clear HO HB
      have HHW := hid (show w2.heap.size ≤ wr.heap.size from hbs)
      generalize wr.drew = wd at HO2 HB2
      go_loopw [4, 6] (fun out nn wv => ∃ (A3 : Option Addr) (c3 m3 : Nat) (o3 : List UInt8), nn = .int .i64 (m3 : Int) ∧ m3 ≤ 37 ∧ 8 * o3.length + m3 = 8 * o.length + mz ∧ out = .slice A3 o3.length c3 ∧ wv.ownsRow w2.heap.size 5 1 (.slice A3 o3.length c3) o3.length (o3.map bv) ∧ bitsL (l.take (k + 1)) = bitsB o3 ++ lowb m3 h2 ∧ Below w2.heap.size w2 wv) (fun _ nn _ => (intOf nn).toNat)
      case atStart => exact ⟨A2, c2, mz, o, rfl, by omega, rfl, rfl, HO2.out, HBJ.out, HB2.out⟩
      case round =>
        obtain ⟨A3, c3, m3, o3, rfl, h37, hln, rfl, hown, hbits, hb⟩ := hrel
        have HB := hid hb
        have HO := hid hown
        have HBI := hid hbits
        have hbs := hb.size
        clear hb hown hbits HO2 HB2 HBJ
        by_cases hm8 : 8 ≤ m3
        · obtain ⟨m4, rfl⟩ : ∃ m4, m3 = m4 + 8 := ⟨m3 - 8, by omega⟩
          have hs8 : IntKind.i64.wrap (((m4 + 8 : Nat) : Int) - 8) = (m4 : Int) := by rw [IntWalk.i64_in _ (by omega)]; omega
          have hol3 : o3.length ≤ 6000000000 := by omega
          go_wp2_with (first
            | (at_builtin; go_loud (refine wpList_app _ rfl _ _ _ rfl w2.heap.size 5 i0 _ 1 1 Tryd.underlying29 hi.out hz.out hsz.out hby.out rfl (by omega) _ o3.length _ rfl (HO.out.alloc _) _ 1 1 _ rfl (rd_one rfl) (by simp [Value.oneCell']) (by omega) (by omega) (by simp; omega) ?_; intro A5 c5 w5 ho5 hg5 hc5; have HO5 := hid ho5; have HG5 := hid hg5; clear ho5 hg5 hc5)))
          rw [byte_val] at HO5
          have HBY := hid (byte_bits h2 m4)
          generalize UInt8.ofNat (h2 / 2 ^ m4) = by8 at HO5 HBY
          have hbl : Below w2.heap.size w2 w5 := below_app (HB.out.alloc (by omega) _) (HO.out.alloc _) HG5.out (Nat.le_refl _) (by simp; omega)
          have HBL := hid hbl
          clear hbl HG5 HB
          refine ⟨⟨A5, c5, m4, o3 ++ [by8], rfl, by omega, by rw [List.length_append, List.length_singleton]; omega, by rw [List.length_append, List.length_singleton], by rw [List.length_append, List.length_singleton, List.map_append]; exact HO5.out, by rw [HBI.out, HBY.out, bitsB_append, bitsB_one, List.append_assoc], HBL.out⟩, ?_⟩
          simp [intOf]
          omega
        · go_wp2_with fail
          exact ⟨⟨k + 1, A3, c3, h2, m3, o3, by omega, by go_num, rfl, by omega, rfl, hlt, rfl, by omega, HO.out, HBI.out, HB.out⟩, by simp [intOf]; omega⟩
    · obtain rfl : k = n := by omega
      have hbl := HBI.out
      rw [List.take_of_length_le (by omega)] at hbl
      have HBJ := hid hbl
      clear hbl HBI
      by_cases hm0 : 0 < m
      · have hs8 : IntKind.i64.wrap (8 - (m : Int)) = ((8 - m : Nat) : Int) := by rw [IntWalk.i64_in _ (by omega)]; omega
        have hol3 : o.length ≤ 6000000000 := by omega
        go_wp2_with fail
        (refine wp_mixC (fun _ => True) ?_ ?_ (trivial) ?_; (focus kernel_rfl); (focus kernel_rfl); intro KK hKK; go_wp2_with (first
                                        | (first
          | ((with_reducible refine at_mapp ?_); go_loud (refine mixS_app w2.heap.size 5 i0 _ 1 1 Tryd.underlying29 hi.out hz.out hsz.out hby.out rfl (by decide) _ o.length _ (HO.out.drew.alloc _) _ 1 1 _ (rd_one rfl) ?_ ?_ ?_ ?_ ?_ ?_ ?_ ?_; (focus rfl); (focus rfl); (focus (simp [Value.oneCell'])); (focus omega); (focus omega); (focus (simp; omega)); (focus rfl); intro A5 c5 w5 ho5 hg5 hc5; have HO5 := hid ho5; have HG5 := hid hg5; clear ho5 hg5 hc5; refine ⟨trivial, ?_⟩))
          | ((with_reducible refine And.intro ?_ ?_); (focus (exact trivial))))
                                        | (with_reducible refine mix_nil ?_)
                                        | ((with_reducible refine mixS_on ?_ ?_); (focus rfl); intro K K' hK hK'; go_simp; (first | ((with_reducible refine hK _ _ ?_); clear hK hK' K K') | ((with_reducible refine hK' _ _ ?_); clear hK hK' K K') | skip))
                                        | ((with_reducible refine mixS_off ?_ ?_); (focus rfl); intro K hK; go_simp; (first | ((with_reducible refine hK _ _ ?_); clear hK K) | skip))
                                        | ((with_reducible refine mixS_step ?_); intro K K' hK hK'; go_simp; (first | ((with_reducible refine hK _ _ ?_); clear hK hK' K K') | ((with_reducible refine hK' _ _ ?_); clear hK hK' K K') | skip))))
        rw [last_val (by omega)] at HO5
        have HBY := hid (last_bits (hv := hv) (m := m) (by omega))
        generalize UInt8.ofNat ((hv <<< (8 - m)) % 2 ^ 64 ||| (2 ^ (8 - m) - 1)) = by8 at HO5 HBY
        have hbl : Below w2.heap.size w2 w5 := below_app ((HB.out.alloc (by omega) _).drew) ((HO.out.alloc _).drew) HG5.out (Nat.le_refl _) (by simp; omega)
        have HBL := hid hbl
        clear hbl HG5 HB
        refine bodyPost_ret (v := .slice A5 (o.length + 1) c5) (by simp [results, Tryd.results62, go_sem]) rfl ?_
        exact ⟨A5, o.length + 1, c5, o ++ [by8], 8 - m, rfl, by rw [List.map_append]; exact HO5.out.mono (by rw [HG.out]; exact HWS.out), by rw [bitsB_append, bitsB_one, HBY.out, HBJ.out, List.append_assoc], by omega, by rw [HG.out]; exact HW.out.trans (HBL.out.mono HWS.out)⟩
      · obtain rfl : m = 0 := by omega
        go_wp2_with fail
        refine bodyPost_ret (v := .slice A2 o.length c2) (by simp [results, Tryd.results62, go_sem]) rfl ?_
        exact ⟨A2, o.length, c2, o, 0, rfl, HO.out.mono (by rw [HG.out]; exact HWS.out), by rw [HBJ.out]; simp [lowb], by omega, by rw [HG.out]; exact HW.out.trans (HB.out.mono HWS.out)⟩
end Go.Proofs.YtjeocmglcgnclaaDoor

/- What Decode answers. Condition: the row is no longer than 2^30. -/
namespace Go.Proofs.YtjeocmglcgnclaaDoor
open Go.RowKit
attribute [local go_sem] kd kdS

/-- Where a jump finds the call: at next (1), at over (0). -/
def JD (A : Option Addr) (n c : Nat) (most : Int) (l : List UInt8) (w : World) (lab : Nat) (a' : Act) (w' : World) : Prop :=
  lab < 2 ∧ ∃ (w1 : World) (g : Nat) (A2 : Option Addr) (c2 cd m k : Nat) (o : List UInt8), (∃ us : Nat → Value, a' = { tmps := #[.slice A n c, .int .i64 most, us 2, us 3, .slice none 0 0, .int .i64 0, .pointer (some ⟨g, 0, none⟩), .slice A2 o.length c2, .int .i64 (cd : Int), .int .i64 (m : Int), .int .i64 (k : Int), us 11, us 12, us 13, us 14, us 15, us 16, us 17, us 18, us 19, us 20, us 21, us 22, us 23, us 24, us 25, us 26, us 27, us 28, us 29, us 30, us 31, us 32, us 33, us 34, us 35, us 36, us 37, us 38, us 39, us 40, us 41, us 42, us 43, us 44, us 45, us 46, us 47, us 48, us 49, us 50, us 51, us 52, us 53, us 54, us 55, us 56, us 57, us 58, us 59, us 60, us 61, us 62, us 63, us 64, us 65, us 66, us 67, us 68, us 69, us 70, us 71, us 72, us 73, us 74, us 75, us 76, us 77, us 78, us 79, us 80, us 81, us 82, us 83, us 84, us 85, us 86, us 87, us 88, us 89, us 90, us 91, us 92, us 93, us 94, us 95, us 96, us 97, us 98, us 99, us 100, us 101, us 102], defers := [] }) ∧
    k ≤ 8 * n ∧ (lab = 0 → k = 8 * n) ∧ Inv m cd ∧ o.length ≤ k ∧ Book w1 g ∧ Below w.heap.size w w1 ∧ Below w1.heap.size w1 w' ∧ w'.ownsRow w1.heap.size 5 1 (.slice A2 o.length c2) o.length (o.map bv) ∧ dec most (bitsB l) 0 0 [] = dec most ((bitsB l).drop k) cd m o

theorem by_frame {P : Program} {code : Code} {Q : Exit → Act → World → Prop} {w : World} {J : Act → Prop} (a : Act) (hJ : J a) (h : ∀ a', J a' → Code.wp P code Q a' w) : Code.wp P code Q a w := h a hJ

set_option maxHeartbeats 4000000 in
set_option maxRecDepth 100000 in
theorem Decode_any (A : Option Addr) (n c : Nat) (most : Int) (l : List UInt8) (w : World) (h : Bs w A n l) (hn : n ≤ 1073741824) :
    Calls Tryd.prog 79 #[.slice A n c, .int .i64 most] w fun e w' => ∃ A2 n2 c2, e = .returned (.tuple #[.slice A2 n2 c2, .int .i64 ((dec most (bitsB l) 0 0 []).2 : Nat)]) ∧ w'.ownsRow w.heap.size 5 1 (.slice A2 n2 c2) n2 ((dec most (bitsB l) 0 0 []).1.map bv) ∧ Below w.heap.size w w' := by
  obtain ⟨i0, hi0, hz0, hz1, hz2⟩ := info_parts big_info
  have hi := hid hi0
  have hz := hid hz0
  have hsz := hid hz1
  have hby := hid hz2
  clear hi0 hz0 hz1 hz2
  have hlen := h.len
  have H := hid h
  clear h
  go_enter Tryd.func79, Tryd.ntmps79
  go_upto_region 1 with fail
  refine wp_scope_fall (JD A n c most l w) (fun lab a _ => if lab = 1 then 8 * n - (intOf (a.tmps.getD 10 undef)).toNat + 1 else 0) ?_ ?_
  · go_upto_region 7 with (go_at_call 75; go_must (refine (open_calls _).mono ?_; rintro e wr ⟨g0, rfl, hbk, hb1⟩; have HBK := hid hbk; have HB1 := hid hb1; clear hbk hb1))
    refine wp_label ?_
    rename_i hK0
    refine hK0 _ _ ?_
    clear hK0
    refine by_frame (J := fun a' => JD A n c most l w 1 a' wr) _ (show JD A n c most l w 1 _ wr from ⟨by decide, wr, g0, none, 0, 0, 0, 0, [], frame_some _ rfl, Nat.zero_le _, fun h => absurd h (by decide), inv_zero, Nat.le_refl _, HBK.out, HB1.out, Below.refl _ _, World.ownsRow_nil _ _ _ _, rfl⟩) ?_
    clear HBK HB1
    rintro a' ⟨_, w1, g, A2, c2, cd, m, k, o, ⟨us, rfl⟩, hk, hk0, hinv, hol, hbk, hb1, hb, hown, hdec⟩
    have HK := hid hbk
    have HW := hid hb1
    have HB := hid hb
    have HO := hid hown
    have HD := hid hdec
    have HI := hid hinv
    have hm29 := hinv.1
    clear hbk hb1 hb hown hdec hinv
    by_cases hkn : k = 8 * n
    · subst hkn
      go_wp2_with fail
      go_step3
      exact (show JD A n c most l w 0 _ _ from ⟨by decide, w1, g, A2, c2, cd, m, 8 * n, o, frame_some _ rfl, Nat.le_refl _, fun _ => rfl, HI.out, hol, HK.out, HW.out, HB.out, HO.out, HD.out⟩)
    · obtain ⟨b, oi, rfl, hc⟩ := H.out.2 (by omega)
      obtain ⟨q, hq⟩ : ∃ q, k / 8 = q := ⟨_, rfl⟩
      obtain ⟨r, hr⟩ : ∃ r, k % 8 = r := ⟨_, rfl⟩
      obtain ⟨p, hp⟩ : ∃ p, p + r = 7 := ⟨7 - r, by omega⟩
      have hqn : q < n := by omega
      have hcw : w.cell? ⟨b, oi + q, none⟩ = some (.int .u8 ((l[q]'(by omega)).toNat : Int)) := hc q _ (by rw [List.getElem?_map, List.getElem?_eq_getElem (by omega)]; rfl)
      have hc1 : wr.cell? ⟨b, oi + q, none⟩ = some (.int .u8 ((l[q]'(by omega)).toNat : Int)) := below_keep HB.out _ _ (below_keep HW.out _ _ hcw)
      have hba : (bitsB l)[k]? = some ((l[q]'(by omega)).toNat.testBit p) := by
        have h := bitsB_at l k (by omega)
        rw [show 7 - k % 8 = p by omega] at h
        simpa only [hq] using h
      have hq8 : (k : Int) / 8 = (q : Int) := by omega
      have hr8 : (k : Int) % 8 = (r : Int) := by omega
      have hp7 : IntKind.i64.wrap (7 - (r : Int)) = (p : Int) := by rw [IntWalk.i64_in _ (by omega)]; omega
      have hx := (l[q]'(by omega)).toNat_lt
      generalize (l[q]'(by omega)).toNat = x at hc1 hx hba
      have HDR : Hid ((bitsB l).drop k = x.testBit p :: (bitsB l).drop (k + 1)) := hid (by
        obtain ⟨h1, h2⟩ := List.getElem?_eq_some_iff.1 hba
        rw [List.drop_eq_getElem_cons h1, h2])
      clear hba
      have hx2 : x < 256 := hx
      have hp2 : 2 ^ m ≤ 2 ^ 29 := Nat.pow_le_pow_right (by omega) hm29
      have hcd : cd < 536870912 := by
        have := HI.out.2.1
        have h4 : 2 ^ 29 = 536870912 := by decide
        omega
      clear hx hcw hc hp2
      have hbp := bit_put' (c := cd) (b := x.testBit p) hcd
      rw [← bit_get] at hbp
      have hbt : (x.testBit p).toNat ≤ 1 := by cases x.testBit p <;> decide
      generalize hcv : 2 * cd + (x.testBit p).toNat = cv at hbp
      have hcv2 : cv < 1073741824 := by omega
      have HCV := hid hcv
      clear hcv
      go_upto_region 9 with fail
      generalize bits BinOp.and IntKind.u8 ((x : Int) / 2 ^ p) 1 = bv1
      clear hbp hc1
      obtain ⟨Ab, cb2, hbk⟩ := HK.out
      have HBK := hid (hbk.below HB.out)
      have hm1 : m + 1 ≤ 30 := by omega
      have cf := HBK.out.blk.cell (m + 1)
      have cm := HBK.out.blk.cell (31 + (m + 1))
      have cp := HBK.out.blk.cell (62 + (m + 1))
      have c93 := HBK.out.blk.cell 93
      rw [vals_f (by omega)] at cf
      rw [vals_m (by omega)] at cm
      rw [vals_p (by omega)] at cp
      rw [vals_o, ord_len] at c93
      have hfv : fK 26 (m + 1) = if 5 ≤ m + 1 then (first (m + 1) : Int) else 0 := by unfold fK first; by_cases h : 5 ≤ m + 1 <;> simp [h]; omega
      have hmv : mK 26 (m + 1) = if 5 ≤ m + 1 then (many (m + 1) : Int) else 0 := by unfold mK many; by_cases h : 5 ≤ m + 1 <;> simp [h]; omega
      have hpv : pK 26 (m + 1) = if 5 ≤ m + 1 then ((ordB (m + 1 - 5)).length : Int) else 0 := by unfold pK; by_cases h : 5 ≤ m + 1 <;> simp [h]; omega
      have hfl : first (m + 1) < 4294967296 := first_all _ (by omega)
      have hml : many (m + 1) ≤ 257 := signs_le _
      have HDS : Hid (decS (m + 1) cv = none ↔ (mK 26 (m + 1) ≤ (cv : Int) - fK 26 (m + 1) ∨ (cv : Int) < fK 26 (m + 1))) := hid (by
        rw [hfv, hmv]
        unfold decS
        by_cases h5 : 5 ≤ m + 1
        · rw [if_pos h5, if_pos h5]
          split <;> simp <;> omega
        · rw [if_neg h5, if_neg h5, if_neg (by omega)]
          simp)
      have hf0 : 0 ≤ fK 26 (m + 1) ∧ fK 26 (m + 1) < 4294967296 := by rw [hfv]; split <;> omega
      have HFV := hid hfv
      have HMV := hid hmv
      have HPV := hid hpv
      clear hfv hmv hpv
      generalize hfe : fK 26 (m + 1) = fv at cf HDS hf0 HFV
      generalize hme : mK 26 (m + 1) = mv at cm HDS HMV
      generalize hpe : pK 26 (m + 1) = pv at cp HPV
      clear hfe hme hpe
      have hwm : IntKind.i64.wrap ((m : Int) + 1) = ((m + 1 : Nat) : Int) := by rw [IntWalk.i64_in _ (by omega)]; omega
      have hwf : IntKind.i64.wrap ((cv : Int) - fv) = (cv : Int) - fv := IntWalk.i64_in _ (by omega)
      by_cases hA : mv ≤ (cv : Int) - fv
      · have HA := hid (HDS.out.2 (.inl hA))
        go_wp2_with fail
        (refine wp_mix ?_ ?_ ?_; (focus kernel_rfl); (focus kernel_rfl); intro KK hKK; go_wp2_with (first
              | (fail)
              | (with_reducible refine mix_nil ?_)
              | ((with_reducible refine mix_on ?_ ?_); (focus rfl); intro K hK; go_simp; (first | ((with_reducible refine hK _ _ ?_); clear hK K) | skip))
              | ((with_reducible refine mix_off ?_ ?_); (focus rfl); intro K hK; go_simp; (first | ((with_reducible refine hK _ _ ?_); clear hK K) | skip))
              | ((with_reducible refine mix_step ?_); intro K hK; go_simp; (first | ((with_reducible refine hK _ _ ?_); clear hK K) | skip))))
        go_step3
        exact (show JD (some ⟨b, oi, none⟩) n c most l w 1 _ _ from ⟨by decide, w1, g, A2, c2, cv, m + 1, k + 1, o, frame_some _ rfl, by omega, fun h => by omega, by have := inv_step (b := x.testBit p) HI.out (by rw [HCV.out]; exact HA.out); rwa [HCV.out] at this, by omega, HK.out, HW.out, HB.out.drew, HO.out.drew, by rw [HD.out, HDR.out, dec_first _ _ _ _ _ _ (by rw [HCV.out]; exact HA.out), HCV.out]⟩)
      by_cases hA2 : (cv : Int) < fv
      · have HA := hid (HDS.out.2 (.inr hA2))
        go_wp2_with fail
        (refine wp_mix ?_ ?_ ?_; (focus kernel_rfl); (focus kernel_rfl); intro KK hKK; go_wp2_with (first
              | (fail)
              | (with_reducible refine mix_nil ?_)
              | ((with_reducible refine mix_on ?_ ?_); (focus rfl); intro K hK; go_simp; (first | ((with_reducible refine hK _ _ ?_); clear hK K) | skip))
              | ((with_reducible refine mix_off ?_ ?_); (focus rfl); intro K hK; go_simp; (first | ((with_reducible refine hK _ _ ?_); clear hK K) | skip))
              | ((with_reducible refine mix_step ?_); intro K hK; go_simp; (first | ((with_reducible refine hK _ _ ?_); clear hK K) | skip))))
        go_step3
        exact (show JD (some ⟨b, oi, none⟩) n c most l w 1 _ _ from ⟨by decide, w1, g, A2, c2, cv, m + 1, k + 1, o, frame_some _ rfl, by omega, fun h => by omega, by have := inv_step (b := x.testBit p) HI.out (by rw [HCV.out]; exact HA.out); rwa [HCV.out] at this, by omega, HK.out, HW.out, HB.out.drew, HO.out.drew, by rw [HD.out, HDR.out, dec_first _ _ _ _ _ _ (by rw [HCV.out]; exact HA.out), HCV.out]⟩)
      · have h5 : 5 ≤ m + 1 := by
          by_cases h : 5 ≤ m + 1
          · exact h
          · have h1 := HFV.out
            have h2 := HMV.out
            rw [if_neg h] at h1 h2
            omega
        have h1 := HFV.out
        have h2 := HMV.out
        have h3 := HPV.out
        rw [if_pos h5] at h1 h2 h3
        have hin := dec_in (m + 1) (by omega) h5
        have hdsv : decS (m + 1) cv = some ((ordB 26).getD ((ordB (m + 1 - 5)).length + cv - first (m + 1)) 0) := by
          unfold decS
          rw [if_pos ⟨h5, by omega, by omega⟩]
        generalize hie : (ordB (m + 1 - 5)).length + cv - first (m + 1) = i at hdsv
        have hi7 : i < 257 := by omega
        have hs7 := (ord_at i hi7).1
        have hrd := Rd.of_own HBK.out.own
        rw [ord_len] at hrd
        obtain ⟨bo, oo, rfl, hcell⟩ := hrd.2 (by omega)
        have hc2 : wr.cell? ⟨bo, oo + i, none⟩ = some (.int .i64 (((ordB 26).getD i 0 : Nat) : Int)) := by
          apply hcell
          unfold ints
          rw [List.getElem?_map, List.getD_eq_getElem?_getD, List.getElem?_eq_getElem (by rw [ord_len]; exact hi7)]
          rfl
        generalize (ordB 26).getD i 0 = s at hdsv hs7 hc2
        have hw3 : IntKind.i64.wrap (pv + (cv : Int)) = pv + (cv : Int) := IntWalk.i64_in _ (by omega)
        have hw4 : IntKind.i64.wrap (pv + (cv : Int) - fv) = (i : Int) := by rw [IntWalk.i64_in _ (by omega)]; omega
        have HDV : Hid (dec most (bitsB l) 0 0 [] = if s = 256 then ([], 2) else if most ≤ (o.length : Int) then ([], 3) else dec most ((bitsB l).drop (k + 1)) 0 0 (o ++ [UInt8.ofNat s])) := hid (by rw [HD.out, HDR.out, dec_some _ _ _ _ _ s _ (by rw [HCV.out]; exact hdsv)])
        clear hdsv hie hin h1 h2 h3 hrd hcell HFV HMV HPV HDS
        have hol2 : o.length ≤ 8589934592 := by omega
        by_cases hs6 : s = 256
        · subst hs6
          go_wp2_with fail
          (refine wp_mix ?_ ?_ ?_; (focus kernel_rfl); (focus kernel_rfl); intro KK hKK; go_wp2_with (first
                | (fail)
                | (with_reducible refine mix_nil ?_)
                | ((with_reducible refine mix_on ?_ ?_); (focus rfl); intro K hK; go_simp; (first | ((with_reducible refine hK _ _ ?_); clear hK K) | skip))
                | ((with_reducible refine mix_off ?_ ?_); (focus rfl); intro K hK; go_simp; (first | ((with_reducible refine hK _ _ ?_); clear hK K) | skip))
                | ((with_reducible refine mix_step ?_); intro K hK; go_simp; (first | ((with_reducible refine hK _ _ ?_); clear hK K) | skip))))
          (refine wp_mix ?_ ?_ ?_; (focus kernel_rfl); (focus kernel_rfl); intro KK hKK; go_wp2_with (first
                | (fail)
                | (with_reducible refine mix_nil ?_)
                | ((with_reducible refine mix_on ?_ ?_); (focus rfl); intro K hK; go_simp; (first | ((with_reducible refine hK _ _ ?_); clear hK K) | skip))
                | ((with_reducible refine mix_off ?_ ?_); (focus rfl); intro K hK; go_simp; (first | ((with_reducible refine hK _ _ ?_); clear hK K) | skip))
                | ((with_reducible refine mix_step ?_); intro K hK; go_simp; (first | ((with_reducible refine hK _ _ ?_); clear hK K) | skip))))
          simp only [jumps]
          refine bodyPost_ret (v := .tuple #[.slice none 0 0, .int .i64 2]) (by simp [results, Tryd.results79, go_sem]) rfl ?_
          rw [HDV.out, if_pos trivial]
          exact ⟨none, 0, 0, rfl, World.ownsRow_nil _ _ _ _, (HW.out.trans (HB.out.mono HW.out.size)).drew.drew⟩
        · have hs6' : ((s : Int) == 256) = false := beq_eq_false_iff_ne.2 (by omega)
          by_cases hmo : most ≤ (o.length : Int)
          · go_wp2_with fail
            (refine wp_mix ?_ ?_ ?_; (focus kernel_rfl); (focus kernel_rfl); intro KK hKK; go_wp2_with (first
                  | (fail)
                  | (with_reducible refine mix_nil ?_)
                  | ((with_reducible refine mix_on ?_ ?_); (focus rfl); intro K hK; go_simp; (first | ((with_reducible refine hK _ _ ?_); clear hK K) | skip))
                  | ((with_reducible refine mix_off ?_ ?_); (focus rfl); intro K hK; go_simp; (first | ((with_reducible refine hK _ _ ?_); clear hK K) | skip))
                  | ((with_reducible refine mix_step ?_); intro K hK; go_simp; (first | ((with_reducible refine hK _ _ ?_); clear hK K) | skip))))
            (refine wp_mix ?_ ?_ ?_; (focus kernel_rfl); (focus kernel_rfl); intro KK hKK; go_wp2_with (first
                  | (fail)
                  | (with_reducible refine mix_nil ?_)
                  | ((with_reducible refine mix_on ?_ ?_); (focus rfl); intro K hK; go_simp; (first | ((with_reducible refine hK _ _ ?_); clear hK K) | skip))
                  | ((with_reducible refine mix_off ?_ ?_); (focus rfl); intro K hK; go_simp; (first | ((with_reducible refine hK _ _ ?_); clear hK K) | skip))
                  | ((with_reducible refine mix_step ?_); intro K hK; go_simp; (first | ((with_reducible refine hK _ _ ?_); clear hK K) | skip))))
            simp only [jumps]
            refine bodyPost_ret (v := .tuple #[.slice none 0 0, .int .i64 3]) (by simp [results, Tryd.results79, go_sem]) rfl ?_
            rw [HDV.out, if_neg hs6, if_pos hmo]
            exact ⟨none, 0, 0, rfl, World.ownsRow_nil _ _ _ _, (HW.out.trans (HB.out.mono HW.out.size)).drew.drew⟩
          · have hgs := HB.out.size
            have hws : IntKind.u8.wrap (s : Int) = (s : Int) := by rw [u8_wrap, Nat.mod_eq_of_lt (by omega)]
            go_wp2_with fail
            (refine wp_mix ?_ ?_ ?_; (focus kernel_rfl); (focus kernel_rfl); intro KK hKK; go_wp2_with (first
                  | (fail)
                  | (with_reducible refine mix_nil ?_)
                  | ((with_reducible refine mix_on ?_ ?_); (focus rfl); intro K hK; go_simp; (first | ((with_reducible refine hK _ _ ?_); clear hK K) | skip))
                  | ((with_reducible refine mix_off ?_ ?_); (focus rfl); intro K hK; go_simp; (first | ((with_reducible refine hK _ _ ?_); clear hK K) | skip))
                  | ((with_reducible refine mix_step ?_); intro K hK; go_simp; (first | ((with_reducible refine hK _ _ ?_); clear hK K) | skip))))
            (refine wp_mix ?_ ?_ ?_; (focus kernel_rfl); (focus kernel_rfl); intro KK hKK; go_wp2_with (first
                  | (at_builtin; go_loud (refine wpList_app _ rfl _ _ _ rfl w1.heap.size 5 i0 _ 1 1 Tryd.underlying29 hi.out hz.out hsz.out hby.out rfl (by omega) _ o.length _ rfl (HO.out.drew.drew.alloc _) _ 1 1 _ rfl (rd_one rfl) (by simp [Value.oneCell']) (by omega) (by omega) (by simp; omega) ?_; intro A5 c5 w5 ho5 hg5 hc5; have HO5 := hid ho5; have HG5 := hid hg5; clear ho5 hg5 hc5))
                  | (with_reducible refine mix_nil ?_)
                  | ((with_reducible refine mix_on ?_ ?_); (focus rfl); intro K hK; go_simp; (first | ((with_reducible refine hK _ _ ?_); clear hK K) | skip))
                  | ((with_reducible refine mix_off ?_ ?_); (focus rfl); intro K hK; go_simp; (first | ((with_reducible refine hK _ _ ?_); clear hK K) | skip))
                  | ((with_reducible refine mix_step ?_); intro K hK; go_simp; (first | ((with_reducible refine hK _ _ ?_); clear hK K) | skip))))
            have hbv : Value.int .u8 (s : Int) = bv (UInt8.ofNat s) := by
              unfold bv
              rw [UInt8.toNat_ofNat', Nat.mod_eq_of_lt (by omega)]
            rw [hbv] at HO5
            have HD2 : Hid (dec most (bitsB l) 0 0 [] = dec most ((bitsB l).drop (k + 1)) 0 0 (o ++ [UInt8.ofNat s])) := hid (HDV.out.trans ((if_neg hs6).trans (if_neg (by omega))))
            have hbl : Below w1.heap.size w1 w5 := below_app ((HB.out.alloc (by omega) _).drew.drew) ((HO.out.alloc _).drew.drew) HG5.out (Nat.le_refl _) (by simp; omega)
            have HBL := hid hbl
            clear hbl HG5 hbv HDV
            generalize UInt8.ofNat s = by8 at HO5 HD2
            have hlo : (o ++ [by8]).length = o.length + 1 := by rw [List.length_append, List.length_singleton]
            have hO : w5.ownsRow w1.heap.size 5 1 (.slice A5 (o ++ [by8]).length c5) (o ++ [by8]).length ((o ++ [by8]).map bv) := by rw [hlo, List.map_append]; exact HO5.out
            go_step3
            refine (show JD (some ⟨b, oi, none⟩) n c most l w 1 _ _ from ⟨by decide, w1, g, A5, c5, 0, 0, k + 1, o ++ [by8], ?_, by omega, fun h => by omega, inv_zero, by omega, HK.out, HW.out, HBL.out, hO, HD2.out⟩)
            rw [hlo]
            exact frame_some _ rfl
  · rintro lab a' wr ⟨hlab, w1, g, A2, c2, cd, m, k, o, ⟨us, rfl⟩, hk, hk0, hinv, hol, hbk, hb1, hb, hown, hdec⟩
    have HK := hid hbk
    have HW := hid hb1
    have HB := hid hb
    have HO := hid hown
    have HD := hid hdec
    have HI := hid hinv
    have hm29 := hinv.1
    clear hbk hb1 hb hown hdec hinv
    rcases (show lab = 0 ∨ lab = 1 by omega) with rfl | rfl
    · obtain rfl := hk0 rfl
      have HE : Hid (dec most (bitsB l) 0 0 [] = if m ≤ 7 ∧ cd = 2 ^ m - 1 then (o, 0) else ([], 2)) := hid (by rw [HD.out, List.drop_eq_nil_of_le (by rw [bitsB_len]; omega)]; rfl)
      refine ⟨_, rfl, ?_⟩
      by_cases hm7 : m ≤ 7
      · have hpm : IntKind.i64.wrap (1 * 2 ^ m) = ((2 ^ m : Nat) : Int) := by
          have h1 : 2 ^ m ≤ 2 ^ 7 := Nat.pow_le_pow_right (by omega) hm7
          rw [show (2 : Int) ^ m = ((2 ^ m : Nat) : Int) by rw [Int.natCast_pow]; rfl]
          generalize 2 ^ m = y at h1
          rw [IntWalk.i64_in _ (by omega)]
          omega
        have hp0 : 0 < 2 ^ m := Nat.pow_pos (by omega)
        have hpl : 2 ^ m ≤ 2 ^ 7 := Nat.pow_le_pow_right (by omega) hm7
        have HPO : Hid (wrap64 (wrap64 ((2 : Int) ^ m) - 1) = ((2 ^ m - 1 : Nat) : Int)) := hid (by
          rw [show (2 : Int) ^ m = ((2 ^ m : Nat) : Int) by rw [Int.natCast_pow]; rfl]
          generalize 2 ^ m = y at hp0 hpl
          rw [IntWalk.wrap64_in (y : Int) (by omega), IntWalk.wrap64_in _ (by omega)]
          omega)
        clear hpm
        go_wp2_with fail
        · rename_i h1 h2
          rw [HPO.out] at h2
          simp only [jumps]
          refine bodyPost_ret (v := .tuple #[.slice none 0 0, .int .i64 2]) (by simp [results, Tryd.results79, go_sem]) rfl ?_
          rw [HE.out, if_neg (by rintro ⟨_, h4⟩; rcases h2 with h2 | h2; (· omega); rw [h4] at h2; simp at h2)]
          exact ⟨none, 0, 0, rfl, World.ownsRow_nil _ _ _ _, (HW.out.trans (HB.out.mono HW.out.size))⟩
        · rename_i h1 h2
          rw [HPO.out] at h2
          simp only [jumps]
          refine bodyPost_ret (v := .tuple #[.slice A2 o.length c2, .int .i64 0]) (by simp [results, Tryd.results79, go_sem]) rfl ?_
          rw [HE.out, if_pos ⟨hm7, by have h4 := h2.2; simp at h4; omega⟩]
          exact ⟨A2, o.length, c2, rfl, HO.out.mono HW.out.size, (HW.out.trans (HB.out.mono HW.out.size))⟩
      · go_wp2_with fail
        simp only [jumps]
        refine bodyPost_ret (v := .tuple #[.slice none 0 0, .int .i64 2]) (by simp [results, Tryd.results79, go_sem]) rfl ?_
        rw [HE.out, if_neg (by omega)]
        exact ⟨none, 0, 0, rfl, World.ownsRow_nil _ _ _ _, (HW.out.trans (HB.out.mono HW.out.size))⟩
    · refine ⟨_, rfl, ?_⟩
      by_cases hkn : k = 8 * n
      · subst hkn
        go_wp2_with fail
        go_step3
        exact ⟨(show JD A n c most l w 0 _ _ from ⟨by decide, w1, g, A2, c2, cd, m, 8 * n, o, frame_some _ rfl, Nat.le_refl _, fun _ => rfl, HI.out, hol, HK.out, HW.out, HB.out, HO.out, HD.out⟩), by simp⟩
      · obtain ⟨b, oi, rfl, hc⟩ := H.out.2 (by omega)
        obtain ⟨q, hq⟩ : ∃ q, k / 8 = q := ⟨_, rfl⟩
        obtain ⟨r, hr⟩ : ∃ r, k % 8 = r := ⟨_, rfl⟩
        obtain ⟨p, hp⟩ : ∃ p, p + r = 7 := ⟨7 - r, by omega⟩
        have hqn : q < n := by omega
        have hcw : w.cell? ⟨b, oi + q, none⟩ = some (.int .u8 ((l[q]'(by omega)).toNat : Int)) := hc q _ (by rw [List.getElem?_map, List.getElem?_eq_getElem (by omega)]; rfl)
        have hc1 : wr.cell? ⟨b, oi + q, none⟩ = some (.int .u8 ((l[q]'(by omega)).toNat : Int)) := below_keep HB.out _ _ (below_keep HW.out _ _ hcw)
        have hba : (bitsB l)[k]? = some ((l[q]'(by omega)).toNat.testBit p) := by
          have h := bitsB_at l k (by omega)
          rw [show 7 - k % 8 = p by omega] at h
          simpa only [hq] using h
        have hq8 : (k : Int) / 8 = (q : Int) := by omega
        have hr8 : (k : Int) % 8 = (r : Int) := by omega
        have hp7 : IntKind.i64.wrap (7 - (r : Int)) = (p : Int) := by rw [IntWalk.i64_in _ (by omega)]; omega
        have hx := (l[q]'(by omega)).toNat_lt
        generalize (l[q]'(by omega)).toNat = x at hc1 hx hba
        have HDR : Hid ((bitsB l).drop k = x.testBit p :: (bitsB l).drop (k + 1)) := hid (by
          obtain ⟨h1, h2⟩ := List.getElem?_eq_some_iff.1 hba
          rw [List.drop_eq_getElem_cons h1, h2])
        clear hba
        have hx2 : x < 256 := hx
        have hp2 : 2 ^ m ≤ 2 ^ 29 := Nat.pow_le_pow_right (by omega) hm29
        have hcd : cd < 536870912 := by
          have := HI.out.2.1
          have h4 : 2 ^ 29 = 536870912 := by decide
          omega
        clear hx hcw hc hp2
        have hbp := bit_put' (c := cd) (b := x.testBit p) hcd
        rw [← bit_get] at hbp
        have hbt : (x.testBit p).toNat ≤ 1 := by cases x.testBit p <;> decide
        generalize hcv : 2 * cd + (x.testBit p).toNat = cv at hbp
        have hcv2 : cv < 1073741824 := by omega
        have HCV := hid hcv
        clear hcv
        go_upto_region 9 with fail
        generalize bits BinOp.and IntKind.u8 ((x : Int) / 2 ^ p) 1 = bv1
        clear hbp hc1
        obtain ⟨Ab, cb2, hbk⟩ := HK.out
        have HBK := hid (hbk.below HB.out)
        have hm1 : m + 1 ≤ 30 := by omega
        have cf := HBK.out.blk.cell (m + 1)
        have cm := HBK.out.blk.cell (31 + (m + 1))
        have cp := HBK.out.blk.cell (62 + (m + 1))
        have c93 := HBK.out.blk.cell 93
        rw [vals_f (by omega)] at cf
        rw [vals_m (by omega)] at cm
        rw [vals_p (by omega)] at cp
        rw [vals_o, ord_len] at c93
        have hfv : fK 26 (m + 1) = if 5 ≤ m + 1 then (first (m + 1) : Int) else 0 := by unfold fK first; by_cases h : 5 ≤ m + 1 <;> simp [h]; omega
        have hmv : mK 26 (m + 1) = if 5 ≤ m + 1 then (many (m + 1) : Int) else 0 := by unfold mK many; by_cases h : 5 ≤ m + 1 <;> simp [h]; omega
        have hpv : pK 26 (m + 1) = if 5 ≤ m + 1 then ((ordB (m + 1 - 5)).length : Int) else 0 := by unfold pK; by_cases h : 5 ≤ m + 1 <;> simp [h]; omega
        have hfl : first (m + 1) < 4294967296 := first_all _ (by omega)
        have hml : many (m + 1) ≤ 257 := signs_le _
        have HDS : Hid (decS (m + 1) cv = none ↔ (mK 26 (m + 1) ≤ (cv : Int) - fK 26 (m + 1) ∨ (cv : Int) < fK 26 (m + 1))) := hid (by
          rw [hfv, hmv]
          unfold decS
          by_cases h5 : 5 ≤ m + 1
          · rw [if_pos h5, if_pos h5]
            split <;> simp <;> omega
          · rw [if_neg h5, if_neg h5, if_neg (by omega)]
            simp)
        have hf0 : 0 ≤ fK 26 (m + 1) ∧ fK 26 (m + 1) < 4294967296 := by rw [hfv]; split <;> omega
        have HFV := hid hfv
        have HMV := hid hmv
        have HPV := hid hpv
        clear hfv hmv hpv
        generalize hfe : fK 26 (m + 1) = fv at cf HDS hf0 HFV
        generalize hme : mK 26 (m + 1) = mv at cm HDS HMV
        generalize hpe : pK 26 (m + 1) = pv at cp HPV
        clear hfe hme hpe
        have hwm : IntKind.i64.wrap ((m : Int) + 1) = ((m + 1 : Nat) : Int) := by rw [IntWalk.i64_in _ (by omega)]; omega
        have hwf : IntKind.i64.wrap ((cv : Int) - fv) = (cv : Int) - fv := IntWalk.i64_in _ (by omega)
        by_cases hA : mv ≤ (cv : Int) - fv
        · have HA := hid (HDS.out.2 (.inl hA))
          go_wp2_with fail
          (refine wp_mix ?_ ?_ ?_; (focus kernel_rfl); (focus kernel_rfl); intro KK hKK; go_wp2_with (first
                | (fail)
                | (with_reducible refine mix_nil ?_)
                | ((with_reducible refine mix_on ?_ ?_); (focus rfl); intro K hK; go_simp; (first | ((with_reducible refine hK _ _ ?_); clear hK K) | skip))
                | ((with_reducible refine mix_off ?_ ?_); (focus rfl); intro K hK; go_simp; (first | ((with_reducible refine hK _ _ ?_); clear hK K) | skip))
                | ((with_reducible refine mix_step ?_); intro K hK; go_simp; (first | ((with_reducible refine hK _ _ ?_); clear hK K) | skip))))
          go_step3
          exact ⟨(show JD (some ⟨b, oi, none⟩) n c most l w 1 _ _ from ⟨by decide, w1, g, A2, c2, cv, m + 1, k + 1, o, frame_some _ rfl, by omega, fun h => by omega, by have := inv_step (b := x.testBit p) HI.out (by rw [HCV.out]; exact HA.out); rwa [HCV.out] at this, by omega, HK.out, HW.out, HB.out.drew, HO.out.drew, by rw [HD.out, HDR.out, dec_first _ _ _ _ _ _ (by rw [HCV.out]; exact HA.out), HCV.out]⟩), by simp [intOf]; omega⟩
        by_cases hA2 : (cv : Int) < fv
        · have HA := hid (HDS.out.2 (.inr hA2))
          go_wp2_with fail
          (refine wp_mix ?_ ?_ ?_; (focus kernel_rfl); (focus kernel_rfl); intro KK hKK; go_wp2_with (first
                | (fail)
                | (with_reducible refine mix_nil ?_)
                | ((with_reducible refine mix_on ?_ ?_); (focus rfl); intro K hK; go_simp; (first | ((with_reducible refine hK _ _ ?_); clear hK K) | skip))
                | ((with_reducible refine mix_off ?_ ?_); (focus rfl); intro K hK; go_simp; (first | ((with_reducible refine hK _ _ ?_); clear hK K) | skip))
                | ((with_reducible refine mix_step ?_); intro K hK; go_simp; (first | ((with_reducible refine hK _ _ ?_); clear hK K) | skip))))
          go_step3
          exact ⟨(show JD (some ⟨b, oi, none⟩) n c most l w 1 _ _ from ⟨by decide, w1, g, A2, c2, cv, m + 1, k + 1, o, frame_some _ rfl, by omega, fun h => by omega, by have := inv_step (b := x.testBit p) HI.out (by rw [HCV.out]; exact HA.out); rwa [HCV.out] at this, by omega, HK.out, HW.out, HB.out.drew, HO.out.drew, by rw [HD.out, HDR.out, dec_first _ _ _ _ _ _ (by rw [HCV.out]; exact HA.out), HCV.out]⟩), by simp [intOf]; omega⟩
        · have h5 : 5 ≤ m + 1 := by
            by_cases h : 5 ≤ m + 1
            · exact h
            · have h1 := HFV.out
              have h2 := HMV.out
              rw [if_neg h] at h1 h2
              omega
          have h1 := HFV.out
          have h2 := HMV.out
          have h3 := HPV.out
          rw [if_pos h5] at h1 h2 h3
          have hin := dec_in (m + 1) (by omega) h5
          have hdsv : decS (m + 1) cv = some ((ordB 26).getD ((ordB (m + 1 - 5)).length + cv - first (m + 1)) 0) := by
            unfold decS
            rw [if_pos ⟨h5, by omega, by omega⟩]
          generalize hie : (ordB (m + 1 - 5)).length + cv - first (m + 1) = i at hdsv
          have hi7 : i < 257 := by omega
          have hs7 := (ord_at i hi7).1
          have hrd := Rd.of_own HBK.out.own
          rw [ord_len] at hrd
          obtain ⟨bo, oo, rfl, hcell⟩ := hrd.2 (by omega)
          have hc2 : wr.cell? ⟨bo, oo + i, none⟩ = some (.int .i64 (((ordB 26).getD i 0 : Nat) : Int)) := by
            apply hcell
            unfold ints
            rw [List.getElem?_map, List.getD_eq_getElem?_getD, List.getElem?_eq_getElem (by rw [ord_len]; exact hi7)]
            rfl
          generalize (ordB 26).getD i 0 = s at hdsv hs7 hc2
          have hw3 : IntKind.i64.wrap (pv + (cv : Int)) = pv + (cv : Int) := IntWalk.i64_in _ (by omega)
          have hw4 : IntKind.i64.wrap (pv + (cv : Int) - fv) = (i : Int) := by rw [IntWalk.i64_in _ (by omega)]; omega
          have HDV : Hid (dec most (bitsB l) 0 0 [] = if s = 256 then ([], 2) else if most ≤ (o.length : Int) then ([], 3) else dec most ((bitsB l).drop (k + 1)) 0 0 (o ++ [UInt8.ofNat s])) := hid (by rw [HD.out, HDR.out, dec_some _ _ _ _ _ s _ (by rw [HCV.out]; exact hdsv)])
          clear hdsv hie hin h1 h2 h3 hrd hcell HFV HMV HPV HDS
          have hol2 : o.length ≤ 8589934592 := by omega
          by_cases hs6 : s = 256
          · subst hs6
            go_wp2_with fail
            (refine wp_mix ?_ ?_ ?_; (focus kernel_rfl); (focus kernel_rfl); intro KK hKK; go_wp2_with (first
                  | (fail)
                  | (with_reducible refine mix_nil ?_)
                  | ((with_reducible refine mix_on ?_ ?_); (focus rfl); intro K hK; go_simp; (first | ((with_reducible refine hK _ _ ?_); clear hK K) | skip))
                  | ((with_reducible refine mix_off ?_ ?_); (focus rfl); intro K hK; go_simp; (first | ((with_reducible refine hK _ _ ?_); clear hK K) | skip))
                  | ((with_reducible refine mix_step ?_); intro K hK; go_simp; (first | ((with_reducible refine hK _ _ ?_); clear hK K) | skip))))
            (refine wp_mix ?_ ?_ ?_; (focus kernel_rfl); (focus kernel_rfl); intro KK hKK; go_wp2_with (first
                  | (fail)
                  | (with_reducible refine mix_nil ?_)
                  | ((with_reducible refine mix_on ?_ ?_); (focus rfl); intro K hK; go_simp; (first | ((with_reducible refine hK _ _ ?_); clear hK K) | skip))
                  | ((with_reducible refine mix_off ?_ ?_); (focus rfl); intro K hK; go_simp; (first | ((with_reducible refine hK _ _ ?_); clear hK K) | skip))
                  | ((with_reducible refine mix_step ?_); intro K hK; go_simp; (first | ((with_reducible refine hK _ _ ?_); clear hK K) | skip))))
            simp only [jumps]
            refine bodyPost_ret (v := .tuple #[.slice none 0 0, .int .i64 2]) (by simp [results, Tryd.results79, go_sem]) rfl ?_
            rw [HDV.out, if_pos trivial]
            exact ⟨none, 0, 0, rfl, World.ownsRow_nil _ _ _ _, (HW.out.trans (HB.out.mono HW.out.size)).drew.drew⟩
          · have hs6' : ((s : Int) == 256) = false := beq_eq_false_iff_ne.2 (by omega)
            by_cases hmo : most ≤ (o.length : Int)
            · go_wp2_with fail
              (refine wp_mix ?_ ?_ ?_; (focus kernel_rfl); (focus kernel_rfl); intro KK hKK; go_wp2_with (first
                    | (fail)
                    | (with_reducible refine mix_nil ?_)
                    | ((with_reducible refine mix_on ?_ ?_); (focus rfl); intro K hK; go_simp; (first | ((with_reducible refine hK _ _ ?_); clear hK K) | skip))
                    | ((with_reducible refine mix_off ?_ ?_); (focus rfl); intro K hK; go_simp; (first | ((with_reducible refine hK _ _ ?_); clear hK K) | skip))
                    | ((with_reducible refine mix_step ?_); intro K hK; go_simp; (first | ((with_reducible refine hK _ _ ?_); clear hK K) | skip))))
              (refine wp_mix ?_ ?_ ?_; (focus kernel_rfl); (focus kernel_rfl); intro KK hKK; go_wp2_with (first
                    | (fail)
                    | (with_reducible refine mix_nil ?_)
                    | ((with_reducible refine mix_on ?_ ?_); (focus rfl); intro K hK; go_simp; (first | ((with_reducible refine hK _ _ ?_); clear hK K) | skip))
                    | ((with_reducible refine mix_off ?_ ?_); (focus rfl); intro K hK; go_simp; (first | ((with_reducible refine hK _ _ ?_); clear hK K) | skip))
                    | ((with_reducible refine mix_step ?_); intro K hK; go_simp; (first | ((with_reducible refine hK _ _ ?_); clear hK K) | skip))))
              simp only [jumps]
              refine bodyPost_ret (v := .tuple #[.slice none 0 0, .int .i64 3]) (by simp [results, Tryd.results79, go_sem]) rfl ?_
              rw [HDV.out, if_neg hs6, if_pos hmo]
              exact ⟨none, 0, 0, rfl, World.ownsRow_nil _ _ _ _, (HW.out.trans (HB.out.mono HW.out.size)).drew.drew⟩
            · have hgs := HB.out.size
              have hws : IntKind.u8.wrap (s : Int) = (s : Int) := by rw [u8_wrap, Nat.mod_eq_of_lt (by omega)]
              go_wp2_with fail
              (refine wp_mix ?_ ?_ ?_; (focus kernel_rfl); (focus kernel_rfl); intro KK hKK; go_wp2_with (first
                    | (fail)
                    | (with_reducible refine mix_nil ?_)
                    | ((with_reducible refine mix_on ?_ ?_); (focus rfl); intro K hK; go_simp; (first | ((with_reducible refine hK _ _ ?_); clear hK K) | skip))
                    | ((with_reducible refine mix_off ?_ ?_); (focus rfl); intro K hK; go_simp; (first | ((with_reducible refine hK _ _ ?_); clear hK K) | skip))
                    | ((with_reducible refine mix_step ?_); intro K hK; go_simp; (first | ((with_reducible refine hK _ _ ?_); clear hK K) | skip))))
              (refine wp_mix ?_ ?_ ?_; (focus kernel_rfl); (focus kernel_rfl); intro KK hKK; go_wp2_with (first
                    | (at_builtin; go_loud (refine wpList_app _ rfl _ _ _ rfl w1.heap.size 5 i0 _ 1 1 Tryd.underlying29 hi.out hz.out hsz.out hby.out rfl (by omega) _ o.length _ rfl (HO.out.drew.drew.alloc _) _ 1 1 _ rfl (rd_one rfl) (by simp [Value.oneCell']) (by omega) (by omega) (by simp; omega) ?_; intro A5 c5 w5 ho5 hg5 hc5; have HO5 := hid ho5; have HG5 := hid hg5; clear ho5 hg5 hc5))
                    | (with_reducible refine mix_nil ?_)
                    | ((with_reducible refine mix_on ?_ ?_); (focus rfl); intro K hK; go_simp; (first | ((with_reducible refine hK _ _ ?_); clear hK K) | skip))
                    | ((with_reducible refine mix_off ?_ ?_); (focus rfl); intro K hK; go_simp; (first | ((with_reducible refine hK _ _ ?_); clear hK K) | skip))
                    | ((with_reducible refine mix_step ?_); intro K hK; go_simp; (first | ((with_reducible refine hK _ _ ?_); clear hK K) | skip))))
              have hbv : Value.int .u8 (s : Int) = bv (UInt8.ofNat s) := by
                unfold bv
                rw [UInt8.toNat_ofNat', Nat.mod_eq_of_lt (by omega)]
              rw [hbv] at HO5
              have HD2 : Hid (dec most (bitsB l) 0 0 [] = dec most ((bitsB l).drop (k + 1)) 0 0 (o ++ [UInt8.ofNat s])) := hid (HDV.out.trans ((if_neg hs6).trans (if_neg (by omega))))
              have hbl : Below w1.heap.size w1 w5 := below_app ((HB.out.alloc (by omega) _).drew.drew) ((HO.out.alloc _).drew.drew) HG5.out (Nat.le_refl _) (by simp; omega)
              have HBL := hid hbl
              clear hbl HG5 hbv HDV
              generalize UInt8.ofNat s = by8 at HO5 HD2
              have hlo : (o ++ [by8]).length = o.length + 1 := by rw [List.length_append, List.length_singleton]
              have hO : w5.ownsRow w1.heap.size 5 1 (.slice A5 (o ++ [by8]).length c5) (o ++ [by8]).length ((o ++ [by8]).map bv) := by rw [hlo, List.map_append]; exact HO5.out
              go_step3
              refine ⟨(show JD (some ⟨b, oi, none⟩) n c most l w 1 _ _ from ⟨by decide, w1, g, A5, c5, 0, 0, k + 1, o ++ [by8], ?_, by omega, fun h => by omega, inv_zero, by omega, HK.out, HW.out, HBL.out, hO, HD2.out⟩), by simp [intOf]; omega⟩
              rw [hlo]
              exact frame_some _ rfl
end Go.Proofs.YtjeocmglcgnclaaDoor

/- The code's calls in the form that later walks use. Conditions: at most 2^30 bytes. -/
namespace Go.Proofs.YtjeocmglcgnclaaDoor
open Go.RowKit
attribute [local go_sem] kd kdS

theorem bits_of_calls (A : Option Addr) (n c : Nat) (l : List UInt8) (q : Nat) (w : World) (h : Bs w A n l) (hn : n ≤ 1099511627776) (hq : hbits l = q) :
    Calls Tryd.prog 61 #[.slice A n c] w fun e w' => e = .returned (.int .i64 q) ∧ w = w' := by
  subst hq
  exact Bits_any A n c l w h hn
theorem dec_calls (A : Option Addr) (n c : Nat) (most : Int) (l : List UInt8) (r : List UInt8) (er : Nat) (w : World) (h : Bs w A n l) (hn : n ≤ 1073741824) (hd : dec most (bitsB l) 0 0 [] = (r, er)) :
    Calls Tryd.prog 79 #[.slice A n c, .int .i64 most] w fun e w' => ∃ A2 c2, e = .returned (.tuple #[.slice A2 r.length c2, .int .i64 (er : Int)]) ∧ Bs w' A2 r.length r ∧ Below w.heap.size w w' := by
  refine (Decode_any A n c most l w h hn).mono ?_
  rw [hd]
  rintro e w' ⟨A2, n2, c2, rfl, ho, hb⟩
  have hB := Bs.of_own ho
  have := hB.len
  subst this
  exact ⟨A2, c2, rfl, hB, hb⟩
theorem enc_calls (A : Option Addr) (n c : Nat) (l : List UInt8) (w : World) (h : Bs w A n l) (hn : n ≤ 1073741824) :
    Calls Tryd.prog 62 #[.slice A n c] w fun e w' => ∃ A2 c2 o p, e = .returned (.slice A2 o.length c2) ∧ w'.ownsRow w.heap.size 5 1 (.slice A2 o.length c2) o.length (o.map bv) ∧ bitsB o = bitsL l ++ List.replicate p true ∧ p ≤ 7 ∧ o.length = (hbits l + 7) / 8 ∧ Below w.heap.size w w' := by
  refine (Encode_any A n c l w h hn).mono ?_
  rintro e w' ⟨A2, n2, c2, o, p, rfl, ho, hbo, hp, hb⟩
  have := (Bs.of_own ho).len
  subst this
  exact ⟨A2, c2, o, p, rfl, ho, hbo, hp, enc_len hbo hp, hb⟩
end Go.Proofs.YtjeocmglcgnclaaDoor
