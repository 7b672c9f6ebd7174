/- Joined texts: SplitP StatP Split Stat StatQ StatFd StatOps. Each names its own conditions. -/
import Derived.Test.YtjeocmglcgnclaaDoorGa
import Derived.Lib.Strings
import Derived.Lib.Slices
import Derived.Lib.Walk
import Derived.Lib.Bytealg
import Derived.Deep.OwnRows
import Derived.Deep.CutRange
import Derived.Test.YtjeocmglcgnclaaDoorFdFewJ

/- Splitting a string at a byte: plain lists; and the library's search for a byte, each call once. Each lemma names its own conditions. -/
namespace Go.Proofs.YtjeocmglcgnclaaDoor
open Go.RowKit

/-- The pieces of a list between the bytes c. -/
def spl (c : UInt8) : List UInt8 → List (List UInt8)
  | [] => [[]]
  | x :: r => if x = c then [] :: spl c r else match spl c r with
    | [] => [[x]]
    | h :: t => (x :: h) :: t
theorem spl_len (c : UInt8) (l : List UInt8) : (spl c l).length = l.count c + 1 := by
  induction l with
  | nil => rfl
  | cons x r ih =>
    unfold spl
    by_cases h : x = c
    · rw [if_pos h, List.length_cons, ih, h, List.count_cons_self]
    · rw [if_neg h, List.count_cons_of_ne h]
      rcases hs : spl c r with _ | ⟨a, t⟩
      · rw [hs] at ih; simp at ih
      · rw [hs] at ih; simpa using ih
theorem spl_none {c : UInt8} {l : List UInt8} (h : c ∉ l) : spl c l = [l] := by
  induction l with
  | nil => rfl
  | cons x r ih =>
    have hx : x ≠ c := fun e => h (e ▸ List.mem_cons_self)
    unfold spl
    rw [if_neg hx, ih (fun hm => h (List.mem_cons_of_mem _ hm))]
theorem spl_at {c : UInt8} {p r : List UInt8} (h : c ∉ p) : spl c (p ++ c :: r) = p :: spl c r := by
  induction p with
  | nil =>
    show spl c (c :: r) = _
    rw [spl, if_pos rfl]
  | cons x p ih =>
    have hx : x ≠ c := fun e => h (e ▸ List.mem_cons_self)
    show spl c (x :: (p ++ c :: r)) = _
    rw [spl, if_neg hx, ih (fun hm => h (List.mem_cons_of_mem _ hm))]
/-- Where a byte first stands. -/
theorem index_cases (c : UInt8) : ∀ l : List UInt8, (c ∉ l ∧ Lib.indexByte l c = -1) ∨ ∃ p r, l = p ++ c :: r ∧ c ∉ p ∧ Lib.indexByte l c = p.length
  | [] => .inl ⟨by simp, rfl⟩
  | x :: l => by
    by_cases h : x = c
    · subst h
      exact .inr ⟨[], l, rfl, by simp, by simp [Lib.indexByte]⟩
    · rcases index_cases c l with ⟨h1, h2⟩ | ⟨p, r, h1, h2, h3⟩
      · refine .inl ⟨fun hm => ?_, ?_⟩
        · rcases List.mem_cons.1 hm with e | e
          · exact h e.symm
          · exact h1 e
        · simp [Lib.indexByte, h, h2]
      · refine .inr ⟨x :: p, r, by rw [h1]; rfl, fun hm => ?_, ?_⟩
        · rcases List.mem_cons.1 hm with e | e
          · exact h e.symm
          · exact h2 e
        · simp [Lib.indexByte, h, h3]

set_option maxHeartbeats 1000000 in
set_option maxRecDepth 100000 in
theorem sIndexByte (s : ByteArray) (c : Int) (w : World) :
    Calls Tryd.prog 90 #[.string s, .int .u8 c] w fun e w' => e = .returned (.int .i64 (Lib.indexByte s.data.toList c.toNat.toUInt8)) ∧ w' = w := by
  go_enter Tryd.func90, Tryd.ntmps90
  go_wp2
  rw [run_callFunc_extern Tryd.func94 (by kernel_rfl) (by kernel_rfl) (by kernel_rfl) (e := Extern.BytealgIndexByte.indexByte) (by kernel_rfl), Lib.run_indexByteString]
  simp only [Result.andThen]
  rw [Oper.upon_value]
  go_wp2
  go_ret
  exact ⟨rfl, rfl⟩
set_option maxHeartbeats 2000000 in
set_option maxRecDepth 100000 in
theorem sIndexIn (s : ByteArray) (c : UInt8) (w : World) :
    Calls Tryd.prog 88 #[.string s, .string ⟨#[c]⟩] w fun e w' => e = .returned (.int .i64 (Lib.indexByte s.data.toList c)) ∧ w' = w := by
  go_enter Tryd.func88, Tryd.ntmps88
  go_wp2_with (go_at_call 90; refine (sIndexByte _ _ _).mono ?_; rintro e w' ⟨rfl, rfl⟩)
  · have h : ([c] == s.toList) = true := by assumption
    go_ret
    refine ⟨?_, rfl⟩
    have e : s.data.toList = [c] := by rw [← Lib.toList_data]; exact (beq_iff_eq.1 h).symm
    rw [e]
    simp [Lib.indexByte]
  · go_ret
    exact ⟨rfl, rfl⟩
set_option maxHeartbeats 1000000 in
set_option maxRecDepth 100000 in
theorem sIndex (s : ByteArray) (c : UInt8) (w : World) :
    Calls Tryd.prog 82 #[.string s, .string ⟨#[c]⟩] w fun e w' => e = .returned (.int .i64 (Lib.indexByte s.data.toList c)) ∧ w' = w := by
  go_enter Tryd.func82, Tryd.ntmps82
  go_wp2_with (go_at_call 88; refine (sIndexIn _ _ _).mono ?_; rintro e w' ⟨rfl, rfl⟩)
  go_ret
  exact ⟨rfl, rfl⟩
set_option maxHeartbeats 1000000 in
set_option maxRecDepth 100000 in
theorem sCount (s : ByteArray) (c : UInt8) (w : World) :
    Calls Tryd.prog 81 #[.string s, .string ⟨#[c]⟩] w fun e w' => e = .returned (.int .i64 (Lib.countByte s.data.toList c)) ∧ w' = w := by
  go_enter Tryd.func81, Tryd.ntmps81
  go_wp2
  rw [run_callFunc_extern Tryd.func87 (by kernel_rfl) (by kernel_rfl) (by kernel_rfl) (e := Extern.BytealgCount.count) (by kernel_rfl), Lib.run_countString]
  simp only [Result.andThen]
  rw [Oper.upon_value]
  go_wp2
  go_ret
  exact ⟨rfl, rfl⟩
end Go.Proofs.YtjeocmglcgnclaaDoor

/- The static table: its text, its pieces, and what is found in it. Plain. -/
namespace Go.Proofs.YtjeocmglcgnclaaDoor
open Go.RowKit

set_option maxRecDepth 100000 in
/-- The text. -/
def knownL : List UInt8 := [58, 97, 117, 116, 104, 111, 114, 105, 116, 121, 124, 58, 109, 101, 116, 104, 111, 100, 32, 71, 69, 84, 124, 58, 109, 101, 116, 104, 111, 100, 32, 80, 79, 83, 84, 124, 58, 112, 97, 116, 104, 32, 47, 124, 58, 112, 97, 116, 104, 32, 47, 105, 110, 100, 101, 120, 46, 104, 116, 109, 108, 124, 58, 115, 99, 104, 101, 109, 101, 32, 104, 116, 116, 112, 124, 58, 115, 99, 104, 101, 109, 101, 32, 104, 116, 116, 112, 115, 124, 58, 115, 116, 97, 116, 117, 115, 32, 50, 48, 48, 124, 58, 115, 116, 97, 116, 117, 115, 32, 50, 48, 52, 124, 58, 115, 116, 97, 116, 117, 115, 32, 50, 48, 54, 124, 58, 115, 116, 97, 116, 117, 115, 32, 51, 48, 52, 124, 58, 115, 116, 97, 116, 117, 115, 32, 52, 48, 48, 124, 58, 115, 116, 97, 116, 117, 115, 32, 52, 48, 52, 124, 58, 115, 116, 97, 116, 117, 115, 32, 53, 48, 48, 124, 97, 99, 99, 101, 112, 116, 45, 99, 104, 97, 114, 115, 101, 116, 124, 97, 99, 99, 101, 112, 116, 45, 101, 110, 99, 111, 100, 105, 110, 103, 32, 103, 122, 105, 112, 44, 32, 100, 101, 102, 108, 97, 116, 101, 124, 97, 99, 99, 101, 112, 116, 45, 108, 97, 110, 103, 117, 97, 103, 101, 124, 97, 99, 99, 101, 112, 116, 45, 114, 97, 110, 103, 101, 115, 124, 97, 99, 99, 101, 112, 116, 124, 97, 99, 99, 101, 115, 115, 45, 99, 111, 110, 116, 114, 111, 108, 45, 97, 108, 108, 111, 119, 45, 111, 114, 105, 103, 105, 110, 124, 97, 103, 101, 124, 97, 108, 108, 111, 119, 124, 97, 117, 116, 104, 111, 114, 105, 122, 97, 116, 105, 111, 110, 124, 99, 97, 99, 104, 101, 45, 99, 111, 110, 116, 114, 111, 108, 124, 99, 111, 110, 116, 101, 110, 116, 45, 100, 105, 115, 112, 111, 115, 105, 116, 105, 111, 110, 124, 99, 111, 110, 116, 101, 110, 116, 45, 101, 110, 99, 111, 100, 105, 110, 103, 124, 99, 111, 110, 116, 101, 110, 116, 45, 108, 97, 110, 103, 117, 97, 103, 101, 124, 99, 111, 110, 116, 101, 110, 116, 45, 108, 101, 110, 103, 116, 104, 124, 99, 111, 110, 116, 101, 110, 116, 45, 108, 111, 99, 97, 116, 105, 111, 110, 124, 99, 111, 110, 116, 101, 110, 116, 45, 114, 97, 110, 103, 101, 124, 99, 111, 110, 116, 101, 110, 116, 45, 116, 121, 112, 101, 124, 99, 111, 111, 107, 105, 101, 124, 100, 97, 116, 101, 124, 101, 116, 97, 103, 124, 101, 120, 112, 101, 99, 116, 124, 101, 120, 112, 105, 114, 101, 115, 124, 102, 114, 111, 109, 124, 104, 111, 115, 116, 124, 105, 102, 45, 109, 97, 116, 99, 104, 124, 105, 102, 45, 109, 111, 100, 105, 102, 105, 101, 100, 45, 115, 105, 110, 99, 101, 124, 105, 102, 45, 110, 111, 110, 101, 45, 109, 97, 116, 99, 104, 124, 105, 102, 45, 114, 97, 110, 103, 101, 124, 105, 102, 45, 117, 110, 109, 111, 100, 105, 102, 105, 101, 100, 45, 115, 105, 110, 99, 101, 124, 108, 97, 115, 116, 45, 109, 111, 100, 105, 102, 105, 101, 100, 124, 108, 105, 110, 107, 124, 108, 111, 99, 97, 116, 105, 111, 110, 124, 109, 97, 120, 45, 102, 111, 114, 119, 97, 114, 100, 115, 124, 112, 114, 111, 120, 121, 45, 97, 117, 116, 104, 101, 110, 116, 105, 99, 97, 116, 101, 124, 112, 114, 111, 120, 121, 45, 97, 117, 116, 104, 111, 114, 105, 122, 97, 116, 105, 111, 110, 124, 114, 97, 110, 103, 101, 124, 114, 101, 102, 101, 114, 101, 114, 124, 114, 101, 102, 114, 101, 115, 104, 124, 114, 101, 116, 114, 121, 45, 97, 102, 116, 101, 114, 124, 115, 101, 114, 118, 101, 114, 124, 115, 101, 116, 45, 99, 111, 111, 107, 105, 101, 124, 115, 116, 114, 105, 99, 116, 45, 116, 114, 97, 110, 115, 112, 111, 114, 116, 45, 115, 101, 99, 117, 114, 105, 116, 121, 124, 116, 114, 97, 110, 115, 102, 101, 114, 45, 101, 110, 99, 111, 100, 105, 110, 103, 124, 117, 115, 101, 114, 45, 97, 103, 101, 110, 116, 124, 118, 97, 114, 121, 124, 118, 105, 97, 124, 119, 119, 119, 45, 97, 117, 116, 104, 101, 110, 116, 105, 99, 97, 116, 101]
/-- A piece, parted at its first blank. -/
def cutP : List UInt8 → List UInt8 × List UInt8
  | [] => ([], [])
  | x :: r => if x = 32 then ([], r) else (x :: (cutP r).1, (cutP r).2)
theorem cutP_none {l : List UInt8} (h : (32 : UInt8) ∉ l) : cutP l = (l, []) := by
  induction l with
  | nil => rfl
  | cons x r ih =>
    have hx : x ≠ 32 := fun e => h (e ▸ List.mem_cons_self)
    unfold cutP
    rw [if_neg hx, ih (fun hm => h (List.mem_cons_of_mem _ hm))]
theorem cutP_at {p r : List UInt8} (h : (32 : UInt8) ∉ p) : cutP (p ++ 32 :: r) = (p, r) := by
  induction p with
  | nil => rfl
  | cons x p ih =>
    have hx : x ≠ 32 := fun e => h (e ▸ List.mem_cons_self)
    show cutP (x :: (p ++ 32 :: r)) = _
    unfold cutP
    rw [if_neg hx, ih (fun hm => h (List.mem_cons_of_mem _ hm))]
/-- The table. -/
def tabL : List (List UInt8) := spl 124 knownL
theorem tab_len : tabL.length = 61 := by decide +kernel
theorem known_len : knownL.length ≤ 1000000 := by decide +kernel
theorem tab_short : ∀ l ∈ tabL, l.length ≤ 100 := by decide +kernel
end Go.Proofs.YtjeocmglcgnclaaDoor

/- strings.Split at one byte. Condition: at most a million bytes. -/
namespace Go.Proofs.YtjeocmglcgnclaaDoor
open Go.RowKit
attribute [local go_sem] kd kdS if_min if_max if_minN if_maxN
attribute [local go_sem ↓] sliced_word
attribute [local go_sem] offA_zero

/-- A text of given bytes. -/
def sv (l : List UInt8) : Value := .string ⟨l.toArray⟩
theorem str_info : (Tryd.prog.info? 9).map (fun i => (i.zero, i.size, i.bytes)) = some (some (.string ByteArray.empty), 1, 16) := by kernel_rfl

theorem str_cut (l : List UInt8) (i j : Nat) : (⟨l.toArray⟩ : ByteArray).extract i j = ⟨((l.take j).drop i).toArray⟩ := by
  apply ByteArray.ext
  rw [ByteArray.data_extract]
  apply Array.ext'
  simp [List.drop_take]
theorem made_list (z : Value) (k : Nat) : (madeCells #[z] k).toList = List.replicate k z := by
  apply List.ext_getElem
  · simp [madeCells]
  · intro i h1 h2
    simp [madeCells, Nat.mod_one]
theorem rep_set (a : List Value) (z v : Value) (k j : Nat) (ha : a.length = j) : (a ++ List.replicate (k + 1) z).set j v = (a ++ [v]) ++ List.replicate k z := by
  subst ha
  rw [List.set_append_right _ _ (Nat.le_refl _), Nat.sub_self, List.replicate_succ, List.set_cons_zero, List.append_assoc]
  rfl
theorem Rd.of_blk {w : World} {g : Nat} {t : TypeId} {ca : Array Value} {n : Nat} {xs : List Value} (h : Blk w g t ca) (hx : ca.toList = xs) (hn : xs.length = n) : Rd w 1 (some ⟨g, 0, none⟩) n xs := by
  refine ⟨by omega, fun _ => ⟨g, 0, rfl, fun j u hu => ?_⟩⟩
  rw [Nat.zero_add, h.cell j, ← hu, ← hx]
  simp

set_option maxHeartbeats 1000000 in
set_option maxRecDepth 100000 in
theorem gen_split (l : List UInt8) (c : UInt8) (w : World) (hs : l.length ≤ 1000000) :
    Calls Tryd.prog 72 #[.string ⟨l.toArray⟩, .string ⟨#[c]⟩, .int .i64 0, .int .i64 (-1)] w fun e w' => ∃ A cp, e = .returned (.slice A (spl c l).length cp) ∧ Rd w' 1 A (spl c l).length ((spl c l).map sv) ∧ Below w.heap.size w w' := by
  have hcnt : (Lib.countByte l c : Int) = (l.count c : Int) := by simp [Lib.countByte]
  have hle : l.count c ≤ l.length := List.count_le_length
  obtain ⟨n, hn⟩ : ∃ n, l.count c = n := ⟨_, rfl⟩
  have hnl : n ≤ l.length := by omega
  have hmk : ∀ w : World, (Instr.makeSlice 90 (.int .i64 ((n : Int) + 1)) (.int .i64 ((n : Int) + 1))).run Tryd.prog w = .ok (.slice (some ⟨w.heap.size, 0, none⟩) (n + 1) (n + 1)) (w.alloc (.cells (madeCells #[.string ByteArray.empty] (n + 1)) 9)) := by
    intro w
    rw [show ((n : Int) + 1) = ((n + 1 : Nat) : Int) by omega]
    exact run_make_row' (P := Tryd.prog) 90 9 (.string ByteArray.empty) 16 Tryd.underlying90 str_info rfl .i64 .i64 (n + 1) (by omega) (by omega) w
  have hsz : (⟨l.toArray⟩ : ByteArray).size = l.length := by simp [ByteArray.size]
  have HN := hid hn
  have HL := hid (spl_len c l)
  rw [hn] at HL
  clear hle
  go_enter Tryd.func72, Tryd.ntmps72
  go_wp2_with fail
  have hc0 := sCount ⟨l.toArray⟩ c w
  rw [show ((⟨l.toArray⟩ : ByteArray).data.toList) = l from rfl, hcnt, hn] at hc0
  refine hc0.mono ?_
  rintro e w2 ⟨rfl, rfl⟩
  clear hc0 hcnt hn
  have hq1 := IntWalk.i64_in ((n : Int) + 1) (by omega)
  have hq2 := IntWalk.i64_in ((l.length : Int) + 1) (by omega)
  have hif : (if (n : Int) ≤ (l.length : Int) then (n : Int) + 1 else (l.length : Int) + 1) = (n : Int) + 1 := if_pos (by omega)
  have hmin : min ((n : Int) + 1) ((l.length : Int) + 1) = (n : Int) + 1 := by omega
  have hq3 := IntWalk.i64_in (n : Int) (by omega)
  go_upto_region 10 with fail
  have hblk : Blk (w2.alloc (.cells (madeCells #[.string ByteArray.empty] (n + 1)) 9)) w2.heap.size 9 (madeCells #[.string ByteArray.empty] (n + 1)) := Blk.new w2 _ _
  have hbel : Below w2.heap.size w2 (w2.alloc (.cells (madeCells #[.string ByteArray.empty] (n + 1)) 9)) := (Below.refl _ _).alloc (Nat.le_refl _) _
  generalize w2.alloc (.cells (madeCells #[.string ByteArray.empty] (n + 1)) 9) = wa at hblk hbel ⊢
  have HBK := hid hblk
  have HBL := hid hbel
  clear hmk hif hmin hblk hbel
  go_wp2_with fail
  go_loopw [0, 10] (fun s_ i wr => ∃ (j : Nat) (done : List (List UInt8)) (rest : List UInt8) (ca : Array Value), s_ = .string ⟨rest.toArray⟩ ∧ i = .int .i64 j ∧ spl c l = done ++ spl c rest ∧ done.length = j ∧ j + rest.count c = n ∧ rest.length ≤ 1000000 ∧ Blk wr w2.heap.size 9 ca ∧ ca.toList = done.map sv ++ List.replicate (n + 1 - j) (.string ByteArray.empty) ∧ Below w2.heap.size w2 wr) (fun _ i _ => n - (intOf i).toNat)
  case atStart => exact ⟨0, [], l, _, rfl, rfl, rfl, rfl, by rw [HN.out]; omega, hs, HBK.out, by rw [made_list]; rfl, HBL.out⟩
  case round =>
    obtain ⟨j, done, rest, ca, rfl, rfl, hspl, hdl, hjn, hrl, hbk, hca, hbl⟩ := hrel
    have HSP := hid hspl
    have HDL := hid hdl
    have HCA := hid hca
    have HB1 := hid hbk
    have HB2 := hid hbl
    have hcs : ca.size = n + 1 := by
      have := congrArg List.length hca
      simp at this
      omega
    clear hspl hdl hca hbk hbl HBK HBL
    have hrs : (⟨rest.toArray⟩ : ByteArray).size = rest.length := by simp [ByteArray.size]
    by_cases hjk : j < n
    · rcases index_cases c rest with ⟨h1, h2⟩ | ⟨p, r, hpr, h2, h3⟩
      · have : rest.count c = 0 := List.count_eq_zero.2 h1
        omega
      · subst hpr
        have hix := sIndex ⟨(p ++ c :: r).toArray⟩ c wr
        rw [show ((⟨(p ++ c :: r).toArray⟩ : ByteArray).data.toList) = p ++ c :: r from rfl, h3] at hix
        have HIX := hid hix
        have HP := hid h2
        have hpl : p.length + 1 + r.length ≤ 1000000 := by simp at hrl; omega
        have hq4 := IntWalk.i64_in (p.length : Int) (by omega)
        have hq5 := IntWalk.i64_in ((p.length : Int) + 1) (by omega)
        have hneg : ¬ (p.length : Int) < 0 := by omega
        have hcell : wr.cell? ⟨w2.heap.size, j, none⟩ = some (.string ByteArray.empty) := by
          rw [HB1.out.cell j]
          have := HCA.out
          rw [← Array.getElem?_toList, this, List.getElem?_append_right (by simp [HDL.out]), List.getElem?_replicate, if_pos (by rw [List.length_map, HDL.out]; omega)]
        have hco : (p ++ c :: r).count c = 1 + r.count c := by
          rw [List.count_append, List.count_eq_zero.2 h2, List.count_cons_self]
          omega
        have hx0 : (⟨(p ++ c :: r).toArray⟩ : ByteArray).extract 0 p.length = ⟨p.toArray⟩ := by
          rw [str_cut, List.take_left]
          rfl
        have hx1 : (⟨(p ++ c :: r).toArray⟩ : ByteArray).extract (p.length + 1) (p.length + 1 + r.length) = ⟨r.toArray⟩ := by
          rw [str_cut, List.take_of_length_le (by simp; omega), show p ++ c :: r = (p ++ [c]) ++ r by simp, List.drop_left' (by simp)]
        have HX := hid (And.intro hx0 hx1)
        have hjn2 : j + 1 + r.count c = n := by omega
        have HJ := hid hjn2
        clear hco hx0 hx1 hjn hjn2
        have hfz := HB1.out.frozen j
        have hsz2 : (⟨(p ++ c :: r).toArray⟩ : ByteArray).size = p.length + 1 + r.length := by simp [ByteArray.size]; omega
        clear hix h2 h3 hrs hsz
        go_wp2_with fail
        refine HIX.out.mono ?_
        rintro e w3 ⟨rfl, rfl⟩
        go_wp2_with fail
        go_roundw
        rw [HX.out.1, HX.out.2]
        case rel => exact ⟨j + 1, done ++ [p], r, ca.setIfInBounds j (sv p), rfl, by go_num, by rw [HSP.out, spl_at HP.out, List.append_assoc]; rfl, by simp [HDL.out], HJ.out, by omega, HB1.out.set_ j (sv p), by
          rw [Array.toList_setIfInBounds, HCA.out, show n + 1 - j = (n - j) + 1 by omega, rep_set _ _ _ _ _ (by simp [HDL.out]), List.map_append, show n + 1 - (j + 1) = n - j by omega]
          rfl, HB2.out.setCell (Nat.le_refl _) _⟩
        case measure => simp [intOf]; omega
    · have hjn2 : j = n := by omega
      subst hjn2
      have hc0 : c ∉ rest := List.count_eq_zero.1 (by omega)
      have HC0 := hid hc0
      have hcell : wr.cell? ⟨w2.heap.size, j, none⟩ = some (.string ByteArray.empty) := by
        rw [HB1.out.cell j]
        have := HCA.out
        rw [← Array.getElem?_toList, this, List.getElem?_append_right (by simp [HDL.out])]
        simp [HDL.out]
      have hfz := HB1.out.frozen j
      clear hc0 hrs hsz hjn
      go_wp2_with fail
      go_ret
      have hl := HL.out
      have hfin : (ca.setIfInBounds j (sv rest)).toList = (spl c l).map sv := by
        rw [Array.toList_setIfInBounds, HCA.out, HSP.out, spl_none HC0.out, show j + 1 - j = 0 + 1 by omega, rep_set _ _ _ _ _ (by simp [HDL.out])]
        simp
      rw [hl]
      exact ⟨_, _, rfl, Rd.of_blk (HB1.out.set_ j (sv rest)) hfin (by rw [List.length_map, hl]), HB2.out.setCell (Nat.le_refl _) _⟩
end Go.Proofs.YtjeocmglcgnclaaDoor

/- The package stat: split, Get and Find, each call once. Each lemma names its own conditions. -/
namespace Go.Proofs.YtjeocmglcgnclaaDoor
open Go.RowKit
attribute [local go_sem] kd kdS if_min if_max if_minN if_maxN
attribute [local go_sem ↓] sliced_word
attribute [local go_sem] offA_zero

set_option maxHeartbeats 1000000 in
set_option maxRecDepth 100000 in
theorem cut_in (l : List UInt8) (w : World) (hs : l.length ≤ 1000000) :
    Calls Tryd.prog 83 #[.string ⟨l.toArray⟩, .string { data := #[32] }] w fun e w' => ∃ b, e = .returned (.tuple #[sv (cutP l).1, sv (cutP l).2, .bool b]) ∧ Below w.heap.size w w' := by
  rcases index_cases 32 l with ⟨h1, h2⟩ | ⟨p, r, hpr, h2, h3⟩
  · have hix := sIndexIn ⟨l.toArray⟩ 32 w
    rw [show ((⟨l.toArray⟩ : ByteArray).data.toList) = l from rfl, h2] at hix
    rw [cutP_none h1]
    have HIX := hid hix
    clear hix h1 h2
    go_enter Tryd.func83, Tryd.ntmps83
    go_wp2_with fail
    refine HIX.out.mono ?_
    rintro e w3 ⟨rfl, rfl⟩
    go_wp2_with fail
    refine bodyPost_ret (v := .tuple #[sv l, sv [], .bool false]) (by simp [sv, results, Tryd.results83, go_sem]) rfl ⟨false, rfl, Below.refl _ _⟩
  · subst hpr
    have hix := sIndexIn ⟨(p ++ 32 :: r).toArray⟩ 32 w
    rw [show ((⟨(p ++ 32 :: r).toArray⟩ : ByteArray).data.toList) = p ++ 32 :: r from rfl, h3] at hix
    rw [cutP_at h2]
    have HIX := hid hix
    have hpl : p.length + 1 + r.length ≤ 1000000 := by simp at hs; omega
    have hq4 := IntWalk.i64_in (p.length : Int) (by omega)
    have hq5 := IntWalk.i64_in ((p.length : Int) + 1) (by omega)
    have hneg : (0 : Int) ≤ (p.length : Int) := by omega
    have hsz2 : (⟨(p ++ 32 :: r).toArray⟩ : ByteArray).size = p.length + 1 + r.length := by simp [ByteArray.size]; omega
    have hx0 : (⟨(p ++ 32 :: r).toArray⟩ : ByteArray).extract 0 p.length = ⟨p.toArray⟩ := by
      rw [str_cut, List.take_left]
      rfl
    have hx1 : (⟨(p ++ 32 :: r).toArray⟩ : ByteArray).extract (p.length + 1) (p.length + 1 + r.length) = ⟨r.toArray⟩ := by
      rw [str_cut, List.take_of_length_le (by simp; omega), show p ++ 32 :: r = (p ++ [32]) ++ r by simp, List.drop_left' (by simp)]
    clear hix h2 h3 hs
    go_enter Tryd.func83, Tryd.ntmps83
    go_wp2_with fail
    refine HIX.out.mono ?_
    rintro e w3 ⟨rfl, rfl⟩
    go_wp2_with fail
    (refine wp_mix ?_ ?_ ?_; (focus kernel_rfl); (focus kernel_rfl); intro KK hKK; go_wp2_with (first
          | (fail)
          | (with_reducible refine mix_nil ?_)
          | ((with_reducible refine mix_on ?_ ?_); (focus rfl); intro K hK; go_simp; (first | ((with_reducible refine hK _ _ ?_); clear hK K) | skip))
          | ((with_reducible refine mix_off ?_ ?_); (focus rfl); intro K hK; go_simp; (first | ((with_reducible refine hK _ _ ?_); clear hK K) | skip))
          | ((with_reducible refine mix_step ?_); intro K hK; go_simp; (first | ((with_reducible refine hK _ _ ?_); clear hK K) | skip))))
    refine bodyPost_ret (v := .tuple #[sv p, sv r, .bool true]) (by simp [sv, results, Tryd.results83, go_sem]) rfl ⟨true, rfl, (Below.refl _ _).drew⟩
set_option maxHeartbeats 1000000 in
set_option maxRecDepth 100000 in
theorem cut_any (l : List UInt8) (w : World) (hs : l.length ≤ 1000000) :
    Calls Tryd.prog 73 #[.string ⟨l.toArray⟩, .string { data := #[32] }] w fun e w' => ∃ b, e = .returned (.tuple #[sv (cutP l).1, sv (cutP l).2, .bool b]) ∧ Below w.heap.size w w' := by
  have hc := cut_in l w hs
  generalize cutP l = q at hc ⊢
  have HC := hid hc
  clear hc
  go_enter Tryd.func73, Tryd.ntmps73
  go_wp2_with fail
  refine HC.out.mono ?_
  rintro e w3 ⟨b, rfl, hb⟩
  unfold sv
  go_wp2_with fail
  refine bodyPost_ret (v := .tuple #[sv q.1, sv q.2, .bool b]) (by simp [sv, results, Tryd.results73, go_sem]) rfl ⟨b, rfl, hb⟩
/-- A field. -/
def fdv (q : List UInt8 × List UInt8) : Value := .agg #[sv q.1, sv q.2, .bool false]
set_option maxHeartbeats 1000000 in
set_option maxRecDepth 100000 in
theorem split_any (l : List UInt8) (w : World) (hs : l.length ≤ 1000000) :
    Calls Tryd.prog 60 #[.string ⟨l.toArray⟩] w fun e w' => e = .returned (fdv (cutP l)) ∧ Below w.heap.size w w' := by
  have hc := fun w => cut_any l w hs
  generalize cutP l = q at hc ⊢
  have HC := hid hc
  clear hc
  unfold fdv sv
  go_enter Tryd.func60, Tryd.ntmps60
  go_wp2_with fail
  refine (HC.out _).mono ?_
  rintro e w3 ⟨b, rfl, hb⟩
  have hk := (Blk.new w 23 #[.string ByteArray.empty, .string ByteArray.empty, .bool false]).below hb (by simp)
  have hbw : Below w.heap.size w w3 := ((Below.refl _ _).alloc (Nat.le_refl _) _).trans (hb.mono (by simp))
  have k0 : w3.cell? ⟨w.heap.size, 0, none⟩ = some (.string ByteArray.empty) := hk.cell 0
  have k1 : w3.cell? ⟨w.heap.size, 1, none⟩ = some (.string ByteArray.empty) := hk.cell 1
  have k2 : w3.cell? ⟨w.heap.size, 2, none⟩ = some (.bool false) := hk.cell 2
  have f0 := hk.frozen 0
  have f1 := hk.frozen 1
  have f2 := hk.frozen 2
  have HBW := hid hbw
  clear hk hbw hb HC
  unfold sv
  go_wp2_with fail
  have ht : Turned [w.heap.size] w3 (((w3.setCell ⟨w.heap.size, 0, none⟩ (.string ⟨q.1.toArray⟩)).setCell ⟨w.heap.size, 1, none⟩ (.string ⟨q.2.toArray⟩)).setCell ⟨w.heap.size, 2, none⟩ (.bool false)) :=
    (((Turned.refl _ _).setCell (by simp) _).setCell (by simp) _).setCell (by simp) _
  refine bodyPost_ret (v := .agg #[.string ⟨q.1.toArray⟩, .string ⟨q.2.toArray⟩, .bool false]) (by simp only [results, Tryd.results60]; go_simp) rfl ⟨rfl, HBW.out.trans (ht.below (by simp) HBW.out.size)⟩

theorem tab_small {i : Nat} (h : i < 61) : ∃ l, tabL[i]? = some l ∧ l.length ≤ 100 := by
  have hl := tab_len
  refine ⟨tabL[i]'(by omega), List.getElem?_eq_getElem _, tab_short _ (List.getElem_mem _)⟩
/-- The table's field i, from 1 on. -/
def tabF (i : Nat) : List UInt8 × List UInt8 := cutP (tabL.getD (i - 1) [])

set_option maxHeartbeats 1000000 in
set_option maxRecDepth 100000 in
theorem Split_known (w : World) : Calls Tryd.prog 59 #[.string ⟨knownL.toArray⟩, .string ⟨#[124]⟩] w fun e w' => ∃ A cp, e = .returned (.slice A 61 cp) ∧ Rd w' 1 A 61 (tabL.map sv) ∧ Below w.heap.size w w' := by
  have hg := gen_split knownL 124 w known_len
  rw [show spl 124 knownL = tabL from rfl, tab_len] at hg
  have HG := hid hg
  clear hg
  generalize knownL = kl at HG
  go_enter Tryd.func59, Tryd.ntmps59
  go_wp2_with fail
  refine HG.out.mono ?_
  rintro e w2 ⟨A, cp, rfl, hr, hb⟩
  go_wp2_with fail
  go_ret
  exact ⟨A, cp, rfl, hr, hb⟩

set_option maxHeartbeats 1000000 in
set_option maxRecDepth 100000 in
theorem get_no (i : Int) (w : World) (hi : i < 1 ∨ 61 < i) : Calls Tryd.prog 70 #[.int .i64 i] w fun e w' => e = .returned (.tuple #[.agg #[.string ByteArray.empty, .string ByteArray.empty, .bool false], .bool false]) ∧ Below w.heap.size w w' := by
  go_enter Tryd.func70, Tryd.ntmps70
  by_cases h1 : i < 1
  · clear hi
    go_wp2_with fail
    refine bodyPost_ret (v := .tuple #[.agg #[.string ByteArray.empty, .string ByteArray.empty, .bool false], .bool false]) (by simp only [results, Tryd.results70]; go_simp; rfl) rfl ⟨rfl, (Below.refl _ _).alloc (Nat.le_refl _) _⟩
  · have h2 : 61 < i := by omega
    clear hi
    go_wp2_with fail
    refine bodyPost_ret (v := .tuple #[.agg #[.string ByteArray.empty, .string ByteArray.empty, .bool false], .bool false]) (by simp only [results, Tryd.results70]; go_simp; rfl) rfl ⟨rfl, (Below.refl _ _).alloc (Nat.le_refl _) _⟩
set_option maxHeartbeats 1000000 in
set_option maxRecDepth 100000 in
theorem get_yes (i : Nat) (w : World) (h1 : 1 ≤ i) (h2 : i ≤ 61) : Calls Tryd.prog 70 #[.int .i64 i] w fun e w' => e = .returned (.tuple #[fdv (tabF i), .bool true]) ∧ Below w.heap.size w w' := by
  obtain ⟨l, hl, hll⟩ := tab_small (i := i - 1) (by omega)
  have hF : Hid (tabF i = cutP l) := hid (by unfold tabF; rw [List.getD_eq_getElem?_getD, hl]; rfl)
  have HS := hid (fun w => split_any l w (by omega))
  have hq := IntWalk.i64_in ((i : Int) - 1) (by omega)
  obtain ⟨k, hk⟩ : ∃ k : Nat, (i : Int) - 1 = (k : Int) := ⟨i - 1, by omega⟩
  have hki : k = i - 1 := by omega
  have HL := hid (hki ▸ hl)
  have hk1 : (k : Int) < 61 := by omega
  have hi1 : ¬ (i : Int) < 1 := by omega
  have hi2 : ¬ (61 : Int) < (i : Int) := by omega
  rw [hF.out]
  generalize cutP l = q at HS ⊢
  clear hl hll h1 h2 hki hF
  go_enter Tryd.func70, Tryd.ntmps70
  go_wp2_with fail
  refine (Split_known _).mono ?_
  rintro e w2 ⟨A, cp, rfl, hr, hb⟩
  have hbw : Below w.heap.size w w2 := ((Below.refl _ _).alloc (Nat.le_refl _) _).trans (hb.mono (by simp))
  have hkb := (Blk.new w 23 #[.string ByteArray.empty, .string ByteArray.empty, .bool false]).below hb (by simp)
  obtain ⟨b, o, hA, hc⟩ := hr.2 (by omega)
  subst hA
  have hcell : w2.cell? ⟨b, o + k, none⟩ = some (.string ⟨l.toArray⟩) := hc k _ (by rw [List.getElem?_map, HL.out]; rfl)
  have HBW := hid hbw
  have HKB := hid hkb
  clear hc hr hb hbw hkb
  go_wp2_with fail
  refine (HS.out _).mono ?_
  rintro e w3 ⟨rfl, hb3⟩
  have hk := HKB.out.below hb3 HKB.out.lt
  have k0 : w3.cell? ⟨w.heap.size, 0, none⟩ = some (.string ByteArray.empty) := hk.cell 0
  have k1 : w3.cell? ⟨w.heap.size, 1, none⟩ = some (.string ByteArray.empty) := hk.cell 1
  have k2 : w3.cell? ⟨w.heap.size, 2, none⟩ = some (.bool false) := hk.cell 2
  have f0 := hk.frozen 0
  have f1 := hk.frozen 1
  have f2 := hk.frozen 2
  have HB3 := hid (HBW.out.trans (hb3.mono HBW.out.size))
  clear hk hb3 HKB hcell
  unfold fdv sv
  go_wp2_with fail
  have ht : Turned [w.heap.size] w3 (((w3.setCell ⟨w.heap.size, 0, none⟩ (.string ⟨q.1.toArray⟩)).setCell ⟨w.heap.size, 1, none⟩ (.string ⟨q.2.toArray⟩)).setCell ⟨w.heap.size, 2, none⟩ (.bool false)) :=
    (((Turned.refl _ _).setCell (by simp) _).setCell (by simp) _).setCell (by simp) _
  refine bodyPost_ret (v := .tuple #[.agg #[.string ⟨q.1.toArray⟩, .string ⟨q.2.toArray⟩, .bool false], .bool true]) (by simp only [results, Tryd.results70]; go_simp) rfl ⟨rfl, HB3.out.trans (ht.below (by simp) HB3.out.size)⟩

/-- What Find finds among the first k pieces: the first with both, the first with the name, from 1 on; 0: none. -/
def findP (nm vl : List UInt8) (k : Nat) : Nat × Nat :=
  (List.range k).foldl (fun r i =>
    if (tabF (i + 1)).1 = nm then ((if r.1 = 0 ∧ (tabF (i + 1)).2 = vl then i + 1 else r.1), (if r.2 = 0 then i + 1 else r.2)) else r) (0, 0)
theorem findP_succ (nm vl : List UInt8) (k : Nat) : findP nm vl (k + 1) =
    if (tabF (k + 1)).1 = nm then ((if (findP nm vl k).1 = 0 ∧ (tabF (k + 1)).2 = vl then k + 1 else (findP nm vl k).1), (if (findP nm vl k).2 = 0 then k + 1 else (findP nm vl k).2)) else findP nm vl k := by
  unfold findP
  rw [List.range_succ, List.foldl_append]
  rfl
theorem findP_le (nm vl : List UInt8) (k : Nat) : (findP nm vl k).1 ≤ k ∧ (findP nm vl k).2 ≤ k := by
  induction k with
  | zero => exact ⟨Nat.le_refl _, Nat.le_refl _⟩
  | succ k ih =>
    rw [findP_succ]
    split
    · obtain ⟨h1, h2⟩ := ih
      refine ⟨?_, ?_⟩
      · dsimp only
        split
        · exact Nat.le_refl _
        · exact Nat.le_succ_of_le h1
      · dsimp only
        split
        · exact Nat.le_refl _
        · exact Nat.le_succ_of_le h2
    · exact ⟨Nat.le_succ_of_le ih.1, Nat.le_succ_of_le ih.2⟩
theorem str_eq (a b : List UInt8) : ((⟨a.toArray⟩ : ByteArray) == ⟨b.toArray⟩) = decide (a = b) := by
  rcases h : ((⟨a.toArray⟩ : ByteArray) == ⟨b.toArray⟩) with _ | _
  · symm
    apply decide_eq_false
    intro e
    subst e
    rw [(MapKept.bytes_beq _ _).2 rfl] at h
    cases h
  · have := (MapKept.bytes_beq _ _).1 h
    injection this with this
    have := congrArg Array.toList this
    simp at this
    rw [decide_eq_true this]

set_option maxHeartbeats 4000000 in
set_option maxRecDepth 100000 in
theorem find_any (nm vl : List UInt8) (w : World) : Calls Tryd.prog 43 #[.string ⟨nm.toArray⟩, .string ⟨vl.toArray⟩] w fun e w' => e = .returned (.tuple #[.int .i64 ((findP nm vl 61).1 : Nat), .int .i64 ((findP nm vl 61).2 : Nat)]) ∧ Below w.heap.size w w' := by
  go_enter Tryd.func43, Tryd.ntmps43
  go_wp2_with fail
  refine (Split_known _).mono ?_
  rintro e w2 ⟨A, cp, rfl, hr, hb⟩
  have HR := hid hr
  have HB := hid hb
  clear hr hb
  go_wp2_with fail
  go_loopw [6, 7, 13] (fun both one i wr => ∃ k : Nat, k ≤ 61 ∧ i = .int .i64 k ∧ both = .int .i64 ((findP nm vl k).1 : Nat) ∧ one = .int .i64 ((findP nm vl k).2 : Nat) ∧ Below w2.heap.size w2 wr) (fun _ _ i _ => 61 - (intOf i).toNat)
  case atStart => exact ⟨0, by omega, rfl, rfl, rfl, Below.refl _ _⟩
  case round =>
    obtain ⟨k, hk, rfl, rfl, rfl, hbr⟩ := hrel
    have HBR := hid hbr
    clear hbr
    by_cases hk61 : k < 61
    · obtain ⟨l, hl, hll⟩ := tab_small hk61
      have HF : Hid (tabF (k + 1) = cutP l) := hid (by unfold tabF; rw [Nat.add_sub_cancel, List.getD_eq_getElem?_getD, hl]; rfl)
      have HS := hid (fun w => split_any l w (by omega))
      have HN := hid (findP_succ nm vl k)
      have hfl := findP_le nm vl k
      rw [HF.out] at HN
      generalize cutP l = q at HF HS HN
      generalize findP nm vl k = fk at HN hfl
      obtain ⟨b, o, hA, hc⟩ := HR.out.2 (by omega)
      subst hA
      have hcell : wr.cell? ⟨b, o + k, none⟩ = some (.string ⟨l.toArray⟩) := below_keep HBR.out _ _ (hc k _ (by rw [List.getElem?_map, hl]; rfl))
      clear hc hl hll HF
      go_wp2_with fail
      refine (HS.out _).mono ?_
      rintro e w3 ⟨rfl, hb3⟩
      have HB3 := hid (HBR.out.trans (hb3.mono HBR.out.size))
      clear hb3 hcell
      unfold fdv sv
      have hw := IntWalk.i64_in ((k : Int) + 1) (by omega)
      by_cases h1 : q.1 = nm
      · rw [if_pos h1] at HN
        have b1 : (q.1 == nm) = true := beq_iff_eq.2 h1
        by_cases h2 : fk.2 = 0
        · rw [if_pos h2] at HN
          by_cases h3 : fk.1 = 0
          · by_cases h4 : q.2 = vl
            · rw [if_pos ⟨h3, h4⟩] at HN
              have b4 : (q.2 == vl) = true := beq_iff_eq.2 h4
              clear h1 h4
              go_wp2_with fail
              all_goals
                go_roundw
                case rel => exact ⟨k + 1, by omega, by go_num, by first | (rw [HN.out]; go_num; done) | (rw [HN.out]; done) | (rw [HN.out]; simp [*]; done), by first | (rw [HN.out]; go_num; done) | (rw [HN.out]; done) | (rw [HN.out]; simp [*]; done), HB3.out.alloc HB3.out.size _⟩
                case measure => simp [intOf]; omega
            · rw [if_neg (fun h => h4 h.2)] at HN
              have b4 : (q.2 == vl) = false := beq_eq_false_iff_ne.2 h4
              clear h1 h4
              go_wp2_with fail
              all_goals
                go_roundw
                case rel => exact ⟨k + 1, by omega, by go_num, by first | (rw [HN.out]; go_num; done) | (rw [HN.out]; done) | (rw [HN.out]; simp [*]; done), by first | (rw [HN.out]; go_num; done) | (rw [HN.out]; done) | (rw [HN.out]; simp [*]; done), HB3.out.alloc HB3.out.size _⟩
                case measure => simp [intOf]; omega
          · rw [if_neg (fun h => h3 h.1)] at HN
            have h3' : ¬ (fk.1 : Int) = 0 := by omega
            have b3 : ((fk.1 : Int) == 0) = false := by simp [h3]
            clear h1 h3
            go_wp2_with fail
            all_goals
              go_roundw
              case rel => exact ⟨k + 1, by omega, by go_num, by first | (rw [HN.out]; go_num; done) | (rw [HN.out]; done) | (rw [HN.out]; simp [*]; done), by first | (rw [HN.out]; go_num; done) | (rw [HN.out]; done) | (rw [HN.out]; simp [*]; done), HB3.out.alloc HB3.out.size _⟩
              case measure => simp [intOf]; omega
        · rw [if_neg h2] at HN
          have h2' : ¬ (fk.2 : Int) = 0 := by omega
          have b2 : ((fk.2 : Int) == 0) = false := by simp [h2]
          by_cases h3 : fk.1 = 0
          · by_cases h4 : q.2 = vl
            · rw [if_pos ⟨h3, h4⟩] at HN
              have b4 : (q.2 == vl) = true := beq_iff_eq.2 h4
              clear h1 h2 h4
              go_wp2_with fail
              all_goals
                go_roundw
                case rel => exact ⟨k + 1, by omega, by go_num, by first | (rw [HN.out]; go_num; done) | (rw [HN.out]; done) | (rw [HN.out]; simp [*]; done), by first | (rw [HN.out]; go_num; done) | (rw [HN.out]; done) | (rw [HN.out]; simp [*]; done), HB3.out.alloc HB3.out.size _⟩
                case measure => simp [intOf]; omega
            · rw [if_neg (fun h => h4 h.2)] at HN
              have b4 : (q.2 == vl) = false := beq_eq_false_iff_ne.2 h4
              clear h1 h2 h4
              go_wp2_with fail
              all_goals
                go_roundw
                case rel => exact ⟨k + 1, by omega, by go_num, by first | (rw [HN.out]; go_num; done) | (rw [HN.out]; done) | (rw [HN.out]; simp [*]; done), by first | (rw [HN.out]; go_num; done) | (rw [HN.out]; done) | (rw [HN.out]; simp [*]; done), HB3.out.alloc HB3.out.size _⟩
                case measure => simp [intOf]; omega
          · rw [if_neg (fun h => h3 h.1)] at HN
            have h3' : ¬ (fk.1 : Int) = 0 := by omega
            have b3 : ((fk.1 : Int) == 0) = false := by simp [h3]
            clear h1 h2 h3
            go_wp2_with fail
            all_goals
              go_roundw
              case rel => exact ⟨k + 1, by omega, by go_num, by first | (rw [HN.out]; go_num; done) | (rw [HN.out]; done) | (rw [HN.out]; simp [*]; done), by first | (rw [HN.out]; go_num; done) | (rw [HN.out]; done) | (rw [HN.out]; simp [*]; done), HB3.out.alloc HB3.out.size _⟩
              case measure => simp [intOf]; omega
      · rw [if_neg h1] at HN
        have b1 : (q.1 == nm) = false := beq_eq_false_iff_ne.2 h1
        clear h1
        go_wp2_with fail
        all_goals
          go_roundw
          case rel => exact ⟨k + 1, by omega, by go_num, by first | (rw [HN.out]; go_num; done) | (rw [HN.out]; done) | (rw [HN.out]; simp [*]; done), by first | (rw [HN.out]; go_num; done) | (rw [HN.out]; done) | (rw [HN.out]; simp [*]; done), HB3.out.alloc HB3.out.size _⟩
          case measure => simp [intOf]; omega
    · obtain rfl : k = 61 := by omega
      clear hk hk61
      go_wp2_with fail
      generalize findP nm vl 61 = f61
      refine bodyPost_ret (v := .tuple #[.int .i64 (f61.1 : Nat), .int .i64 (f61.2 : Nat)]) (by simp [results, Tryd.results43, go_sem]) rfl ⟨rfl, HB.out.trans (HBR.out.mono HB.out.size)⟩
end Go.Proofs.YtjeocmglcgnclaaDoor

/- What the static table holds, told by the kernel's own run. Plain. -/
namespace Go.Proofs.YtjeocmglcgnclaaDoor
open Go.RowKit

/-- Each entry is found where it is, or lower, alike. -/
def okF (i : Nat) : Bool :=
  let q := tabF (i + 1)
  let r := findP q.1 q.2 61
  decide (1 ≤ r.1) && decide (r.1 ≤ i + 1) && decide (1 ≤ r.2) && decide (r.2 ≤ r.1) && (tabF r.1 == q)
set_option maxRecDepth 100000 in
theorem okF_all : ((List.range 61).all okF) = true := by decide +kernel
theorem okF_at {i : Nat} (h1 : 1 ≤ i) (h2 : i ≤ 61) : 1 ≤ (findP (tabF i).1 (tabF i).2 61).1 ∧ (findP (tabF i).1 (tabF i).2 61).1 ≤ i ∧ 1 ≤ (findP (tabF i).1 (tabF i).2 61).2 ∧ (findP (tabF i).1 (tabF i).2 61).2 ≤ (findP (tabF i).1 (tabF i).2 61).1 ∧ tabF (findP (tabF i).1 (tabF i).2 61).1 = tabF i := by
  have h := List.all_eq_true.1 okF_all (i - 1) (List.mem_range.2 (by omega))
  unfold okF at h
  rw [show i - 1 + 1 = i by omega] at h
  simp only [Bool.and_eq_true, decide_eq_true_eq, beq_iff_eq] at h
  obtain ⟨⟨⟨⟨a, b⟩, c⟩, d⟩, e⟩ := h
  exact ⟨a, b, c, d, e⟩
/-- What is found has that name and value. -/
theorem findP_says (nm vl : List UInt8) (k : Nat) : ((findP nm vl k).1 = 0 ∨ (1 ≤ (findP nm vl k).1 ∧ (tabF (findP nm vl k).1).1 = nm ∧ (tabF (findP nm vl k).1).2 = vl ∧ 1 ≤ (findP nm vl k).2)) ∧ ((findP nm vl k).2 = 0 ∨ (1 ≤ (findP nm vl k).2 ∧ (tabF (findP nm vl k).2).1 = nm)) := by
  induction k with
  | zero => exact ⟨.inl rfl, .inl rfl⟩
  | succ k ih =>
    rw [findP_succ]
    by_cases h1 : (tabF (k + 1)).1 = nm
    · rw [if_pos h1]
      dsimp only
      by_cases h2 : (findP nm vl k).2 = 0
      · rw [if_pos h2]
        refine ⟨?_, .inr ⟨by omega, h1⟩⟩
        by_cases h3 : (findP nm vl k).1 = 0 ∧ (tabF (k + 1)).2 = vl
        · rw [if_pos h3]
          exact .inr ⟨by omega, h1, h3.2, by omega⟩
        · rw [if_neg h3]
          rcases ih.1 with h | h
          · exact .inl h
          · omega
      · rw [if_neg h2]
        refine ⟨?_, ih.2⟩
        by_cases h3 : (findP nm vl k).1 = 0 ∧ (tabF (k + 1)).2 = vl
        · rw [if_pos h3]
          exact .inr ⟨by omega, h1, h3.2, by omega⟩
        · rw [if_neg h3]
          exact ih.1
    · rw [if_neg h1]
      exact ih
end Go.Proofs.YtjeocmglcgnclaaDoor

/- A field's cells in a block of its own; what stat.Get answers, in one form. No condition. -/
namespace Go.Proofs.YtjeocmglcgnclaaDoor
open Go.RowKit
attribute [local go_sem] kd kdS if_min if_max if_minN if_maxN
attribute [local go_sem ↓] sliced_word
attribute [local go_sem] offA_zero

/-- A field's cells in a block of its own. -/
def FdAt (w : World) (g : Nat) (q : List UInt8 × List UInt8) : Prop := Blk w g 23 #[sv q.1, sv q.2, .bool false]
theorem FdAt.below {w w' : World} {g : Nat} {q : List UInt8 × List UInt8} (h : FdAt w g q) (hb : Below w.heap.size w w') : FdAt w' g q := Blk.below h hb (Blk.lt h)
theorem FdAt.c {w : World} {g : Nat} {q : List UInt8 × List UInt8} (h : FdAt w g q) : w.cell? ⟨g, 0, none⟩ = some (.string ⟨q.1.toArray⟩) ∧ w.cell? ⟨g, 1, none⟩ = some (.string ⟨q.2.toArray⟩) ∧ w.cell? ⟨g, 2, none⟩ = some (.bool false) := ⟨Blk.cell h 0, Blk.cell h 1, Blk.cell h 2⟩
/-- What Get answers, in one form. -/
theorem sget_any (i : Int) (w : World) : Calls Tryd.prog 70 #[.int .i64 i] w fun e w' => ∃ q, e = .returned (.tuple #[.agg #[.string ⟨q.1.toArray⟩, .string ⟨q.2.toArray⟩, .bool false], .bool (decide (1 ≤ i ∧ i ≤ 61))]) ∧ (1 ≤ i → i ≤ 61 → q = tabF i.toNat) ∧ Below w.heap.size w w' := by
  by_cases h : 1 ≤ i ∧ i ≤ 61
  · obtain ⟨n, rfl⟩ : ∃ n : Nat, i = n := ⟨i.toNat, by omega⟩
    refine (get_yes n w (by omega) (by omega)).mono ?_
    rintro e w' ⟨rfl, hb⟩
    rw [decide_eq_true h]
    exact ⟨tabF n, rfl, fun _ _ => rfl, hb⟩
  · refine (get_no i w (by omega)).mono ?_
    rintro e w' ⟨rfl, hb⟩
    rw [decide_eq_false h]
    exact ⟨([], []), rfl, fun h1 h2 => absurd ⟨h1, h2⟩ h, hb⟩

/-- Get of an index that may be 0. -/
theorem get_or (r : Nat) (hr : r ≤ 61) (P : List UInt8 × List UInt8 → Prop) (hP : 1 ≤ r → P (tabF r)) : ∃ (a : List UInt8 × List UInt8) (b : Bool), (∀ w, Calls Tryd.prog 70 #[.int .i64 r] w fun e w' => e = .returned (.tuple #[.agg #[.string ⟨a.1.toArray⟩, .string ⟨a.2.toArray⟩, .bool false], .bool b]) ∧ Below w.heap.size w w') ∧ ((r = 0 ∧ b = false) ∨ (1 ≤ r ∧ b = true ∧ P a)) := by
  by_cases h : r = 0
  · subst h
    exact ⟨([], []), false, fun w => get_no 0 w (.inl (by omega)), .inl ⟨rfl, rfl⟩⟩
  · exact ⟨tabF r, true, fun w => get_yes r w (by omega) hr, .inr ⟨by omega, rfl, hP (by omega)⟩⟩
end Go.Proofs.YtjeocmglcgnclaaDoor

/- stat.Total and stat.Same, for all fields. Conditions: at most 2^40 bytes in all. -/
namespace Go.Proofs.YtjeocmglcgnclaaDoor
open Go.RowKit
attribute [local go_sem] kd kdS
attribute [local go_sem ↓] sliced_word
attribute [local go_sem] offA_zero

/-- A field's cells in a block of its own. -/
def BoxAt (w : World) (g : Nat) (f : Fd) : Prop := Blk w g 23 #[.string f.n, .string f.v, .bool f.x]
theorem BoxAt.below {w w' : World} {g : Nat} {f : Fd} (h : BoxAt w g f) (hb : Below w.heap.size w w') : BoxAt w' g f := Blk.below h hb (Blk.lt h)
theorem BoxAt.c {w : World} {g : Nat} {f : Fd} (h : BoxAt w g f) : w.cell? ⟨g, 0, none⟩ = some (.string f.n) ∧ w.cell? ⟨g, 1, none⟩ = some (.string f.v) ∧ w.cell? ⟨g, 2, none⟩ = some (.bool f.x) := ⟨Blk.cell h 0, Blk.cell h 1, Blk.cell h 2⟩


/-- Names and values. -/
def nv (f : Fd) : List UInt8 × List UInt8 := (f.n.toList, f.v.toList)
def sameF (f g : Fd) : Bool := decide (nv f = nv g)
def sameL (a b : List Fd) : Bool := decide (a.map nv = b.map nv)

set_option maxHeartbeats 400000 in
set_option maxRecDepth 100000 in
theorem same1_any (f g : Fd) (w : World) :
    Calls Tryd.prog 41 #[f.val, g.val] w fun e w' => e = .returned (.bool (sameF f g)) ∧ Below w.heap.size w w' := by
  obtain ⟨a, b, x⟩ := f
  obtain ⟨a', b', x'⟩ := g
  have hall : Below w.heap.size w ((w.alloc (.cells #[.string a, .string b, .bool x] 23)).alloc (.cells #[.string a', .string b', .bool x'] 23)) := ((Below.refl _ _).alloc (Nat.le_refl _) _).alloc (by simp) _
  have HA := hid hall
  clear hall
  by_cases h1 : a.toList = a'.toList
  · have z1 : (a.toList == a'.toList) = true := beq_iff_eq.2 h1
    by_cases h2 : b.toList = b'.toList
    · have z2 : (b.toList == b'.toList) = true := beq_iff_eq.2 h2
      have HD : Hid (sameF ⟨a, b, x⟩ ⟨a', b', x'⟩ = true) := hid (by unfold sameF nv; simp [h1, h2])
      clear h1 h2
      go_enter Tryd.func41, Tryd.ntmps41
      go_wp2_with fail
      go_ret
      exact ⟨by rw [HD.out]; rfl, HA.out⟩
    · have z2 : (b.toList == b'.toList) = false := beq_eq_false_iff_ne.2 h2
      have HD : Hid (sameF ⟨a, b, x⟩ ⟨a', b', x'⟩ = false) := hid (by unfold sameF nv; simp [h1, h2])
      clear h1 h2
      go_enter Tryd.func41, Tryd.ntmps41
      go_wp2_with fail
      go_ret
      exact ⟨by rw [HD.out]; rfl, HA.out⟩
  · have z1 : (a.toList == a'.toList) = false := beq_eq_false_iff_ne.2 h1
    have HD : Hid (sameF ⟨a, b, x⟩ ⟨a', b', x'⟩ = false) := hid (by unfold sameF nv; simp [h1])
    clear h1
    go_enter Tryd.func41, Tryd.ntmps41
    go_wp2_with fail
    go_ret
    exact ⟨by rw [HD.out]; rfl, HA.out⟩

theorem sameL_len {a b : List Fd} (h : a.length ≠ b.length) : sameL a b = false := by
  unfold sameL
  rw [decide_eq_false_iff_not]
  intro e
  have := congrArg List.length e
  simp at this
  exact h this
theorem sameL_step {a b : List Fd} {k : Nat} {f g : Fd} (hf : a[k]? = some f) (hg : b[k]? = some g) (h : (a.take k).map nv = (b.take k).map nv) (h1 : sameF f g = true) : (a.take (k + 1)).map nv = (b.take (k + 1)).map nv := by
  unfold sameF at h1
  rw [decide_eq_true_eq] at h1
  rw [List.take_add_one, List.take_add_one, hf, hg]
  simp [h, h1]
theorem sameL_not {a b : List Fd} {k : Nat} {f g : Fd} (hf : a[k]? = some f) (hg : b[k]? = some g) (h1 : sameF f g = false) : sameL a b = false := by
  unfold sameF at h1
  unfold sameL
  rw [decide_eq_false_iff_not] at h1 ⊢
  intro e
  apply h1
  have : (a.map nv)[k]? = (b.map nv)[k]? := by rw [e]
  rw [List.getElem?_map, List.getElem?_map, hf, hg] at this
  simpa using this
theorem sameL_all {a b : List Fd} {n : Nat} (ha : a.length = n) (hb : b.length = n) (h : (a.take n).map nv = (b.take n).map nv) : sameL a b = true := by
  unfold sameL
  rw [List.take_of_length_le (by omega), List.take_of_length_le (by omega)] at h
  exact decide_eq_true h

set_option maxHeartbeats 1000000 in
set_option maxRecDepth 100000 in
theorem eqf_any (A : Option Addr) (n c : Nat) (l : List Fd) (A' : Option Addr) (n' c' : Nat) (l' : List Fd) (w : World) (h : Fs w A n l) (h' : Fs w A' n' l') (hn : n ≤ 1099511627776) :
    Calls Tryd.prog 40 #[.slice A n c, .slice A' n' c', .func (.func 41) #[] #[]] w fun e w' => e = .returned (.bool (sameL l l')) ∧ Below w.heap.size w w' := by
  have H := hid h
  have H' := hid h'
  have hlen := h.len
  have hlen' := h'.len
  clear h h'
  by_cases hnn : n = n'
  · subst hnn
    go_enter Tryd.func40, Tryd.ntmps40
    go_wp2_with fail
    go_loopw [17] (fun i wr => ∃ k : Nat, k ≤ n ∧ i = .int .i64 k ∧ (l.take k).map nv = (l'.take k).map nv ∧ Below w.heap.size w wr) (fun i _ => n - (intOf i).toNat)
    case atStart => exact ⟨0, Nat.zero_le _, rfl, rfl, Below.refl _ _⟩
    case round =>
      obtain ⟨k, hk, rfl, hq, hb⟩ := hrel
      have HB := hid hb
      have HQ := hid hq
      by_cases hgo : k < n
      · obtain ⟨b, o, f, rfl, hf, c0, c1, c2⟩ := Fs.at_ (H.out.below hb) hgo
        obtain ⟨b', o', f', rfl, hf', d0, d1, d2⟩ := Fs.at_ (H'.out.below hb) hgo
        have HF := hid hf
        have HF' := hid hf'
        clear hb hq hf hf'
        go_upto_region 6 with fail
        have hF : BoxAt (wr.alloc (.cells #[.string f.n, .string f.v, .bool f.x] 23)) wr.heap.size f := Blk.new wr _ _
        have hba : Below wr.heap.size wr (wr.alloc (.cells #[.string f.n, .string f.v, .bool f.x] 23)) := (Below.refl _ _).alloc (Nat.le_refl _) _
        generalize wr.alloc (.cells #[.string f.n, .string f.v, .bool f.x] 23) = wa at hF hba ⊢
        generalize wr.heap.size = g at hF ⊢
        have d0 := below_keep hba _ _ d0
        have d1 := below_keep hba _ _ d1
        have d2 := below_keep hba _ _ d2
        have HX := hid hF
        have HBA := hid (HB.out.trans (hba.mono HB.out.size))
        clear hF hba c0 c1 c2 HB
        go_upto_region 7 with fail
        have hF : BoxAt (wa.alloc (.cells #[.string f'.n, .string f'.v, .bool f'.x] 23)) wa.heap.size f' := Blk.new wa _ _
        have hba : Below wa.heap.size wa (wa.alloc (.cells #[.string f'.n, .string f'.v, .bool f'.x] 23)) := (Below.refl _ _).alloc (Nat.le_refl _) _
        generalize wa.alloc (.cells #[.string f'.n, .string f'.v, .bool f'.x] 23) = wb at hF hba ⊢
        generalize wa.heap.size = g' at hF ⊢
        obtain ⟨k0, k1, k2⟩ := (HX.out.below hba).c
        obtain ⟨q0, q1, q2⟩ := hF.c
        have HBB := hid (HBA.out.trans (hba.mono HBA.out.size))
        clear hF hba d0 d1 d2 HBA HX
        go_wp2_with fail
        refine (same1_any f f' wb).mono ?_
        rintro e w2 ⟨rfl, hb2⟩
        have HB2 := hid (HBB.out.trans (hb2.mono HBB.out.size))
        clear hb2 k0 k1 k2 q0 q1 q2 HBB
        rcases hsf : sameF f f' with _ | _
        · have HN := hid (sameL_not HF.out HF'.out hsf)
          clear hsf
          go_wp2_with fail
          go_ret
          exact ⟨by rw [HN.out]; rfl, HB2.out⟩
        · have HN := hid (sameL_step HF.out HF'.out HQ.out hsf)
          clear hsf
          go_wp2_with fail
          go_roundw
          case rel => exact ⟨k + 1, by omega, by go_num, HN.out, HB2.out⟩
          case measure => simp [intOf]; omega
      · obtain rfl : k = n := by omega
        have HN := hid (sameL_all hlen hlen' hq)
        clear hb hq hgo
        go_wp2_with fail
        go_ret
        exact ⟨by rw [HN.out]; rfl, HB.out⟩
  · have HN := hid (sameL_len (a := l) (b := l') (by omega))
    have z1 : ((n : Int) == (n' : Int)) = false := by rw [beq_eq_false_iff_ne]; omega
    have z2 : ¬ (n : Int) = (n' : Int) := by omega
    clear hlen hlen' hnn
    go_enter Tryd.func40, Tryd.ntmps40
    go_wp2_with fail
    go_ret
    exact ⟨by rw [HN.out]; rfl, Below.refl _ _⟩

set_option maxHeartbeats 400000 in
set_option maxRecDepth 100000 in
theorem same_any (A : Option Addr) (n c : Nat) (l : List Fd) (A' : Option Addr) (n' c' : Nat) (l' : List Fd) (w : World) (h : Fs w A n l) (h' : Fs w A' n' l') (hn : n ≤ 1099511627776) :
    Calls Tryd.prog 27 #[.slice A n c, .slice A' n' c'] w fun e w' => e = .returned (.bool (sameL l l')) ∧ Below w.heap.size w w' := by
  have H := hid h
  have H' := hid h'
  have hlen := h.len
  have hlen' := h'.len
  clear h h'
  go_enter Tryd.func27, Tryd.ntmps27
  go_wp2_with fail
  refine (eqf_any A n c l A' n' c' l' w H.out H'.out hn).mono ?_
  rintro e w2 ⟨rfl, hb2⟩
  go_wp2_with fail
  go_ret
  exact ⟨rfl, hb2⟩
end Go.Proofs.YtjeocmglcgnclaaDoor
