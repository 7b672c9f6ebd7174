/- An encoder and a decoder side by side. No program in sight; no condition. -/
import Derived.Test.YtjeocmglcgnclaaDoorGu
import Derived.Test.YtjeocmglcgnclaaDoorGk
import Derived.Test.YtjeocmglcgnclaaDoorBack9PJ
import Derived.Test.YtjeocmglcgnclaaDoorFew9J
namespace Go.Proofs.YtjeocmglcgnclaaDoor
open Go.RowKit

structure ED (w wr : World) (ge te gd td : Nat) (most told least : Int) (L : List Fd) (md : Int) (LD : List Fd) (Be Bd : Nat) (Fe Fq : List Nat) : Prop where
  e : EncAt wr Be Fe ge te most told least L
  d : DecAt wr Bd Fq gd td false md LD
  off : ∀ k ∈ ge :: Fe, k ∉ gd :: Fq
  out : Below w.heap.size w wr
  we : w.heap.size ≤ Be
  wd : w.heap.size ≤ Bd
section
variable {w wr w' : World} {ge te gd td : Nat} {most told least most' told' least' : Int} {L L' : List Fd} {md : Int} {LD : List Fd} {Be Bd : Nat} {Fe Fe' Fq : List Nat} {e : Ending} {bs : List UInt8} {room : Int}
theorem ED.below (h : ED w wr ge te gd td most told least L md LD Be Bd Fe Fq) (hb : Below wr.heap.size wr w') : ED w w' ge te gd td most told least L md LD Be Bd Fe Fq :=
  ⟨h.e.below hb, h.d.below hb, h.off, h.out.trans (hb.mono h.out.size), h.we, h.wd⟩
theorem ED.hB (h : ED w wr ge te gd td most told least L md LD Be Bd Fe Fq) : Be ≤ wr.heap.size := by
  have := h.e.ge_ ge (by simp)
  omega
theorem ED.enc (h : ED w wr ge te gd td most told least L md LD Be Bd Fe Fq) (he : EncAt w' Be Fe' ge te most' told' least' L') (ht : Turned (ge :: Fe) wr w') (hk : ∀ k ∈ Fe', k ∈ Fe ∨ wr.heap.size ≤ k) : ED w w' ge te gd td most' told' least' L' md LD Be Bd Fe' Fq := by
  refine ⟨he, h.d.turned ht (fun k hk hm => h.off k hm hk), fun k hm hn => ?_, h.out.trans (ht.below (fun b hb => Nat.le_trans h.we (h.e.ge_ b hb).1) h.out.size), h.we, h.wd⟩
  rcases List.mem_cons.1 hm with rfl | hm
  · exact h.off _ (by simp) hn
  · rcases hk k hm with h1 | h1
    · exact h.off k (by simp [h1]) hn
    · have := (h.d.ge_ k hn).2
      omega
theorem ED.dec (h : ED w wr ge te gd td most told least L md LD Be Bd Fe Fq) (hp : DecodePost bs room Bd Fq gd td false md LD wr e w') {m2 : Int} {L2 l : List Fd} (h1 : decO bs room false md LD = (l, 0)) (h2 : decT bs false md LD = (false, m2, L2)) :
    ∃ A' n' c' F', e = .returned (.tuple #[.slice A' n' c', .int .i64 0]) ∧ Fs w' A' n' l ∧ ED w w' ge te gd td most told least L m2 L2 Be Bd Fe F' := by
  obtain ⟨A', n', c', F', he, ho, hd, ht, hk, hr⟩ := hp
  rw [h1] at he ho
  rw [h2] at hd
  refine ⟨A', n', c', F', he, Rd.of_own ho, h.e.turned ht (fun k hk hm => h.off k hk hm), hd, fun k hm hn => ?_, h.out.trans (ht.below (fun b hb => Nat.le_trans h.wd (h.d.ge_ b hb).1) h.out.size), h.we, h.wd⟩
  rcases List.mem_cons.1 hn with rfl | hn
  · exact h.off _ hm (by simp)
  · rcases hk k hn with h1 | h1
    · exact h.off k hm (by simp [h1])
    · have := (h.e.ge_ k hm).2
      omega
/-- A row that came in lies off the encoder's blocks. -/
theorem ED.row_off (h : ED w wr ge te gd td most told least L md LD Be Bd Fe Fq) {A : Option Addr} {n : Nat} {l : List Fd} (hl : Fs w A n l) : 0 < n → Off A (ge :: Fe) := fun hn ad e hm => by
  obtain ⟨b, o, f, ha, _, c0, _⟩ := hl.at_ hn
  rw [ha] at e
  injection e with e
  subst e
  have h1 := cell_lt c0
  have h2 := (h.e.ge_ _ hm).1
  have h3 := h.we
  dsimp only at h1 h2
  omega
end
theorem limits_at (ls : List Int) (k : Nat) {z : Int} (h : ls[k]? = some z) : ls.take (k + 1) = ls.take k ++ [z] := by
  rw [List.take_add_one, h]; rfl
theorem any_long {l : List Fd} (h : l.any longF = false) : ∀ f ∈ l, f.n.size ≤ 16384 ∧ f.v.size ≤ 16384 := fun f hf => by
  have : longF f = false := by
    rcases hx : longF f with _ | _
    · rfl
    · have := List.any_eq_true.2 ⟨f, hf, hx⟩
      rw [h] at this
      cases this
  unfold longF at this
  simp at this
  exact this
theorem total_mem : ∀ (os : List Op9) {x : Op9}, x ∈ os → total x.fs ≤ total (opsF os)
  | [], x, h => by cases h
  | y :: os, x, h => by
    have e : opsF (y :: os) = y.fs ++ opsF os := by simp [opsF]
    rw [e, total_append]
    rcases List.mem_cons.1 h with rfl | h
    · omega
    · have := total_mem os h
      omega
/-- The plain law at one operation: what the walk needs behind its Encode and Decode. -/
theorem back_step {os : List Op9} (hf : Few9 os) {x : Op9} (hx : x ∈ os) {most told least : Int} {L LD : List Fd} (hp : Pair most told least L LD) (hl : x.fs.any longF = false) :
    (blockP most told least L x.fs).1.length ≤ 16777216 ∧ decO (blockP most told least L x.fs).1 2147483647 false told LD = (x.fs, 0) ∧ decT (blockP most told least L x.fs).1 false told LD = (false, most, (blockP most told least L x.fs).2) ∧
    Pair most most 4096 (blockP most told least L x.fs).2 (blockP most told least L x.fs).2 := by
  obtain ⟨⟨k, hk⟩, h2⟩ := hp.block (any_long hl)
  have ht : total x.fs ≤ 46400 := Nat.le_trans (total_mem os hx) (fewF_total hf.all)
  have hd := decO_ok hk (room := 2147483647) (by dsimp only; omega)
  refine ⟨?_, hd.1, hd.2, h2⟩
  unfold blockP
  dsimp only
  rw [List.length_append]
  have h3 := limitsP_len most told least
  have h4 := fieldsP_len most L x.fs
  omega
end Go.Proofs.YtjeocmglcgnclaaDoor
