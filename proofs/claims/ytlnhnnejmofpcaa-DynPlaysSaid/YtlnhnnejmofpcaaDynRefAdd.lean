/- The reference's table: Add. Conditions: at most 2^39 bytes in all. -/
import Derived.Test.YtlnhnnejmofpcaaDynRef
namespace Go.Proofs.Ytlnhnnejmofpcaa
open Go.RowKit
attribute [local go_sem] kd kdS

theorem total_one (f : Fd) : total [(⟨f.n, f.v, false⟩ : Fd)] = f.size := by simp [total, Fd.size]
theorem addL_shr {m : Int} (l : List Fd) (f : Fd) (hm : 0 ≤ m) : shr m (l ++ [⟨f.n, f.v, false⟩]) = addL m l f := by
  unfold addL
  by_cases h : (f.size : Int) ≤ m
  · rw [if_pos h]
    induction l with
    | nil =>
      show shr m [_] = [] ++ _
      unfold shr
      rw [total_one, if_neg (by omega)]
      rfl
    | cons g l ih =>
      rw [List.cons_append]
      unfold shr
      rw [total_cons, total_append, total_one, total_cons]
      by_cases h2 : m < ((g.size + (total l + f.size) : Nat) : Int)
      · rw [if_pos h2, if_pos (by omega)]
        exact ih
      · rw [if_neg h2, if_neg (by omega)]
        rfl
  · rw [if_neg h, shr_below (m := m - f.size) (by omega)]
    induction l with
    | nil =>
      show shr m [_] = []
      unfold shr
      rw [total_one, if_pos (by omega)]
      rfl
    | cons g l ih =>
      rw [List.cons_append]
      unfold shr
      rw [total_cons, total_append, total_one, if_pos (by omega)]
      exact ih

set_option maxHeartbeats 2000000 in
set_option maxRecDepth 100000 in
theorem radd_any (f : Fd) {B g : Nat} {G : List Nat} {most : Int} {l : List Fd} {w : World} (h : RT w B G g most l) (ht : total l ≤ 549755813888) (hf : f.size ≤ 549755813888) (hn : l.length ≤ 549755813888) (hB : B ≤ w.heap.size) (hm : 0 ≤ most) :
    Calls Try.prog 18 #[.pointer (some ⟨g, 0, none⟩), f.val] w (RTPost (.tuple #[]) B G g most (addL most l f) w) := by
  obtain ⟨A, n, c, h, rfl⟩ := h
  have H := hid h
  have hlen := h.len
  obtain ⟨i0, hi0, hz0, hz1, hz2⟩ := fd_parts
  have hi := hid hi0
  have hz := hid hz0
  have hsz := hid hz1
  have hby := hid hz2
  clear hi0 hz0 hz1 hz2 h
  go_enter Try.func18, Try.ntmps18
  go_upto_region 1 with fail
  obtain ⟨wa, hwa⟩ : ∃ wa, w.alloc (.cells #[.string f.n, .string f.v, .bool f.x] 30) = wa := ⟨_, rfl⟩
  have hFa : Blk wa w.heap.size 30 #[.string f.n, .string f.v, .bool f.x] := by rw [← hwa]; exact Blk.new w _ _
  have hba : Below w.heap.size w wa := by rw [← hwa]; exact (Below.refl _ _).alloc (Nat.le_refl _) _
  rw [hwa]
  have HF := hid hFa
  have HB := hid hba
  have b2 := hFa.cell 2
  have bf2 := hFa.frozen 2
  simp at b2
  clear hFa hba hwa
  go_upto_region 2 with fail
  have HF4 := hid (show Blk (wa.setCell ⟨w.heap.size, 2, none⟩ (.bool false)) w.heap.size 30 #[.string f.n, .string f.v, .bool false] from by simpa using HF.out.set_ 2 (.bool false))
  have HB4 := hid (HB.out.setCell (p := ⟨w.heap.size, 2, none⟩) (Nat.le_refl _) (.bool false))
  have H4 := hid (H.out.below HB4.out)
  clear b2 bf2 HF HB
  generalize wa.setCell ⟨w.heap.size, 2, none⟩ (.bool false) = w4 at HF4 HB4 H4 ⊢
  have b0 := HF4.out.cell 0
  have b1 := HF4.out.cell 1
  have b2 := HF4.out.cell 2
  have c1 := H4.out.blk.cell 1
  simp at b0 b1 b2 c1
  have ga1 := below_keep ((Below.refl w4.heap.size w4).alloc (Nat.le_refl _) (.cells #[.string f.n, .string f.v, .bool false] 30)) _ _ c1
  have HOL := hid (World.ownsRow_lit (base := w4.heap.size) (e := 30) (size := 3) w4 #[.string f.n, .string f.v, .bool false] 1 (Nat.le_refl _) (by decide) rfl)
  have hgl := H4.out.blk.lt
  have hb0 : Below w4.heap.size w4 w4 := Below.refl _ _
  have hs0 : w4.heap.size ≤ w4.heap.size := Nat.le_refl _
  go_wp2_with fail
  go_region_law (first
    | (refine at_app ?_; go_loud (refine stepL_app w4.heap.size 30 i0 _ 3 40 Try.underlying38 hi.out hz.out hsz.out hby.out rfl (by decide) _ 1 _ (own_below HOL.out ?_) A n c _ (Rd.below H4.out.fs ?_) ?_ ?_ ?_ ?_ ?_ ?_ ?_; (focus (first | exact (Below.refl _ _).drew | exact Below.refl _ _ | (go_grown; done))); (focus (go_grown; done)); (focus rfl); (focus rfl); (focus (exact flat_one _)); (focus omega); (focus omega); (focus go_size); intro A5 c5 w5 hown5 hg5 hat5; refine (have hkg : Blk w5 g 48 #[.int .i64 most, .slice A n c] := ?_; ?_); (focus (refine Blk.grown (H4.out.blk.below ?_ H4.out.blk.lt) hg5 (by intro e; have e2 : some g = some w4.heap.size := e; injection e2 with e2; omega); (go_grown; done))); have z1 := hkg.cell 1; have zf1 := hkg.frozen 1; simp at z1)))
  all_goals
    obtain ⟨hr6, ht6, hk6⟩ := fresh_end (l := l ++ [⟨f.n, f.v, false⟩]) hkg H4.out.base hgl (by have := HB4.out.size; omega) (by (go_grown; done)) hown5 (by rw [List.reverse_append]; rfl) hg5 (fun k hk => by have e2 : some w4.heap.size = some k := hk; injection e2 with e2; omega)
    have HR6 := hid hr6
    have HT6 := hid ((Turned.of_below (F := [g]) HB4.out).trans ht6 (fun q hq => .inl hq))
    have HK6 := hid hk6
    clear hown5 hg5 hat5 hkg z1 zf1 hr6 ht6 hk6 ga1 b0 b1 b2 c1
    go_upto_region 3 with fail
    generalize w5.setCell ⟨g, 1, none⟩ (.slice A5 (1 + n) c5) = w6 at HR6 HT6 ⊢
    go_wp2_with fail
    refine (cut_rt ⟨A5, 1 + n, c5, HR6.out, rfl⟩ (by rw [total_append, total_one]; omega) (by simp; omega) (by have := HT6.out.size; omega) hm).mono ?_
    rintro e w7 ⟨G', rfl, hr7, ht7, hk7⟩
    rw [addL_shr l f hm] at hr7
    have HR7 := hid hr7
    have HT7 := hid (HT6.out.trans ht7 (fun q hq => .inl hq))
    have HK7 := hid hk7
    clear hr7 ht7 hk7
    go_wp2_with fail
    go_end0
    refine ⟨G', rfl, HR7.out, HT7.out, fun k hk => ?_⟩
    have hwz := HB4.out.size
    rcases HK7.out k hk with h3 | h3
    · rcases List.mem_cons.1 h3 with rfl | h3
      · exact .inl (by simp)
      · exact .inr (Nat.le_trans hwz (HK6.out k (by simpa using h3)))
    · exact .inr (Nat.le_trans HT6.out.size h3)
end Go.Proofs.Ytlnhnnejmofpcaa
