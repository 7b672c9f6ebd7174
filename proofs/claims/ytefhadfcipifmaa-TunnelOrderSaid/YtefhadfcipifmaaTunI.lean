/- A tunnel beside rows of ours: each call once more, with the rows that it leaves alone. -/
import Derived.Test.YtefhadfcipifmaaTunFirst
namespace Go.Proofs.Ytefhadfcipifmaa
open Go.RowKit

/-- The tunnel lies above w, apart from the blocks K. -/
structure TI (w w' : World) (tb : Nat) (σ : TV) (K : List Nat) : Prop where
  ex : ∃ B G, w.heap.size ≤ B ∧ B ≤ w'.heap.size ∧ Tun w' B tb σ G ∧ ∀ b ∈ K, b ∉ G ∧ b < w'.heap.size
  low : Below w.heap.size w w'
/-- The blocks K are as they were. -/
def Kept (K : List Nat) (w w' : World) : Prop := ∃ F, Turned F w w' ∧ ∀ b ∈ K, b ∉ F

theorem few_at {i c s m bf st : Int} {e sh ca se : Bool} {up dn : List UInt8} {pu pd ku kd : Nat} (h1 : pu ≤ 35184372088832) (h2 : pd ≤ 35184372088832) (h3 : ku ≤ 35184372088832) (h4 : kd ≤ 35184372088832) (h5 : 0 ≤ bf) (h6 : bf ≤ 35184372088832) : TV.Few ⟨i, c, s, m, bf, st, e, sh, ca, se, up, dn, pu, pd, ku, kd⟩ := ⟨h1, h2, h3, h4, h5, h6⟩

section
variable {w w1 w2 : World} {tb : Nat} {σ σ' : TV} {K : List Nat}
theorem TI.next {B : Nat} {G G' : List Nat} (h0 : w.heap.size ≤ B) (hB : B ≤ w1.heap.size) (h : Tun w1 B tb σ G) (hl : Below w.heap.size w w1) (hK : ∀ b ∈ K, b ∉ G ∧ b < w1.heap.size) (t : Tun w2 B tb σ' G') (tk : TK G G' w1 w2) : TI w w2 tb σ' K ∧ Kept K w1 w2 := by
  have hg := h.lt.2.2.2
  refine ⟨⟨⟨B, G', h0, Nat.le_trans hB tk.1.size, t, fun b hb => ⟨fun hm => ?_, Nat.lt_of_lt_of_le (hK b hb).2 tk.1.size⟩⟩, ?_⟩, G, tk.1, fun b hb => (hK b hb).1⟩
  · rcases tk.2 b hm with e | e
    · exact (hK b hb).1 e
    · have := (hK b hb).2
      omega
  · have h2 : Below B w1 w2 := tk.low (fun b hb => (hg b hb).1) hB
    exact hl.trans (h2.mono h0)
theorem TI.tb_ge (h : TI w w1 tb σ K) : w.heap.size ≤ tb ∧ tb < w1.heap.size ∧ tb ∉ K := by
  obtain ⟨B, G, h0, hB, ht, hK⟩ := h.ex
  have hg := ht.lt
  exact ⟨Nat.le_trans h0 hg.2.1, hg.2.2.1, fun hm => (hK tb hm).1 hg.1⟩
theorem TI.below (h : TI w w1 tb σ K) (hb : Below w1.heap.size w1 w2) : TI w w2 tb σ K := by
  obtain ⟨B, G, h0, hB, ht, hK⟩ := h.ex
  exact ⟨⟨B, G, h0, Nat.le_trans hB hb.size, ht.below hb, fun b hm => ⟨(hK b hm).1, Nat.lt_of_lt_of_le (hK b hm).2 hb.size⟩⟩, h.low.trans (hb.mono h.low.size)⟩
theorem TI.mono {K' : List Nat} (h : TI w w1 tb σ K) (hK : ∀ b ∈ K', b ∈ K) : TI w w1 tb σ K' := by
  obtain ⟨B, G, h0, hB, ht, hK'⟩ := h.ex
  exact ⟨⟨B, G, h0, hB, ht, fun b hm => hK' b (hK b hm)⟩, h.low⟩
/-- Only blocks of K were turned, and new ones. -/
theorem TI.turned {F : List Nat} (h : TI w w1 tb σ K) (ht : Turned F w1 w2) (hF : ∀ b ∈ F, b ∈ K) (hw : ∀ b ∈ F, w.heap.size ≤ b) : TI w w2 tb σ K := by
  obtain ⟨B, G, h0, hB, hT, hK⟩ := h.ex
  exact ⟨⟨B, G, h0, Nat.le_trans hB ht.size, hT.turned ht (fun b hb hm => (hK b (hF b hm)).1 hb), fun b hm => ⟨(hK b hm).1, Nat.lt_of_lt_of_le (hK b hm).2 ht.size⟩⟩, h.low.trans (ht.below hw h.low.size)⟩
/-- A new block joins those that are apart. -/
theorem TI.add {b : Nat} (h : TI w w1 tb σ K) (hs : Turned [] w1 w2 ∨ ∃ F, Turned F w1 w2 ∧ (∀ b ∈ F, b ∈ K) ∧ ∀ b ∈ F, w.heap.size ≤ b) (hb : w1.heap.size ≤ b) (hb2 : b < w2.heap.size) : TI w w2 tb σ (b :: K) := by
  have h2 : TI w w2 tb σ K := by
    rcases hs with hs | ⟨F, hs, hF, hw⟩
    · exact h.turned hs (by simp) (by simp)
    · exact h.turned hs hF hw
  obtain ⟨B, G, h0, hB, hT, hK⟩ := h2.ex
  obtain ⟨B1, G1, h01, hB1, hT1, hK1⟩ := h.ex
  have hgs : ∃ F, Turned F w1 w2 ∧ ∀ b ∈ F, b ∈ K := by
    rcases hs with hs | ⟨F, hs, hF, hw⟩
    · exact ⟨[], hs, by simp⟩
    · exact ⟨F, hs, hF⟩
  obtain ⟨F, hs, hF⟩ := hgs
  refine ⟨⟨B1, G1, h01, Nat.le_trans hB1 hs.size, hT1.turned hs (fun b hb hm => (hK1 b (hF b hm)).1 hb), fun q hq => ?_⟩, h2.low⟩
  rcases List.mem_cons.1 hq with rfl | hq
  · refine ⟨fun hm => ?_, hb2⟩
    have := (hT1.lt.2.2.2 q hm).2
    omega
  · exact ⟨(hK1 q hq).1, Nat.lt_of_lt_of_le (hK1 q hq).2 hs.size⟩
theorem Kept.own {base : Nat} {e : TypeId} {v : Value} {n size : Nat} {xs : List Value} (hk : Kept K w1 w2) (h : w1.ownsRow base e size v n xs) (hv : ∀ b, v.ownBlock = some b → b ∈ K) : w2.ownsRow base e size v n xs := by
  obtain ⟨F, ht, hF⟩ := hk
  exact own_turned h ht (fun b hb => hF b (hv b hb))
theorem Kept.bs {A : Option Addr} {n : Nat} {l : List UInt8} (hk : Kept K w1 w2) (h : Bs w1 A n l) (hA : ∀ ad, A = some ad → ad.block ∈ K) : Bs w2 A n l := by
  obtain ⟨F, ht, hF⟩ := hk
  exact h.turned ht (fun ad e => hF ad.block (hA ad e))
theorem Kept.size (hk : Kept K w1 w2) : w1.heap.size ≤ w2.heap.size := by
  obtain ⟨F, ht, hF⟩ := hk
  exact ht.size
theorem Kept.mono {K' : List Nat} (hk : Kept K w1 w2) (h : ∀ b ∈ K', b ∈ K) : Kept K' w1 w2 := by
  obtain ⟨F, ht, hF⟩ := hk
  exact ⟨F, ht, fun b hb => hF b (h b hb)⟩
theorem Kept.refl (K : List Nat) (w : World) : Kept K w w := ⟨[], Turned.refl _ _, by simp⟩

/-- What lay below stays, whatever the tunnel's own block holds. -/
theorem bs_low {A : Option Addr} {n : Nat} {l : List UInt8} (hs : Bs w A n l) (hl : Below w.heap.size w w1) (htb : w.heap.size ≤ tb) : ∀ w', Turned [tb] w1 w' → Bs w' A n l := fun w' ht =>
  hs.below (hl.trans (ht.below (by simpa using htb) hl.size))
theorem bs_off {A : Option Addr} {n : Nat} {l : List UInt8} (hs : Bs w1 A n l) (ho : Off A [tb]) : ∀ w', Turned [tb] w1 w' → Bs w' A n l := fun w' ht => hs.turned ht ho
theorem ti_new (i c s k : Int) (us ha hi : ByteArray) (po bf : Int) (hl : Below w.heap.size w w1) (hbf : 0 ≤ bf) :
    Calls Try.prog 8 #[.int .i64 i, .int .i64 c, .int .i64 s, .int .i64 k, .string us, .agg #[.string ha, .string hi], .int .i64 po, .int .i64 bf] w1 fun e w' => ∃ tb, e = .returned (.pointer (some ⟨tb, 0, none⟩)) ∧ TI w w' tb ⟨i, c, s, k, bf, 1, false, false, false, false, [], [], 0, 0, 0, 0⟩ [] := by
  refine (tnew_any i c s k us ha hi po bf w1 hbf).mono ?_
  rintro e w' ⟨tb, G, rfl, ht, hb⟩
  exact ⟨tb, rfl, ⟨w1.heap.size, G, hl.size, hb.size, ht, by simp⟩, hl.trans (hb.mono hl.size)⟩
theorem ti_dial (us' : ByteArray) (t : Int) (h : TI w w1 tb σ K) (h3 : σ.st = 1) : Calls Try.prog 9 #[.pointer (some ⟨tb, 0, none⟩), .string us', .int .i64 t] w1 fun e w' => e = .returned (.bool true) ∧ TI w w' tb { σ with st := 2, mv := t } K ∧ Kept K w1 w' := by
  obtain ⟨B, G, h0, hB, ht, hK⟩ := h.ex
  refine (dial_yes us' t ht h3).mono ?_
  rintro e w' ⟨rfl, h1, h2⟩
  exact ⟨rfl, TI.next h0 hB ht h.low hK h1 (TK.mono h2 (fun b hb => by have : b = tb := by simpa using hb
                                                                       exact this ▸ ht.lt.1))⟩
theorem ti_opened (t : Int) (h : TI w w1 tb σ K) (h3 : σ.st = 2) : Calls Try.prog 10 #[.pointer (some ⟨tb, 0, none⟩), .int .i64 t] w1 fun e w' => e = .returned (.bool true) ∧ TI w w' tb { σ with st := 3, mv := t } K ∧ Kept K w1 w' := by
  obtain ⟨B, G, h0, hB, ht, hK⟩ := h.ex
  refine (opened_yes t ht h3).mono ?_
  rintro e w' ⟨rfl, h1, h2⟩
  exact ⟨rfl, TI.next h0 hB ht h.low hK h1 (TK.mono h2 (fun b hb => by have : b = tb := by simpa using hb
                                                                       exact this ▸ ht.lt.1))⟩
theorem ti_acc (A : Option Addr) (n c : Nat) (l : List UInt8) (en : Bool) (h : TI w w1 tb σ K) (h3 : σ.st ≠ 4) (h1 : σ.ended = false) (hf : σ.Few) (hs : ∀ w', Turned [tb] w1 w' → Bs w' A n l) (hc : n ≤ c) (hn : n ≤ 35184372088832) :
    Calls Try.prog 11 #[.pointer (some ⟨tb, 0, none⟩), .slice A n c, .bool en] w1 fun e w' => e = .returned (.int .i64 (putN n 65535 σ.up.length)) ∧ TI w w' tb (accV σ l en (putN n 65535 σ.up.length)) K ∧ Kept K w1 w' := by
  obtain ⟨B, G, h0, hB, ht, hK⟩ := h.ex
  refine (acc_yes A n c l en ht h3 h1 hf hs hc hn hB).mono ?_
  rintro e w' ⟨G', rfl, h1, h2⟩
  exact ⟨rfl, TI.next h0 hB ht h.low hK h1 h2⟩
theorem ti_acc0 (A : Option Addr) (n c : Nat) (en : Bool) (h : TI w w1 tb σ K) (hn : σ.st = 4 ∨ σ.ended = true) : Calls Try.prog 11 #[.pointer (some ⟨tb, 0, none⟩), .slice A n c, .bool en] w1 fun e w' => e = .returned (.int .i64 0) ∧ w1 = w' := by
  obtain ⟨B, G, h0, hB, ht, hK⟩ := h.ex
  exact acc_no A n c en ht hn
theorem ti_del (A : Option Addr) (n c : Nat) (l : List UInt8) (t : Int) (h : TI w w1 tb σ K) (h3 : σ.st = 3) (h1 : σ.came = false) (hf : σ.Few) (hs : Bs w1 A n l) (hc : n ≤ c) (hn : n ≤ 35184372088832) :
    Calls Try.prog 16 #[.pointer (some ⟨tb, 0, none⟩), .slice A n c, .int .i64 t] w1 fun e w' => e = .returned (.int .i64 (putN n σ.bf σ.dn.length)) ∧ TI w w' tb (delV σ l (putN n σ.bf σ.dn.length) t) K ∧ Kept K w1 w' := by
  obtain ⟨B, G, h0, hB, ht, hK⟩ := h.ex
  refine (del_yes A n c l t ht h3 h1 hf hs hc hn hB).mono ?_
  rintro e w' ⟨G', rfl, h1, h2⟩
  exact ⟨rfl, TI.next h0 hB ht h.low hK h1 h2⟩
theorem ti_del0 (A : Option Addr) (n c : Nat) (t : Int) (h : TI w w1 tb σ K) (hn : σ.st ≠ 3 ∨ σ.came = true) : Calls Try.prog 16 #[.pointer (some ⟨tb, 0, none⟩), .slice A n c, .int .i64 t] w1 fun e w' => e = .returned (.int .i64 0) ∧ w1 = w' := by
  obtain ⟨B, G, h0, hB, ht, hK⟩ := h.ex
  exact del_no A n c t ht hn
theorem ti_eof (h : TI w w1 tb σ K) (h3 : σ.st = 3) (h1 : σ.came = false) : Calls Try.prog 22 #[.pointer (some ⟨tb, 0, none⟩)] w1 fun e w' => e = .returned (.bool true) ∧ TI w w' tb { σ with came := true } K ∧ Kept K w1 w' := by
  obtain ⟨B, G, h0, hB, ht, hK⟩ := h.ex
  refine (eof_yes ht h3 h1).mono ?_
  rintro e w' ⟨rfl, h1, h2⟩
  exact ⟨rfl, TI.next h0 hB ht h.low hK h1 (TK.mono h2 (fun b hb => by have : b = tb := by simpa using hb
                                                                       exact this ▸ ht.lt.1))⟩
theorem ti_eof0 (h : TI w w1 tb σ K) (hn : σ.st ≠ 3 ∨ σ.came = true) : Calls Try.prog 22 #[.pointer (some ⟨tb, 0, none⟩)] w1 fun e w' => e = .returned (.bool false) ∧ w1 = w' := by
  obtain ⟨B, G, h0, hB, ht, hK⟩ := h.ex
  exact eof_no ht hn
theorem ti_write (m t : Int) (h : TI w w1 tb σ K) (h3 : σ.st = 3) (hf : σ.Few) :
    Calls Try.prog 12 #[.pointer (some ⟨tb, 0, none⟩), .int .i64 m, .int .i64 t] w1 fun e w' => ∃ A' c', e = .returned (.tuple #[.slice A' (lookN m σ.up.length) c', .bool (wrS σ (lookN m σ.up.length))]) ∧
      w'.ownsRow w1.heap.size 5 1 (.slice A' (lookN m σ.up.length) c') (lookN m σ.up.length) ((σ.up.take (lookN m σ.up.length)).map bv) ∧ TI w w' tb (wrV σ (lookN m σ.up.length) t) ((Value.slice A' (lookN m σ.up.length) c').ownBlock.toList ++ K) ∧ Kept K w1 w' := by
  obtain ⟨B, G, h0, hB, ht, hK⟩ := h.ex
  refine (write_yes m t ht h3 hf hB).mono ?_
  rintro e w' ⟨A', c', G', rfl, h1, h2, h3, h4⟩
  obtain ⟨t1, t2⟩ := TI.next h0 hB ht h.low hK h2 h3
  refine ⟨A', c', rfl, h1, ⟨?_, t1.low⟩, t2⟩
  have hKs := h3.1.size
  refine ⟨B, G', h0, Nat.le_trans hB hKs, h2, fun b hb => ?_⟩
  rcases List.mem_append.1 hb with hb | hb
  · have hb : (Value.slice A' (lookN m σ.up.length) c').ownBlock = some b := by simpa using hb
    exact ⟨h4 b hb, (h1.lt b hb).2⟩
  · refine ⟨fun hm => ?_, Nat.lt_of_lt_of_le (hK b hb).2 hKs⟩
    rcases h3.2 b hm with e | e
    · exact (hK b hb).1 e
    · have := (hK b hb).2
      omega
theorem ti_write0 (m t : Int) (h : TI w w1 tb σ K) (h3 : σ.st ≠ 3) : Calls Try.prog 12 #[.pointer (some ⟨tb, 0, none⟩), .int .i64 m, .int .i64 t] w1 fun e w' => e = .returned (.tuple #[.slice none 0 0, .bool false]) ∧ w1 = w' := by
  obtain ⟨B, G, h0, hB, ht, hK⟩ := h.ex
  exact write_no m t ht h3
theorem ti_ready (m : Int) (h : TI w w1 tb σ K) (h3 : σ.st = 3) (hf : σ.Few) :
    Calls Try.prog 23 #[.pointer (some ⟨tb, 0, none⟩), .int .i64 m] w1 fun e w' => ∃ A' c', e = .returned (.tuple #[.slice A' (lookN m σ.dn.length) c', .bool (rdE σ (lookN m σ.dn.length)), .bool (rdS σ)]) ∧
      w'.ownsRow w1.heap.size 5 1 (.slice A' (lookN m σ.dn.length) c') (lookN m σ.dn.length) ((σ.dn.take (lookN m σ.dn.length)).map bv) ∧ TI w w' tb σ ((Value.slice A' (lookN m σ.dn.length) c').ownBlock.toList ++ K) ∧ Kept K w1 w' := by
  obtain ⟨B, G, h0, hB, ht, hK⟩ := h.ex
  refine (ready_yes m ht h3 hf).mono ?_
  rintro e w' ⟨A', c', rfl, h1, h2⟩
  have t1 := h.below h2
  refine ⟨A', c', rfl, h1, ⟨⟨B, G, h0, Nat.le_trans hB h2.size, ht.below h2, fun b hb => ?_⟩, t1.low⟩, [], Turned.of_below h2, by simp⟩
  rcases List.mem_append.1 hb with hb | hb
  · have hb : (Value.slice A' (lookN m σ.dn.length) c').ownBlock = some b := by simpa using hb
    have := h1.lt b hb
    refine ⟨fun hm => ?_, this.2⟩
    have := (ht.lt.2.2.2 b hm).2
    omega
  · exact ⟨(hK b hb).1, Nat.lt_of_lt_of_le (hK b hb).2 h2.size⟩
theorem ti_ready0 (m : Int) (h : TI w w1 tb σ K) (h3 : σ.st ≠ 3) : Calls Try.prog 23 #[.pointer (some ⟨tb, 0, none⟩), .int .i64 m] w1 fun e w' => e = .returned (.tuple #[.slice none 0 0, .bool false, .bool false]) ∧ w1 = w' := by
  obtain ⟨B, G, h0, hB, ht, hK⟩ := h.ex
  exact ready_no m ht h3
theorem ti_sent (m t : Int) (en : Bool) (h : TI w w1 tb σ K) (hf : σ.Few) :
    Calls Try.prog 17 #[.pointer (some ⟨tb, 0, none⟩), .int .i64 m, .bool en, .int .i64 t] w1 fun e w' => e = .returned (.tuple #[]) ∧ TI w w' tb (sentV σ (lookN m σ.dn.length) en t) K ∧ Kept K w1 w' := by
  obtain ⟨B, G, h0, hB, ht, hK⟩ := h.ex
  refine (sent_any m t en ht hf hB).mono ?_
  rintro e w' ⟨G', rfl, h1, h2⟩
  exact ⟨rfl, TI.next h0 hB ht h.low hK h1 h2⟩
theorem ti_close (h : TI w w1 tb σ K) (hf : σ.Few) : Calls Try.prog 18 #[.pointer (some ⟨tb, 0, none⟩)] w1 fun e w' => e = .returned (.tuple #[]) ∧ TI w w' tb (shutV σ) K ∧ Kept K w1 w' := by
  obtain ⟨B, G, h0, hB, ht, hK⟩ := h.ex
  refine (close_any ht hf hB).mono ?_
  rintro e w' ⟨G', rfl, h1, h2⟩
  exact ⟨rfl, TI.next h0 hB ht h.low hK h1 h2⟩
theorem ti_state (h : TI w w1 tb σ K) : Calls Try.prog 19 #[.pointer (some ⟨tb, 0, none⟩)] w1 fun e w' => e = .returned (.int .i64 σ.st) ∧ w1 = w' := by
  obtain ⟨B, G, h0, hB, ht, hK⟩ := h.ex
  exact state_any ht
theorem ti_ended (h : TI w w1 tb σ K) : Calls Try.prog 20 #[.pointer (some ⟨tb, 0, none⟩)] w1 fun e w' => e = .returned (.bool σ.ended) ∧ w1 = w' := by
  obtain ⟨B, G, h0, hB, ht, hK⟩ := h.ex
  exact ended_any ht
theorem ti_count (h : TI w w1 tb σ K) : Calls Try.prog 25 #[.pointer (some ⟨tb, 0, none⟩)] w1 fun e w' => ∃ x y, e = .returned (.complex .f64 x y) ∧ V x σ.ku ∧ V y σ.kd ∧ w1 = w' := by
  obtain ⟨B, G, h0, hB, ht, hK⟩ := h.ex
  exact count_tun ht
theorem ti_waits (h : TI w w1 tb σ K) : Calls Try.prog 14 #[.pointer (some ⟨tb, 0, none⟩)] w1 fun e w' => e = .returned (.int .i64 σ.up.length) ∧ w1 = w' := by
  obtain ⟨B, G, h0, hB, ht, hK⟩ := h.ex
  exact waits_any ht
theorem ti_held (h : TI w w1 tb σ K) (hf : σ.Few) : Calls Try.prog 27 #[.pointer (some ⟨tb, 0, none⟩)] w1 fun e w' => e = .returned (.int .i64 (σ.up.length + σ.dn.length)) ∧ Below w1.heap.size w1 w' := by
  obtain ⟨B, G, h0, hB, ht, hK⟩ := h.ex
  exact held_any ht hf
theorem ti_done (h : TI w w1 tb σ K) : Calls Try.prog 21 #[.pointer (some ⟨tb, 0, none⟩)] w1 fun e w' => e = .returned (.bool (decide (σ.st = 3) && σ.shut && σ.sent)) ∧ w1 = w' := by
  obtain ⟨B, G, h0, hB, ht, hK⟩ := h.ex
  exact done_any ht
theorem ti_late (now dial idle : Int) (h : TI w w1 tb σ K) (h1 : -4611686018427387904 ≤ now - σ.mv) (h2 : now - σ.mv ≤ 4611686018427387904) : Calls Try.prog 15 #[.pointer (some ⟨tb, 0, none⟩), .int .i64 now, .int .i64 dial, .int .i64 idle] w1 fun e w' => e = .returned (.bool (lateB σ now dial idle)) ∧ w1 = w' := by
  obtain ⟨B, G, h0, hB, ht, hK⟩ := h.ex
  exact late_any now dial idle ht h1 h2
theorem ti_dial0 (us' : ByteArray) (t : Int) (h : TI w w1 tb σ K) (h3 : σ.st ≠ 1) : Calls Try.prog 9 #[.pointer (some ⟨tb, 0, none⟩), .string us', .int .i64 t] w1 fun e w' => e = .returned (.bool false) ∧ w1 = w' := by
  obtain ⟨B, G, h0, hB, ht, hK⟩ := h.ex
  exact dial_no us' t ht h3
theorem ti_opened0 (t : Int) (h : TI w w1 tb σ K) (h3 : σ.st ≠ 2) : Calls Try.prog 10 #[.pointer (some ⟨tb, 0, none⟩), .int .i64 t] w1 fun e w' => e = .returned (.bool false) ∧ w1 = w' := by
  obtain ⟨B, G, h0, hB, ht, hK⟩ := h.ex
  exact opened_no t ht h3
end
end Go.Proofs.Ytefhadfcipifmaa
