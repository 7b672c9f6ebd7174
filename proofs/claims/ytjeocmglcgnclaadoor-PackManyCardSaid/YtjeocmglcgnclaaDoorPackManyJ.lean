/- The law PackMany walked. No condition but the rows' length. -/
import Derived.Test.YtjeocmglcgnclaaDoorPackTwoJ
import Derived.Test.YtjeocmglcgnclaaDoorGk
import Derived.Test.YtjeocmglcgnclaaDoorGs
namespace Go.Proofs.YtjeocmglcgnclaaDoor
open Go.RowKit
attribute [local go_sem] kd kdS if_min if_max if_minN if_maxN

/-- An encoder that nobody calls, off two lists of blocks. -/
structure BO (wr : World) (gb tb Bb : Nat) (Fb G1 G2 : List Nat) : Prop where
  e : EncAt wr Bb Fb gb tb 4096 4096 4096 []
  o1 : ∀ q ∈ gb :: Fb, q ∉ G1
  o2 : ∀ q ∈ gb :: Fb, q ∉ G2
theorem BO.flip {wr : World} {gb tb Bb : Nat} {Fb G1 G2 : List Nat} (h : BO wr gb tb Bb Fb G1 G2) : BO wr gb tb Bb Fb G2 G1 := ⟨h.e, h.o2, h.o1⟩
theorem BO.below {wr w' : World} {gb tb Bb : Nat} {Fb G1 G2 : List Nat} (h : BO wr gb tb Bb Fb G1 G2) (hb : Below wr.heap.size wr w') : BO w' gb tb Bb Fb G1 G2 := ⟨h.e.below hb, h.o1, h.o2⟩
theorem BO.turn {wr w' : World} {gb tb Bb g : Nat} {Fb F F' G2 : List Nat} (h : BO wr gb tb Bb Fb (g :: F) G2) (ht : Turned (g :: F) wr w') (hk : ∀ k ∈ F', k ∈ F ∨ wr.heap.size ≤ k) : BO w' gb tb Bb Fb (g :: F') G2 :=
  ⟨h.e.turned ht h.o1, fun q hq hm => by
    rcases List.mem_cons.1 hm with rfl | hm
    · exact h.o1 _ hq (by simp)
    · rcases hk q hm with h1 | h1
      · exact h.o1 q hq (by simp [h1])
      · have := (h.e.ge_ q hq).2
        omega, h.o2⟩
theorem same_self (l : List Fd) : sameL l l = true := by simp [sameL]
theorem post_below {bs : List UInt8} {room : Int} {B : Nat} {F : List Nat} {g t : Nat} {dead : Bool} {m : Int} {L : List Fd} {w wr w' : World} {e : Ending} (hd : DecAt wr B F g t dead m L) (hp : DecodePost bs room B F g t dead m L wr e w') {C : Nat} (hb : Below C w wr) (hC : C ≤ B) (hC2 : C ≤ wr.heap.size) :
    Below C w w' ∧ ∃ A n c, e = .returned (.tuple #[.slice A n c, .int .i64 (decO bs room dead m L).2]) := by
  obtain ⟨A', n', c', F', he, ho, h1, ht, hk, hr⟩ := hp
  exact ⟨hb.trans (ht.below (fun b hb => Nat.le_trans hC (hd.ge_ b hb).1) hC2), A', n', c', he⟩

theorem ED.dec2 {w wr w' : World} {ge te gd td : Nat} {most told least : Int} {L : List Fd} {md : Int} {LD : List Fd} {Be Bd : Nat} {Fe Fq : List Nat} {e : Ending} {bs : List UInt8} {room : Int} (h : ED w wr ge te gd td most told least L md LD Be Bd Fe Fq) (hp : DecodePost bs room Bd Fq gd td false md LD wr e w') {m2 : Int} {L2 l : List Fd} (h1 : decO bs room false md LD = (l, 0)) (h2 : decT bs false md LD = (false, m2, L2)) :
    ∃ A' n' c' F', e = .returned (.tuple #[.slice A' n' c', .int .i64 0]) ∧ Fs w' A' n' l ∧ ED w w' ge te gd td most told least L m2 L2 Be Bd Fe F' ∧ Turned (gd :: Fq) wr w' ∧ ∀ k ∈ F', k ∈ Fq ∨ wr.heap.size ≤ k := by
  obtain ⟨A', n', c', F', he, ho, hd, ht, hk, hr⟩ := hp
  rw [h1] at he ho
  rw [h2] at hd
  refine ⟨A', n', c', F', he, Rd.of_own ho, ⟨h.e.turned ht (fun k hk hm => h.off k hk hm), hd, fun k hm hn => ?_, h.out.trans (ht.below (fun b hb => Nat.le_trans h.wd (h.d.ge_ b hb).1) h.out.size), h.we, h.wd⟩, ht, hk⟩
  rcases List.mem_cons.1 hn with rfl | hn
  · exact h.off _ hm (by simp)
  · rcases hk k hn with h1 | h1
    · exact h.off k hm (by simp [h1])
    · have := (h.e.ge_ k hm).2
      omega

set_option maxHeartbeats 16000000 in
set_option maxRecDepth 100000 in
theorem pmany_walk (A : Option Addr) (n c : Nat) (os : List Op9) (w : World) (hs : Os9 w A n os) (hn : n ≤ 140737488355328) :
    Calls Tryd.prog 7 #[.slice A n c] w fun e w' => e = .returned (.bool true) ∧ Below w.heap.size w w' := by
  have HS := hid hs
  have HLN := hid hs.len
  clear hs
  go_enter Tryd.func7, Tryd.ntmps7
  go_wp2_with fail
  refine (first9_any w).mono ?_
  rintro e w1 ⟨rfl, hb1⟩
  have HB1 := hid hb1
  clear hb1
  go_wp2_with fail
  refine (encNew_any w1).mono ?_
  rintro e w2 ⟨Fe, ge, te, rfl, h2, hb2⟩
  have H2 := hid h2
  have HB2 := hid hb2
  clear h2 hb2
  go_wp2_with fail
  refine (encNew_any w2).mono ?_
  rintro e w2b ⟨Fb, gb, tb, rfl, h2b, hb2b⟩
  have H2b := hid h2b
  have HB2b := hid hb2b
  clear h2b hb2b
  go_wp2_with fail
  refine (decNew_any w2b).mono ?_
  rintro e w3 ⟨Fq, gd, td, rfl, h3, hb3⟩
  have hs12 := HB1.out.size
  have hs22 := HB2.out.size
  have hs2b := HB2b.out.size
  have HI := hid (show ED w w3 ge te gd td 4096 4096 4096 [] 4096 [] w1.heap.size w2b.heap.size Fe Fq from ⟨(H2.out.below HB2b.out).below hb3, h3, fun q hq hm => by have := (H2.out.ge_ q hq).2; have := (h3.ge_ q hm).1; omega, ((HB1.out.trans (HB2.out.mono hs12)).trans (HB2b.out.mono (by omega))).trans (hb3.mono (by omega)), hs12, by omega⟩)
  have HO := hid (show BO w3 gb tb w2.heap.size Fb (ge :: Fe) (gd :: Fq) from ⟨H2b.out.below hb3, fun q hq hm => by have := (H2.out.ge_ q hm).2; have := (H2b.out.ge_ q hq).1; omega, fun q hq hm => by have := (H2b.out.ge_ q hq).2; have := (h3.ge_ q hm).1; omega⟩)
  clear h3 hb3 H2 HB2 HB1 H2b HB2b hs12 hs22 hs2b
  generalize w1.heap.size = Be at HI
  generalize w2.heap.size = Bb at HO
  generalize w2b.heap.size = Bd at HI
  go_wp2_with fail
  refine (few9_any A n c os w3 (HS.out.below HI.out.out) hn).mono ?_
  rintro e w4 ⟨q, rfl, hq, hb4⟩
  have HI4 := hid (HI.out.below hb4)
  have HO4 := hid (HO.out.below hb4)
  clear hb4 HI HO
  rcases q with _ | _
  · clear hq
    go_wp2_with (go_at_call 8; go_must (refine (first9_any _).mono ?_; rintro e w5 ⟨rfl, hb5⟩; have HB5 := hid (HI4.out.out.trans (hb5.mono HI4.out.out.size)); clear hb5))
    go_ret
    exact ⟨rfl, HB5.out⟩
  have HF := hid (hq rfl)
  clear hq
  go_wp2_with fail
  go_loopw [6] (fun i wr => ∃ (k : Nat) (most : Int) (L : List Fd) (Fe Fq : List Nat), k ≤ n ∧ i = .int .i64 k ∧ ED w wr ge te gd td most most 4096 L most L Be Bd Fe Fq ∧ Pair most most 4096 L L ∧ (k = 0 → most = 4096 ∧ L = []) ∧ BO wr gb tb Bb Fb (ge :: Fe) (gd :: Fq)) (fun i _ => n - (intOf i).toNat)
  case atStart => exact ⟨0, _, _, _, _, Nat.zero_le _, rfl, HI4.out, Pair.start, fun _ => ⟨rfl, rfl⟩, HO4.out⟩
  case round =>
    obtain ⟨k, most, L, Fe, Fq, hk, rfl, hE, hP, hZ, hO⟩ := hrel
    have HE := hid hE
    have HP := hid hP
    have HZ := hid hZ
    have HO := hid hO
    clear hE hP hZ hO HI4 HO4
    by_cases hlt : k < n
    · obtain ⟨b, o, rfl, hc⟩ := HS.out.at_ (by omega)
      obtain ⟨x, hx⟩ : ∃ x, os[k]? = some x := ⟨os[k]'(by rw [HLN.out]; omega), List.getElem?_eq_getElem _⟩
      have HC := hid (hc k x hx).2
      have HXM := hid (List.mem_of_getElem? hx)
      have hbd := HS.out.body x HXM.out
      have HFS := hid hbd.2
      have hfl := hbd.2.len
      have hea := HF.out.each x HXM.out
      have hfn : x.fn ≤ 200 := by omega
      have c1 := below_keep HE.out.out _ _ HC.out
      clear hc hx hbd hfl hea
      go_wp2_with fail
      refine (encode_anyZ Be Fe ge te most most 4096 L x.fA x.fn x.fc x.fs _ HE.out.e (Rd.below HFS.out HE.out.out) (HE.out.row_off HFS.out) (by omega) HE.out.hB).mono ?_
      intro e w5 hp
      clear c1
      by_cases hlong : x.fs.any longF = true
      · unfold EncodePost at hp
        rw [if_pos hlong] at hp
        obtain ⟨rfl, hb5⟩ := hp
        have HE5 := hid (HE.out.below hb5)
        clear hb5 hlong
        go_wp2_with fail
        refine (decode_any 2147483647 Bd Fq gd td false most L none 0 0 [] w5 HE5.out.d (Rd.nil _ _ _) (by omega)).mono ?_
        intro e w6 hp
        obtain ⟨hb6, A6, n6, c6, rfl⟩ := post_below HE5.out.d hp HE5.out.out HE5.out.wd HE5.out.out.size
        have HB6 := hid hb6
        clear hp hb6
        go_wp2_with fail
        refine (decNew_any w6).mono ?_
        rintro e w7 ⟨Fu, gu, tu, rfl, h7, hb7⟩
        have H7 := hid h7
        have HB7 := hid (HB6.out.trans (hb7.mono HB6.out.size))
        have HW6 := hid HB6.out.size
        clear h7 hb7
        go_wp2_with fail
        refine (decode_any 2147483647 w6.heap.size Fu gu tu false 4096 [] none 0 0 [] w7 H7.out (Rd.nil _ _ _) (by omega)).mono ?_
        intro e w8 hp
        obtain ⟨hb8, A8, n8, c8, rfl⟩ := post_below H7.out hp HB7.out HW6.out HB7.out.size
        have HB8 := hid hb8
        clear hp hb8
        go_wp2_with (go_at_call 8; go_must (refine (first9_any _).mono ?_; rintro e w9 ⟨rfl, hb9⟩; have HB9 := hid (HB8.out.trans (hb9.mono HB8.out.size)); clear hb9))
        go_ret
        exact ⟨rfl, HB9.out⟩
      have hl2 : x.fs.any longF = false := by simpa using hlong
      obtain ⟨A5, m5, c5, F5, rfl, hq⟩ := encode_ok hl2 hp
      have hE5 := HE.out.enc hq.enc hq.turn_ hq.kf
      have hO5 := HO.out.turn hq.turn_ hq.kf
      have hBs := Bs.of_own hq.row
      have hst := back_step HF.out HXM.out HP.out hl2
      have hoff : Off A5 (gd :: Fq) := fun ad e hm => by
        have h1 := (HE.out.d.ge_ _ hm).2
        rcases hq.kr ad.block (by rw [e]; rfl) with h2 | h2
        · cases h2
        · omega
      clear hp hlong hl2 hq
      obtain ⟨r, hr⟩ : ∃ r, blockP most most 4096 L x.fs = r := ⟨_, rfl⟩
      rw [hr] at hE5 hBs hst
      obtain ⟨o1, L1⟩ := r
      dsimp only at hE5 hBs hst
      have HE5 := hid hE5
      have HO5 := hid hO5
      have HBS := hid hBs
      have HD := hid hst.2.1
      have HT := hid hst.2.2.1
      have HP5 := hid hst.2.2.2
      have HOF := hid hoff
      have hm5 : m5 ≤ 16777216 := by have := hBs.len; have := hst.1; omega
      clear hr hE5 hO5 hBs hst hoff HE HP HO
      go_wp2_with fail
      refine (decode_any 2147483647 Bd Fq gd td false most L A5 m5 c5 o1 w5 HE5.out.d HBS.out (by omega)).mono ?_
      intro e w6 hp
      obtain ⟨A6, n6, c6, F6, rfl, hx6, hE6, ht6, hk6⟩ := HE5.out.dec2 hp HD.out HT.out
      have HB6 := hid (show Bs w6 A5 m5 o1 from Rd.turned HBS.out ht6 HOF.out)
      have HO6 := hid (HO5.out.flip.turn ht6 hk6).flip
      have HE6 := hid hE6
      have HX6 := hid hx6
      clear hp hx6 hE6 ht6 hk6 HE5 HO5 HBS HOF
      go_wp2_with fail
      refine (decNew_any w6).mono ?_
      rintro e w7 ⟨Fu, gu, tu, rfl, h7, hb7⟩
      have H7 := hid h7
      have HB7 := hid hb7
      clear h7 hb7
      go_wp2_with fail
      refine (decode_any 2147483647 w6.heap.size Fu gu tu false 4096 [] A5 m5 c5 o1 w7 H7.out (HB6.out.below HB7.out) (by omega)).mono ?_
      intro e w8 hp
      have hb8 := (post_below H7.out hp HB7.out (Nat.le_refl _) HB7.out.size).1
      obtain ⟨A8, n8, c8, F8, rfl, ho8, _, _, _, _⟩ := hp
      have hx8 : Fs w8 A8 n8 _ := Rd.of_own ho8
      have HX8 := hid (HX6.out.below hb8)
      have HE8 := hid (HE6.out.below hb8)
      have HO8 := hid (HO6.out.below hb8)
      have c1 := below_keep HE8.out.out _ _ HC.out
      clear ho8 hb8 H7 HB7 HX6 HE6 HO6 HB6
      by_cases hk0 : k = 0
      · obtain ⟨rfl, rfl⟩ := HZ.out hk0
        rw [HD.out] at hx8 ⊢
        dsimp only at hx8 ⊢
        subst hk0
        have HZ8 := hid hx8
        have hn6 : n6 ≤ 200 := by have := HX8.out.len; have := HFS.out.len; omega
        have hn8 : n8 ≤ 200 := by have := hx8.len; have := HFS.out.len; omega
        clear hx8
        go_wp2_with (first
          | (go_at_call 27; (refine (same_any A6 n6 c6 x.fs x.fA x.fn x.fc x.fs _ HX8.out (Rd.below HFS.out HE8.out.out) (by omega)).mono ?_; rintro e w9 ⟨rfl, hb9⟩; rw [same_self]; have HE9 := hid (HE8.out.below hb9); have HO9 := hid (HO8.out.below hb9); have HX9 := hid (HX8.out.below hb9); have HZ9 := hid (Fs.below HZ8.out hb9); clear hb9 HX8 HE8 HO8 HZ8))
          | (go_at_call 27; (refine (same_any A8 n8 c8 x.fs A6 n6 c6 x.fs _ HZ9.out HX9.out (by omega)).mono ?_; rintro e w10 ⟨rfl, hb10⟩; rw [same_self]; have HE10 := hid (HE9.out.below hb10); have HO10 := hid (HO9.out.below hb10); clear hb10)))
        go_roundw
        case rel => exact ⟨1, _, _, _, _, by omega, by go_num, HE10.out, HP5.out, fun h => by omega, HO10.out⟩
        case measure => simp [intOf]; omega
      · have hk1 : 0 < k := by omega
        obtain ⟨zz, hzz⟩ : ∃ zz, (decO o1 2147483647 false 4096 []).2 = zz := ⟨_, rfl⟩
        rw [hzz]
        have hn6 : n6 ≤ 200 := by have := HX8.out.len; have := HFS.out.len; omega
        clear hx8 hzz
        go_wp2_with (first
          | (go_at_call 27; (refine (same_any A6 n6 c6 x.fs x.fA x.fn x.fc x.fs _ HX8.out (Rd.below HFS.out HE8.out.out) (by omega)).mono ?_; rintro e w9 ⟨rfl, hb9⟩; rw [same_self]; have HE9 := hid (HE8.out.below hb9); have HO9 := hid (HO8.out.below hb9); clear hb9 HX8 HE8 HO8)))
        go_roundw
        case rel => exact ⟨k + 1, _, _, _, _, by omega, by go_num, HE9.out, HP5.out, fun h => by omega, HO9.out⟩
        case measure => simp [intOf]; omega
    · obtain rfl : k = n := by omega
      go_wp2_with (first
        | (go_at_call 8; go_must (refine (first9_any _).mono ?_; rintro e w5 ⟨rfl, hb5⟩; have HE5 := hid (HE.out.below hb5); have HO5 := hid (HO.out.below hb5); clear hb5))
        | (go_at_call 10; go_must (refine (encTable_any _ Fb gb tb _ _ _ _ _ HO5.out.e).mono ?_; rintro e w8 ⟨rfl, rfl⟩))
        | (go_at_call 12; go_must (refine (len_tb HO5.out.e.tb).mono ?_; rintro e w8 ⟨rfl, rfl⟩)))
      go_ret
      exact ⟨rfl, HE5.out.out⟩
end Go.Proofs.YtjeocmglcgnclaaDoor
