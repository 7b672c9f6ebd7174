/- The reference's Read of every frame. Conditions: at most 2^40 bytes. -/
import Derived.Test.YtdiahjeplaegnaaPartRd3
namespace Go.Proofs.Ytdiahjeplaegnaa
open Go.RowKit

theorem rread_any (k f s : Int) (A : Option Addr) (n c : Nat) (l : List UInt8) (w : World) (h : Bs w A n l) (hnc : n ≤ c) (hn : n ≤ 1099511627776) :
    Calls Try.prog 10 #[.agg #[.int .i64 k, .int .i64 f, .int .i64 s, .slice A n c]] w (PartPost (readP k f s l) w) := by
  by_cases h0 : k = 0
  · subst h0; exact rread_0 f s A n c l w h hnc hn
  by_cases h1 : k = 1
  · subst h1; exact rread_1 f s A n c l w h hnc hn
  by_cases h2 : k = 2
  · subst h2; exact rread_2 f s A n c l w h hnc hn
  by_cases h3 : k = 3
  · subst h3; exact rread_3 f s A n c l w h hnc hn
  by_cases h4 : k = 4
  · subst h4
    by_cases hs : s = 0
    · subst hs
      rcases hab : fl f 1 with _ | _
      · by_cases hr : n % 6 = 0
        · exact rread_4d f A n c l w h hnc hn hab hr
        · exact rread_4b f A n c l w h hnc hn hab hr
      · by_cases h0 : n = 0
        · subst h0
          exact rread_4c f A c l w h hnc hn hab
        · exact rread_4a f A n c l w h hnc hn hab (by omega)
    · exact rread_4e f s A n c l w h hnc hn hs
  by_cases h5 : k = 5
  · subst h5; exact rread_5 f s A n c l w h hnc hn
  by_cases h6 : k = 6
  · subst h6; exact rread_6 f s A n c l w h hnc hn
  by_cases h7 : k = 7
  · subst h7; exact rread_7 f s A n c l w h hnc hn
  by_cases h8 : k = 8
  · subst h8
    by_cases h4 : n = 4
    · subst h4
      by_cases hm : m31 (n4 l) = 0
      · by_cases hs : s = 0
        · subst hs
          exact rread_8a f A c l w h hnc hn hm
        · exact rread_8b f s A c l w h hnc hn hs hm
      · exact rread_8c f s A c l w h hnc hn hm
    · exact rread_8d f s A n c l w h hnc hn h4
  by_cases h9 : k = 9
  · subst h9; exact rread_9 f s A n c l w h hnc hn
  exact rread_x k f s A n c l w h hnc hn h0 h1 h2 h3 h4 h5 h6 h7 h8 h9

theorem readP_sets (k f s : Int) (l : List UInt8) : (readP k f s l).sets.length ≤ l.length := by
  unfold readP bodyP stage2 stage3 settingsP wholeP updateP connP streamP
  (repeat' split) <;> simp [setsOf_len] <;> omega
end Go.Proofs.Ytdiahjeplaegnaa
