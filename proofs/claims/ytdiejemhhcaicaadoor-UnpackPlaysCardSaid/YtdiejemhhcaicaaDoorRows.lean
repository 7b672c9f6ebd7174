/-
  NARROWER THAN 'FOR EVERY INPUT', by the rows' own cells (each row's printed sentence says how): UnpackStatic: laid · UnpackLimits: laid · UnpackPlays: laid · UnpackTable: laid · UnpackAdds: laid.
  DERIVED. THE GIVEN ROWS OF THIS SEAT. 5 by the template 'for every input the law returns true; each argument reads behind the call as it read before'; 0 by the template 'total and deterministic' (their statements: YtdiejemhhcaicaaDoorTotals.lean).
  GIVEN WITH THE SEED: the statements are not yours to turn. If you find one false, say at which input.
  Laid BY PROGRAM, IN A SANDBOX (cutbox-rows.mjs): the forced cells as the released guide's own fill.sh prints them over the translation 6b3e941b8a10cd79… (all of the seat's roots in one cut). By AI agents, Wed Nov 11 2026. No macro, syntax, notation, axiom, sorry.
-/
import Derived.Test.YtdiejemhhcaicaaDoorChecked
import GoSem.PinnedTables
import GoSem.Claim
import GoSem.ClaimJoined
import GoSem.ClaimMapViews
import Derived.JoinedTies
import Derived.KernelRfl
namespace Go.Proofs.YtdiejemhhcaicaaDoor
/- THE CELL 'sum', in the pinned program and in every row, IS THE sha256 OF THE DUMP (.gsa) THAT YtdiejemhhcaicaaDoorProg.lean LOADS. Nothing in Lean hashes anything: it is a label: what it is worth is what the hold of that sum in a sandbox is worth. -/
noncomputable def Tryd.pinned : Pinned := { name := "ytdiejemhhcaicaadoor", sum := "6b3e941b8a10cd7960ecc41f39a75f418eeb84b22199b06597bcf1f6c569c171", checked := Tryd.checked }
namespace Rows
def none {H : Type} : Left H := { results := [], args := [] }

/- WHAT THE LISTED PACKAGE-LEVEL VARIABLES READ AS WHEN THE CALL BEGINS. Each datum BY PROGRAM (the guide's laid-datum.mjs) off the statement by which the dump's own 'gosem.cut.vars' lays the variable. In a bare row this is a premise. The card (YtdiejemhhcaicaaDoorCards.lean) ties it to the program's text. -/
def laid_unicode_utf8_acceptRanges {H : Type} : DataW H := .agg [.agg [.lit (.int .u8 128), .lit (.int .u8 191)], .agg [.lit (.int .u8 160), .lit (.int .u8 191)], .agg [.lit (.int .u8 128), .lit (.int .u8 159)], .agg [.lit (.int .u8 144), .lit (.int .u8 191)], .agg [.lit (.int .u8 128), .lit (.int .u8 143)], .agg [.lit (.int .u8 0), .lit (.int .u8 0)], .agg [.lit (.int .u8 0), .lit (.int .u8 0)], .agg [.lit (.int .u8 0), .lit (.int .u8 0)], .agg [.lit (.int .u8 0), .lit (.int .u8 0)], .agg [.lit (.int .u8 0), .lit (.int .u8 0)], .agg [.lit (.int .u8 0), .lit (.int .u8 0)], .agg [.lit (.int .u8 0), .lit (.int .u8 0)], .agg [.lit (.int .u8 0), .lit (.int .u8 0)], .agg [.lit (.int .u8 0), .lit (.int .u8 0)], .agg [.lit (.int .u8 0), .lit (.int .u8 0)], .agg [.lit (.int .u8 0), .lit (.int .u8 0)]]
/-- One of Go's own tables, pinned by name: the form's constant. -/
def laid_unicode_utf8_first : DataW Unit := Go.Pinned.utf8First

/-- 'wlvlaw8.UnpackStatic': WHATEVER THE INPUT: true; the input reads as it did. -/
def unpackStaticSpec : ChangeSpec := { name := "unpackStatic", fn := fun _ => fun
  | [d] => { results := [.lit (.bool true)], args := [d] }
  | _ => none }
def unpackStaticRow : OpenClaim := { program := "ytdiejemhhcaicaadoor", sum := "6b3e941b8a10cd7960ecc41f39a75f418eeb84b22199b06597bcf1f6c569c171", func := "wayleave/wlvlaw8.UnpackStatic", spec := "unpackStatic", inPlace := ["internal/bytealg.CountString", "internal/bytealg.IndexByteString", "internal/bytealg.IndexString"], named := ["unicode/utf8.first", "unicode/utf8.acceptRanges", "internal/bytealg.MaxLen"], apart := false, laid := [("unicode/utf8.acceptRanges", laid_unicode_utf8_acceptRanges), ("unicode/utf8.first", laid_unicode_utf8_first)] }
def UnpackStaticSaid : Prop := unpackStaticRow.holds Tryd.pinned (OpenSpec.ofChange unpackStaticSpec)

/-- ITS FALSE NEIGHBOUR: 'it returns false'. Refute it at one input. -/
def unpackStaticWrong : ChangeSpec := { name := "unpackStatic", fn := fun _ => fun
  | [d] => { results := [.lit (.bool false)], args := [d] }
  | _ => none }
def UnpackStaticWrongFalsely : Prop := unpackStaticRow.holds Tryd.pinned (OpenSpec.ofChange unpackStaticWrong)

/-- 'wlvlaw8.UnpackLimits': WHATEVER THE INPUT: true; the input reads as it did. -/
def unpackLimitsSpec : ChangeSpec := { name := "unpackLimits", fn := fun _ => fun
  | [d] => { results := [.lit (.bool true)], args := [d] }
  | _ => none }
def unpackLimitsRow : OpenClaim := { program := "ytdiejemhhcaicaadoor", sum := "6b3e941b8a10cd7960ecc41f39a75f418eeb84b22199b06597bcf1f6c569c171", func := "wayleave/wlvlaw8.UnpackLimits", spec := "unpackLimits", inPlace := ["internal/bytealg.CountString", "internal/bytealg.IndexByteString", "internal/bytealg.IndexString"], named := ["unicode/utf8.first", "unicode/utf8.acceptRanges", "internal/bytealg.MaxLen"], apart := false, laid := [("unicode/utf8.acceptRanges", laid_unicode_utf8_acceptRanges), ("unicode/utf8.first", laid_unicode_utf8_first)] }
def UnpackLimitsSaid : Prop := unpackLimitsRow.holds Tryd.pinned (OpenSpec.ofChange unpackLimitsSpec)

/-- ITS FALSE NEIGHBOUR: 'it returns false'. Refute it at one input. -/
def unpackLimitsWrong : ChangeSpec := { name := "unpackLimits", fn := fun _ => fun
  | [d] => { results := [.lit (.bool false)], args := [d] }
  | _ => none }
def UnpackLimitsWrongFalsely : Prop := unpackLimitsRow.holds Tryd.pinned (OpenSpec.ofChange unpackLimitsWrong)

/-- 'wlvlaw8.UnpackPlays': WHATEVER THE INPUT: true; the input reads as it did. -/
def unpackPlaysSpec : ChangeSpec := { name := "unpackPlays", fn := fun _ => fun
  | [d1, d2] => { results := [.lit (.bool true)], args := [d1, d2] }
  | _ => none }
def unpackPlaysRow : OpenClaim := { program := "ytdiejemhhcaicaadoor", sum := "6b3e941b8a10cd7960ecc41f39a75f418eeb84b22199b06597bcf1f6c569c171", func := "wayleave/wlvlaw8.UnpackPlays", spec := "unpackPlays", inPlace := ["internal/bytealg.CountString", "internal/bytealg.IndexByteString", "internal/bytealg.IndexString"], named := ["unicode/utf8.first", "unicode/utf8.acceptRanges", "internal/bytealg.MaxLen"], apart := false, laid := [("unicode/utf8.acceptRanges", laid_unicode_utf8_acceptRanges), ("unicode/utf8.first", laid_unicode_utf8_first)] }
def UnpackPlaysSaid : Prop := unpackPlaysRow.holds Tryd.pinned (OpenSpec.ofChange unpackPlaysSpec)

/-- ITS FALSE NEIGHBOUR: 'it returns false'. Refute it at one input. -/
def unpackPlaysWrong : ChangeSpec := { name := "unpackPlays", fn := fun _ => fun
  | [d1, d2] => { results := [.lit (.bool false)], args := [d1, d2] }
  | _ => none }
def UnpackPlaysWrongFalsely : Prop := unpackPlaysRow.holds Tryd.pinned (OpenSpec.ofChange unpackPlaysWrong)

/-- 'wlvlaw8.UnpackTable': WHATEVER THE INPUT: true; the input reads as it did. -/
def unpackTableSpec : ChangeSpec := { name := "unpackTable", fn := fun _ => fun
  | [d1, d2] => { results := [.lit (.bool true)], args := [d1, d2] }
  | _ => none }
def unpackTableRow : OpenClaim := { program := "ytdiejemhhcaicaadoor", sum := "6b3e941b8a10cd7960ecc41f39a75f418eeb84b22199b06597bcf1f6c569c171", func := "wayleave/wlvlaw8.UnpackTable", spec := "unpackTable", inPlace := ["internal/bytealg.CountString", "internal/bytealg.IndexByteString", "internal/bytealg.IndexString"], named := ["unicode/utf8.first", "unicode/utf8.acceptRanges", "internal/bytealg.MaxLen"], apart := false, laid := [("unicode/utf8.acceptRanges", laid_unicode_utf8_acceptRanges), ("unicode/utf8.first", laid_unicode_utf8_first)] }
def UnpackTableSaid : Prop := unpackTableRow.holds Tryd.pinned (OpenSpec.ofChange unpackTableSpec)

/-- ITS FALSE NEIGHBOUR: 'it returns false'. Refute it at one input. -/
def unpackTableWrong : ChangeSpec := { name := "unpackTable", fn := fun _ => fun
  | [d1, d2] => { results := [.lit (.bool false)], args := [d1, d2] }
  | _ => none }
def UnpackTableWrongFalsely : Prop := unpackTableRow.holds Tryd.pinned (OpenSpec.ofChange unpackTableWrong)

/-- 'wlvlaw8.UnpackAdds': WHATEVER THE INPUT: true; the input reads as it did. -/
def unpackAddsSpec : ChangeSpec := { name := "unpackAdds", fn := fun _ => fun
  | [d1, d2] => { results := [.lit (.bool true)], args := [d1, d2] }
  | _ => none }
def unpackAddsRow : OpenClaim := { program := "ytdiejemhhcaicaadoor", sum := "6b3e941b8a10cd7960ecc41f39a75f418eeb84b22199b06597bcf1f6c569c171", func := "wayleave/wlvlaw8.UnpackAdds", spec := "unpackAdds", inPlace := ["internal/bytealg.CountString", "internal/bytealg.IndexByteString", "internal/bytealg.IndexString"], unfollowed := true, recurses := true, named := ["unicode/utf8.first", "unicode/utf8.acceptRanges", "internal/bytealg.MaxLen"], apart := false, laid := [("unicode/utf8.acceptRanges", laid_unicode_utf8_acceptRanges), ("unicode/utf8.first", laid_unicode_utf8_first)] }
def UnpackAddsSaid : Prop := unpackAddsRow.holds Tryd.pinned (OpenSpec.ofChange unpackAddsSpec)

/-- ITS FALSE NEIGHBOUR: 'it returns false'. Refute it at one input. -/
def unpackAddsWrong : ChangeSpec := { name := "unpackAdds", fn := fun _ => fun
  | [d1, d2] => { results := [.lit (.bool false)], args := [d1, d2] }
  | _ => none }
def UnpackAddsWrongFalsely : Prop := unpackAddsRow.holds Tryd.pinned (OpenSpec.ofChange unpackAddsWrong)

/- THE SECOND FORM. 'bulk': how many values and letters a reading holds, each counted each time it is reached (what is shared counts as often as it is met; a slice's spare places count too). A statement '..UptoSaid' is the law's where the arguments, and the package variables that the reading takes, are together of bulk at most 1048576: NARROWER than '..Said'. Prove '..Said' where nothing that the law and all that it calls make is longer than what came in: it says more and counts as full. Else prove '..UptoSaid'. A law counts once. -/
mutual
def uptoBulk {H : Type} : DataW H → Nat
  | .lit (.string bytes) => bytes.length + 1
  | .lit _ => 1
  | .nil => 1
  | .ptr d => uptoBulk d + 1
  | .slice elems spare => uptoBulkAll elems + uptoBulkAll spare + 1
  | .agg parts => uptoBulkAll parts + 1
  | .iface _ d => uptoBulk d + 1
  | .map entries => uptoBulkEntries entries + 1
  | .held _ => 1
def uptoBulkAll {H : Type} : List (DataW H) → Nat
  | [] => 0
  | d :: r => uptoBulk d + uptoBulkAll r
def uptoBulkEntries {H : Type} : List (Lit × DataW H) → Nat
  | [] => 0
  | x :: r => uptoBulkEntry x + uptoBulkEntries r
def uptoBulkEntry {H : Type} : Lit × DataW H → Nat
  | (.string bytes, d) => bytes.length + uptoBulk d + 1
  | (_, d) => uptoBulk d + 1
 end
def uptoSmall : (H : Type) → List (DataW H) → Bool := fun _ ds => decide (uptoBulkAll ds ≤ 1048576)
def OpenSpec.upto (s : _root_.Go.ChangeSpec) : _root_.Go.OpenSpec := { _root_.Go.OpenSpec.ofChange s with cond := some uptoSmall }

/-- 'wlvlaw8.UnpackStatic', WHERE WHAT IT READS IS OF BULK AT MOST 1048576: true; the input reads as it did. -/
def unpackStaticUptoRow : OpenClaim := { program := "ytdiejemhhcaicaadoor", sum := "6b3e941b8a10cd7960ecc41f39a75f418eeb84b22199b06597bcf1f6c569c171", func := "wayleave/wlvlaw8.UnpackStatic", spec := "unpackStatic", inPlace := ["internal/bytealg.CountString", "internal/bytealg.IndexByteString", "internal/bytealg.IndexString"], named := ["unicode/utf8.first", "unicode/utf8.acceptRanges", "internal/bytealg.MaxLen"], apart := false, laid := [("unicode/utf8.acceptRanges", laid_unicode_utf8_acceptRanges), ("unicode/utf8.first", laid_unicode_utf8_first)], narrowed := true }
def UnpackStaticUptoSaid : Prop := unpackStaticUptoRow.holds Tryd.pinned (OpenSpec.upto unpackStaticSpec)

/-- 'wlvlaw8.UnpackLimits', WHERE WHAT IT READS IS OF BULK AT MOST 1048576: true; the input reads as it did. -/
def unpackLimitsUptoRow : OpenClaim := { program := "ytdiejemhhcaicaadoor", sum := "6b3e941b8a10cd7960ecc41f39a75f418eeb84b22199b06597bcf1f6c569c171", func := "wayleave/wlvlaw8.UnpackLimits", spec := "unpackLimits", inPlace := ["internal/bytealg.CountString", "internal/bytealg.IndexByteString", "internal/bytealg.IndexString"], named := ["unicode/utf8.first", "unicode/utf8.acceptRanges", "internal/bytealg.MaxLen"], apart := false, laid := [("unicode/utf8.acceptRanges", laid_unicode_utf8_acceptRanges), ("unicode/utf8.first", laid_unicode_utf8_first)], narrowed := true }
def UnpackLimitsUptoSaid : Prop := unpackLimitsUptoRow.holds Tryd.pinned (OpenSpec.upto unpackLimitsSpec)

/-- 'wlvlaw8.UnpackPlays', WHERE WHAT IT READS IS OF BULK AT MOST 1048576: true; the input reads as it did. -/
def unpackPlaysUptoRow : OpenClaim := { program := "ytdiejemhhcaicaadoor", sum := "6b3e941b8a10cd7960ecc41f39a75f418eeb84b22199b06597bcf1f6c569c171", func := "wayleave/wlvlaw8.UnpackPlays", spec := "unpackPlays", inPlace := ["internal/bytealg.CountString", "internal/bytealg.IndexByteString", "internal/bytealg.IndexString"], named := ["unicode/utf8.first", "unicode/utf8.acceptRanges", "internal/bytealg.MaxLen"], apart := false, laid := [("unicode/utf8.acceptRanges", laid_unicode_utf8_acceptRanges), ("unicode/utf8.first", laid_unicode_utf8_first)], narrowed := true }
def UnpackPlaysUptoSaid : Prop := unpackPlaysUptoRow.holds Tryd.pinned (OpenSpec.upto unpackPlaysSpec)

/-- 'wlvlaw8.UnpackTable', WHERE WHAT IT READS IS OF BULK AT MOST 1048576: true; the input reads as it did. -/
def unpackTableUptoRow : OpenClaim := { program := "ytdiejemhhcaicaadoor", sum := "6b3e941b8a10cd7960ecc41f39a75f418eeb84b22199b06597bcf1f6c569c171", func := "wayleave/wlvlaw8.UnpackTable", spec := "unpackTable", inPlace := ["internal/bytealg.CountString", "internal/bytealg.IndexByteString", "internal/bytealg.IndexString"], named := ["unicode/utf8.first", "unicode/utf8.acceptRanges", "internal/bytealg.MaxLen"], apart := false, laid := [("unicode/utf8.acceptRanges", laid_unicode_utf8_acceptRanges), ("unicode/utf8.first", laid_unicode_utf8_first)], narrowed := true }
def UnpackTableUptoSaid : Prop := unpackTableUptoRow.holds Tryd.pinned (OpenSpec.upto unpackTableSpec)

/-- 'wlvlaw8.UnpackAdds', WHERE WHAT IT READS IS OF BULK AT MOST 1048576: true; the input reads as it did. -/
def unpackAddsUptoRow : OpenClaim := { program := "ytdiejemhhcaicaadoor", sum := "6b3e941b8a10cd7960ecc41f39a75f418eeb84b22199b06597bcf1f6c569c171", func := "wayleave/wlvlaw8.UnpackAdds", spec := "unpackAdds", inPlace := ["internal/bytealg.CountString", "internal/bytealg.IndexByteString", "internal/bytealg.IndexString"], unfollowed := true, recurses := true, named := ["unicode/utf8.first", "unicode/utf8.acceptRanges", "internal/bytealg.MaxLen"], apart := false, laid := [("unicode/utf8.acceptRanges", laid_unicode_utf8_acceptRanges), ("unicode/utf8.first", laid_unicode_utf8_first)], narrowed := true }
def UnpackAddsUptoSaid : Prop := unpackAddsUptoRow.holds Tryd.pinned (OpenSpec.upto unpackAddsSpec)

end Rows
end Go.Proofs.YtdiejemhhcaicaaDoor
