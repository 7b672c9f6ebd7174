/-
  NARROWER THAN 'FOR EVERY INPUT', by the rows' own cells (each row's printed sentence says how): PackShort: laid · PackLimits: laid · PackPlays: laid · PackBack: laid · PackMany: laid.
  DERIVED. THE GIVEN ROWS OF THIS SEAT. 5 by the template 'for every input the law returns true; each argument reads behind the call as it read before'; 0 by the template 'total and deterministic' (their statements: YtjeocmglcgnclaaDoorTotals.lean).
  GIVEN WITH THE SEED: the statements are not yours to turn. If you find one false, say at which input.
  Laid BY PROGRAM, IN A SANDBOX (cutbox-rows.mjs): the forced cells as the released guide's own fill.sh prints them over the translation 62481b88235823be… (all of the seat's roots in one cut). By AI agents, Wed Nov 11 2026. No macro, syntax, notation, axiom, sorry.
-/
import Derived.Test.YtjeocmglcgnclaaDoorChecked
import GoSem.PinnedTables
import GoSem.Claim
import GoSem.ClaimJoined
import GoSem.ClaimMapViews
import Derived.JoinedTies
import Derived.KernelRfl
namespace Go.Proofs.YtjeocmglcgnclaaDoor
/- THE CELL 'sum', in the pinned program and in every row, IS THE sha256 OF THE DUMP (.gsa) THAT YtjeocmglcgnclaaDoorProg.lean LOADS. Nothing in Lean hashes anything: it is a label: what it is worth is what the hold of that sum in a sandbox is worth. -/
noncomputable def Tryd.pinned : Pinned := { name := "ytjeocmglcgnclaadoor", sum := "62481b88235823bec186a4de13d363f1cb21976d333d8a600cea73954e0765b3", checked := Tryd.checked }
namespace Rows
def none {H : Type} : Left H := { results := [], args := [] }

/- WHAT THE LISTED PACKAGE-LEVEL VARIABLES READ AS WHEN THE CALL BEGINS. Each datum BY PROGRAM (the guide's laid-datum.mjs) off the statement by which the dump's own 'gosem.cut.vars' lays the variable. In a bare row this is a premise. The card (YtjeocmglcgnclaaDoorCards.lean) ties it to the program's text. -/
def laid_unicode_utf8_acceptRanges {H : Type} : DataW H := .agg [.agg [.lit (.int .u8 128), .lit (.int .u8 191)], .agg [.lit (.int .u8 160), .lit (.int .u8 191)], .agg [.lit (.int .u8 128), .lit (.int .u8 159)], .agg [.lit (.int .u8 144), .lit (.int .u8 191)], .agg [.lit (.int .u8 128), .lit (.int .u8 143)], .agg [.lit (.int .u8 0), .lit (.int .u8 0)], .agg [.lit (.int .u8 0), .lit (.int .u8 0)], .agg [.lit (.int .u8 0), .lit (.int .u8 0)], .agg [.lit (.int .u8 0), .lit (.int .u8 0)], .agg [.lit (.int .u8 0), .lit (.int .u8 0)], .agg [.lit (.int .u8 0), .lit (.int .u8 0)], .agg [.lit (.int .u8 0), .lit (.int .u8 0)], .agg [.lit (.int .u8 0), .lit (.int .u8 0)], .agg [.lit (.int .u8 0), .lit (.int .u8 0)], .agg [.lit (.int .u8 0), .lit (.int .u8 0)], .agg [.lit (.int .u8 0), .lit (.int .u8 0)]]
/-- One of Go's own tables, pinned by name: the form's constant. -/
def laid_unicode_utf8_first : DataW Unit := Go.Pinned.utf8First

/-- 'wlvlaw9.PackShort': WHATEVER THE INPUT: true; the input reads as it did. -/
def packShortSpec : ChangeSpec := { name := "packShort", fn := fun _ => fun
  | [d] => { results := [.lit (.bool true)], args := [d] }
  | _ => none }
def packShortRow : OpenClaim := { program := "ytjeocmglcgnclaadoor", sum := "62481b88235823bec186a4de13d363f1cb21976d333d8a600cea73954e0765b3", func := "wayleave/wlvlaw9.PackShort", spec := "packShort", inPlace := ["internal/bytealg.CountString", "internal/bytealg.IndexByteString", "internal/bytealg.IndexString"], named := ["unicode/utf8.first", "unicode/utf8.acceptRanges", "internal/bytealg.MaxLen"], apart := false, laid := [("unicode/utf8.acceptRanges", laid_unicode_utf8_acceptRanges), ("unicode/utf8.first", laid_unicode_utf8_first)] }
def PackShortSaid : Prop := packShortRow.holds Tryd.pinned (OpenSpec.ofChange packShortSpec)

/-- ITS FALSE NEIGHBOUR: 'it returns false'. Refute it at one input. -/
def packShortWrong : ChangeSpec := { name := "packShort", fn := fun _ => fun
  | [d] => { results := [.lit (.bool false)], args := [d] }
  | _ => none }
def PackShortWrongFalsely : Prop := packShortRow.holds Tryd.pinned (OpenSpec.ofChange packShortWrong)

/-- 'wlvlaw9.PackLimits': WHATEVER THE INPUT: true; the input reads as it did. -/
def packLimitsSpec : ChangeSpec := { name := "packLimits", fn := fun _ => fun
  | [d1, d2] => { results := [.lit (.bool true)], args := [d1, d2] }
  | _ => none }
def packLimitsRow : OpenClaim := { program := "ytjeocmglcgnclaadoor", sum := "62481b88235823bec186a4de13d363f1cb21976d333d8a600cea73954e0765b3", func := "wayleave/wlvlaw9.PackLimits", spec := "packLimits", inPlace := ["internal/bytealg.CountString", "internal/bytealg.IndexByteString", "internal/bytealg.IndexString"], named := ["unicode/utf8.first", "unicode/utf8.acceptRanges", "internal/bytealg.MaxLen"], apart := false, laid := [("unicode/utf8.acceptRanges", laid_unicode_utf8_acceptRanges), ("unicode/utf8.first", laid_unicode_utf8_first)] }
def PackLimitsSaid : Prop := packLimitsRow.holds Tryd.pinned (OpenSpec.ofChange packLimitsSpec)

/-- ITS FALSE NEIGHBOUR: 'it returns false'. Refute it at one input. -/
def packLimitsWrong : ChangeSpec := { name := "packLimits", fn := fun _ => fun
  | [d1, d2] => { results := [.lit (.bool false)], args := [d1, d2] }
  | _ => none }
def PackLimitsWrongFalsely : Prop := packLimitsRow.holds Tryd.pinned (OpenSpec.ofChange packLimitsWrong)

/-- 'wlvlaw9.PackPlays': WHATEVER THE INPUT: true; the input reads as it did. -/
def packPlaysSpec : ChangeSpec := { name := "packPlays", fn := fun _ => fun
  | [d] => { results := [.lit (.bool true)], args := [d] }
  | _ => none }
def packPlaysRow : OpenClaim := { program := "ytjeocmglcgnclaadoor", sum := "62481b88235823bec186a4de13d363f1cb21976d333d8a600cea73954e0765b3", func := "wayleave/wlvlaw9.PackPlays", spec := "packPlays", inPlace := ["internal/bytealg.CountString", "internal/bytealg.IndexByteString", "internal/bytealg.IndexString"], named := ["unicode/utf8.first", "unicode/utf8.acceptRanges", "internal/bytealg.MaxLen"], apart := false, laid := [("unicode/utf8.acceptRanges", laid_unicode_utf8_acceptRanges), ("unicode/utf8.first", laid_unicode_utf8_first)] }
def PackPlaysSaid : Prop := packPlaysRow.holds Tryd.pinned (OpenSpec.ofChange packPlaysSpec)

/-- ITS FALSE NEIGHBOUR: 'it returns false'. Refute it at one input. -/
def packPlaysWrong : ChangeSpec := { name := "packPlays", fn := fun _ => fun
  | [d] => { results := [.lit (.bool false)], args := [d] }
  | _ => none }
def PackPlaysWrongFalsely : Prop := packPlaysRow.holds Tryd.pinned (OpenSpec.ofChange packPlaysWrong)

/-- 'wlvlaw9.PackBack': WHATEVER THE INPUT: true; the input reads as it did. -/
def packBackSpec : ChangeSpec := { name := "packBack", fn := fun _ => fun
  | [d] => { results := [.lit (.bool true)], args := [d] }
  | _ => none }
def packBackRow : OpenClaim := { program := "ytjeocmglcgnclaadoor", sum := "62481b88235823bec186a4de13d363f1cb21976d333d8a600cea73954e0765b3", func := "wayleave/wlvlaw9.PackBack", spec := "packBack", inPlace := ["internal/bytealg.CountString", "internal/bytealg.IndexByteString", "internal/bytealg.IndexString"], named := ["unicode/utf8.first", "unicode/utf8.acceptRanges", "internal/bytealg.MaxLen"], apart := false, laid := [("unicode/utf8.acceptRanges", laid_unicode_utf8_acceptRanges), ("unicode/utf8.first", laid_unicode_utf8_first)] }
def PackBackSaid : Prop := packBackRow.holds Tryd.pinned (OpenSpec.ofChange packBackSpec)

/-- ITS FALSE NEIGHBOUR: 'it returns false'. Refute it at one input. -/
def packBackWrong : ChangeSpec := { name := "packBack", fn := fun _ => fun
  | [d] => { results := [.lit (.bool false)], args := [d] }
  | _ => none }
def PackBackWrongFalsely : Prop := packBackRow.holds Tryd.pinned (OpenSpec.ofChange packBackWrong)

/-- 'wlvlaw9.PackMany': WHATEVER THE INPUT: true; the input reads as it did. -/
def packManySpec : ChangeSpec := { name := "packMany", fn := fun _ => fun
  | [d] => { results := [.lit (.bool true)], args := [d] }
  | _ => none }
def packManyRow : OpenClaim := { program := "ytjeocmglcgnclaadoor", sum := "62481b88235823bec186a4de13d363f1cb21976d333d8a600cea73954e0765b3", func := "wayleave/wlvlaw9.PackMany", spec := "packMany", inPlace := ["internal/bytealg.CountString", "internal/bytealg.IndexByteString", "internal/bytealg.IndexString"], unfollowed := true, recurses := true, named := ["unicode/utf8.first", "unicode/utf8.acceptRanges", "internal/bytealg.MaxLen"], apart := false, laid := [("unicode/utf8.acceptRanges", laid_unicode_utf8_acceptRanges), ("unicode/utf8.first", laid_unicode_utf8_first)] }
def PackManySaid : Prop := packManyRow.holds Tryd.pinned (OpenSpec.ofChange packManySpec)

/-- ITS FALSE NEIGHBOUR: 'it returns false'. Refute it at one input. -/
def packManyWrong : ChangeSpec := { name := "packMany", fn := fun _ => fun
  | [d] => { results := [.lit (.bool false)], args := [d] }
  | _ => none }
def PackManyWrongFalsely : Prop := packManyRow.holds Tryd.pinned (OpenSpec.ofChange packManyWrong)

/- THE SECOND FORM. 'bulk': how many values and letters a reading holds, each counted each time it is reached (what is shared counts as often as it is met; a slice's spare places count too). A statement '..UptoSaid' is the law's where the arguments, and the package variables that the reading takes, are together of bulk at most 1048576: NARROWER than '..Said'. Prove '..Said' where nothing that the law and all that it calls make is longer than what came in: it says more and counts as full. Else prove '..UptoSaid'. A law counts once. -/
mutual
def uptoBulk {H : Type} : DataW H → Nat
  | .lit (.string bytes) => bytes.length + 1
  | .lit _ => 1
  | .nil => 1
  | .ptr d => uptoBulk d + 1
  | .slice elems spare => uptoBulkAll elems + uptoBulkAll spare + 1
  | .agg parts => uptoBulkAll parts + 1
  | .iface _ d => uptoBulk d + 1
  | .map entries => uptoBulkEntries entries + 1
  | .held _ => 1
def uptoBulkAll {H : Type} : List (DataW H) → Nat
  | [] => 0
  | d :: r => uptoBulk d + uptoBulkAll r
def uptoBulkEntries {H : Type} : List (Lit × DataW H) → Nat
  | [] => 0
  | x :: r => uptoBulkEntry x + uptoBulkEntries r
def uptoBulkEntry {H : Type} : Lit × DataW H → Nat
  | (.string bytes, d) => bytes.length + uptoBulk d + 1
  | (_, d) => uptoBulk d + 1
 end
def uptoSmall : (H : Type) → List (DataW H) → Bool := fun _ ds => decide (uptoBulkAll ds ≤ 1048576)
def OpenSpec.upto (s : _root_.Go.ChangeSpec) : _root_.Go.OpenSpec := { _root_.Go.OpenSpec.ofChange s with cond := some uptoSmall }

/-- 'wlvlaw9.PackShort', WHERE WHAT IT READS IS OF BULK AT MOST 1048576: true; the input reads as it did. -/
def packShortUptoRow : OpenClaim := { program := "ytjeocmglcgnclaadoor", sum := "62481b88235823bec186a4de13d363f1cb21976d333d8a600cea73954e0765b3", func := "wayleave/wlvlaw9.PackShort", spec := "packShort", inPlace := ["internal/bytealg.CountString", "internal/bytealg.IndexByteString", "internal/bytealg.IndexString"], named := ["unicode/utf8.first", "unicode/utf8.acceptRanges", "internal/bytealg.MaxLen"], apart := false, laid := [("unicode/utf8.acceptRanges", laid_unicode_utf8_acceptRanges), ("unicode/utf8.first", laid_unicode_utf8_first)], narrowed := true }
def PackShortUptoSaid : Prop := packShortUptoRow.holds Tryd.pinned (OpenSpec.upto packShortSpec)

/-- 'wlvlaw9.PackLimits', WHERE WHAT IT READS IS OF BULK AT MOST 1048576: true; the input reads as it did. -/
def packLimitsUptoRow : OpenClaim := { program := "ytjeocmglcgnclaadoor", sum := "62481b88235823bec186a4de13d363f1cb21976d333d8a600cea73954e0765b3", func := "wayleave/wlvlaw9.PackLimits", spec := "packLimits", inPlace := ["internal/bytealg.CountString", "internal/bytealg.IndexByteString", "internal/bytealg.IndexString"], named := ["unicode/utf8.first", "unicode/utf8.acceptRanges", "internal/bytealg.MaxLen"], apart := false, laid := [("unicode/utf8.acceptRanges", laid_unicode_utf8_acceptRanges), ("unicode/utf8.first", laid_unicode_utf8_first)], narrowed := true }
def PackLimitsUptoSaid : Prop := packLimitsUptoRow.holds Tryd.pinned (OpenSpec.upto packLimitsSpec)

/-- 'wlvlaw9.PackPlays', WHERE WHAT IT READS IS OF BULK AT MOST 1048576: true; the input reads as it did. -/
def packPlaysUptoRow : OpenClaim := { program := "ytjeocmglcgnclaadoor", sum := "62481b88235823bec186a4de13d363f1cb21976d333d8a600cea73954e0765b3", func := "wayleave/wlvlaw9.PackPlays", spec := "packPlays", inPlace := ["internal/bytealg.CountString", "internal/bytealg.IndexByteString", "internal/bytealg.IndexString"], named := ["unicode/utf8.first", "unicode/utf8.acceptRanges", "internal/bytealg.MaxLen"], apart := false, laid := [("unicode/utf8.acceptRanges", laid_unicode_utf8_acceptRanges), ("unicode/utf8.first", laid_unicode_utf8_first)], narrowed := true }
def PackPlaysUptoSaid : Prop := packPlaysUptoRow.holds Tryd.pinned (OpenSpec.upto packPlaysSpec)

/-- 'wlvlaw9.PackBack', WHERE WHAT IT READS IS OF BULK AT MOST 1048576: true; the input reads as it did. -/
def packBackUptoRow : OpenClaim := { program := "ytjeocmglcgnclaadoor", sum := "62481b88235823bec186a4de13d363f1cb21976d333d8a600cea73954e0765b3", func := "wayleave/wlvlaw9.PackBack", spec := "packBack", inPlace := ["internal/bytealg.CountString", "internal/bytealg.IndexByteString", "internal/bytealg.IndexString"], named := ["unicode/utf8.first", "unicode/utf8.acceptRanges", "internal/bytealg.MaxLen"], apart := false, laid := [("unicode/utf8.acceptRanges", laid_unicode_utf8_acceptRanges), ("unicode/utf8.first", laid_unicode_utf8_first)], narrowed := true }
def PackBackUptoSaid : Prop := packBackUptoRow.holds Tryd.pinned (OpenSpec.upto packBackSpec)

/-- 'wlvlaw9.PackMany', WHERE WHAT IT READS IS OF BULK AT MOST 1048576: true; the input reads as it did. -/
def packManyUptoRow : OpenClaim := { program := "ytjeocmglcgnclaadoor", sum := "62481b88235823bec186a4de13d363f1cb21976d333d8a600cea73954e0765b3", func := "wayleave/wlvlaw9.PackMany", spec := "packMany", inPlace := ["internal/bytealg.CountString", "internal/bytealg.IndexByteString", "internal/bytealg.IndexString"], unfollowed := true, recurses := true, named := ["unicode/utf8.first", "unicode/utf8.acceptRanges", "internal/bytealg.MaxLen"], apart := false, laid := [("unicode/utf8.acceptRanges", laid_unicode_utf8_acceptRanges), ("unicode/utf8.first", laid_unicode_utf8_first)], narrowed := true }
def PackManyUptoSaid : Prop := packManyUptoRow.holds Tryd.pinned (OpenSpec.upto packManySpec)

end Rows
end Go.Proofs.YtjeocmglcgnclaaDoor
