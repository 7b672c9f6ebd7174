/-
  No cell of these rows narrows 'for every input' (looked for: loops, veiled, ifaces, maps, wideKeys, modest, calm, conditions, laid).
  DERIVED. THE GIVEN ROWS OF THIS SEAT. 4 by the template 'for every input the law returns true; each argument reads behind the call as it read before'; 0 by the template 'total and deterministic' (their statements: YtefhadfcipifmaaTotals.lean).
  GIVEN WITH THE SEED: the statements are not yours to turn. If you find one false, say at which input.
  Laid BY PROGRAM, IN A SANDBOX (cutbox-rows.mjs): the forced cells as the released guide's own fill.sh prints them over the translation b605b76d5d429c68… (all of the seat's roots in one cut). By AI agents, Wed Nov 11 2026. No macro, syntax, notation, axiom, sorry.
-/
import Derived.Test.YtefhadfcipifmaaChecked
import GoSem.Claim
import GoSem.ClaimJoined
import GoSem.ClaimMapViews
import Derived.JoinedTies
import Derived.KernelRfl
namespace Go.Proofs.Ytefhadfcipifmaa
/- THE CELL 'sum', in the pinned program and in every row, IS THE sha256 OF THE DUMP (.gsa) THAT YtefhadfcipifmaaProg.lean LOADS. Nothing in Lean hashes anything: it is a label: what it is worth is what the hold of that sum in a sandbox is worth. -/
noncomputable def Try.pinned : Pinned := { name := "ytefhadfcipifmaa", sum := "b605b76d5d429c683a4b54a243f9fd860cab393b5a3500a623d5f96d2fb343bb", checked := Try.checked }
namespace Rows
def none {H : Type} : Left H := { results := [], args := [] }

/-- 'wlvlaw25.TunnelPieces': WHATEVER THE INPUT: true; the input reads as it did. -/
def tunnelPiecesSpec : ChangeSpec := { name := "tunnelPieces", fn := fun _ => fun
  | [d1, d2, d3] => { results := [.lit (.bool true)], args := [d1, d2, d3] }
  | _ => none }
def tunnelPiecesRow : OpenClaim := { program := "ytefhadfcipifmaa", sum := "b605b76d5d429c683a4b54a243f9fd860cab393b5a3500a623d5f96d2fb343bb", func := "wayleave/wlvlaw25.TunnelPieces", spec := "tunnelPieces", apart := false }
def TunnelPiecesSaid : Prop := tunnelPiecesRow.holds Try.pinned (OpenSpec.ofChange tunnelPiecesSpec)

/-- ITS FALSE NEIGHBOUR: 'it returns false'. Refute it at one input. -/
def tunnelPiecesWrong : ChangeSpec := { name := "tunnelPieces", fn := fun _ => fun
  | [d1, d2, d3] => { results := [.lit (.bool false)], args := [d1, d2, d3] }
  | _ => none }
def TunnelPiecesWrongFalsely : Prop := tunnelPiecesRow.holds Try.pinned (OpenSpec.ofChange tunnelPiecesWrong)

/-- 'wlvlaw25.TunnelTimes': WHATEVER THE INPUT: true; the input reads as it did. -/
def tunnelTimesSpec : ChangeSpec := { name := "tunnelTimes", fn := fun _ => fun
  | [d1, d2, d3, d4] => { results := [.lit (.bool true)], args := [d1, d2, d3, d4] }
  | _ => none }
def tunnelTimesRow : OpenClaim := { program := "ytefhadfcipifmaa", sum := "b605b76d5d429c683a4b54a243f9fd860cab393b5a3500a623d5f96d2fb343bb", func := "wayleave/wlvlaw25.TunnelTimes", spec := "tunnelTimes", apart := false }
def TunnelTimesSaid : Prop := tunnelTimesRow.holds Try.pinned (OpenSpec.ofChange tunnelTimesSpec)

/-- ITS FALSE NEIGHBOUR: 'it returns false'. Refute it at one input. -/
def tunnelTimesWrong : ChangeSpec := { name := "tunnelTimes", fn := fun _ => fun
  | [d1, d2, d3, d4] => { results := [.lit (.bool false)], args := [d1, d2, d3, d4] }
  | _ => none }
def TunnelTimesWrongFalsely : Prop := tunnelTimesRow.holds Try.pinned (OpenSpec.ofChange tunnelTimesWrong)

/-- 'wlvlaw25.TunnelEnds': WHATEVER THE INPUT: true; the input reads as it did. -/
def tunnelEndsSpec : ChangeSpec := { name := "tunnelEnds", fn := fun _ => fun
  | [d1, d2, d3] => { results := [.lit (.bool true)], args := [d1, d2, d3] }
  | _ => none }
def tunnelEndsRow : OpenClaim := { program := "ytefhadfcipifmaa", sum := "b605b76d5d429c683a4b54a243f9fd860cab393b5a3500a623d5f96d2fb343bb", func := "wayleave/wlvlaw25.TunnelEnds", spec := "tunnelEnds", apart := false }
def TunnelEndsSaid : Prop := tunnelEndsRow.holds Try.pinned (OpenSpec.ofChange tunnelEndsSpec)

/-- ITS FALSE NEIGHBOUR: 'it returns false'. Refute it at one input. -/
def tunnelEndsWrong : ChangeSpec := { name := "tunnelEnds", fn := fun _ => fun
  | [d1, d2, d3] => { results := [.lit (.bool false)], args := [d1, d2, d3] }
  | _ => none }
def TunnelEndsWrongFalsely : Prop := tunnelEndsRow.holds Try.pinned (OpenSpec.ofChange tunnelEndsWrong)

/-- 'wlvlaw25.TunnelOrder': WHATEVER THE INPUT: true; the input reads as it did. -/
def tunnelOrderSpec : ChangeSpec := { name := "tunnelOrder", fn := fun _ => fun
  | [d1, d2] => { results := [.lit (.bool true)], args := [d1, d2] }
  | _ => none }
def tunnelOrderRow : OpenClaim := { program := "ytefhadfcipifmaa", sum := "b605b76d5d429c683a4b54a243f9fd860cab393b5a3500a623d5f96d2fb343bb", func := "wayleave/wlvlaw25.TunnelOrder", spec := "tunnelOrder", apart := false }
def TunnelOrderSaid : Prop := tunnelOrderRow.holds Try.pinned (OpenSpec.ofChange tunnelOrderSpec)

/-- ITS FALSE NEIGHBOUR: 'it returns false'. Refute it at one input. -/
def tunnelOrderWrong : ChangeSpec := { name := "tunnelOrder", fn := fun _ => fun
  | [d1, d2] => { results := [.lit (.bool false)], args := [d1, d2] }
  | _ => none }
def TunnelOrderWrongFalsely : Prop := tunnelOrderRow.holds Try.pinned (OpenSpec.ofChange tunnelOrderWrong)

/- THE SECOND FORM. 'bulk': how many values and letters a reading holds, each counted each time it is reached (what is shared counts as often as it is met; a slice's spare places count too). A statement '..UptoSaid' is the law's where the arguments, and the package variables that the reading takes, are together of bulk at most 1048576: NARROWER than '..Said'. Prove '..Said' where nothing that the law and all that it calls make is longer than what came in: it says more and counts as full. Else prove '..UptoSaid'. A law counts once. -/
mutual
def uptoBulk {H : Type} : DataW H → Nat
  | .lit (.string bytes) => bytes.length + 1
  | .lit _ => 1
  | .nil => 1
  | .ptr d => uptoBulk d + 1
  | .slice elems spare => uptoBulkAll elems + uptoBulkAll spare + 1
  | .agg parts => uptoBulkAll parts + 1
  | .iface _ d => uptoBulk d + 1
  | .map entries => uptoBulkEntries entries + 1
  | .held _ => 1
def uptoBulkAll {H : Type} : List (DataW H) → Nat
  | [] => 0
  | d :: r => uptoBulk d + uptoBulkAll r
def uptoBulkEntries {H : Type} : List (Lit × DataW H) → Nat
  | [] => 0
  | x :: r => uptoBulkEntry x + uptoBulkEntries r
def uptoBulkEntry {H : Type} : Lit × DataW H → Nat
  | (.string bytes, d) => bytes.length + uptoBulk d + 1
  | (_, d) => uptoBulk d + 1
 end
def uptoSmall : (H : Type) → List (DataW H) → Bool := fun _ ds => decide (uptoBulkAll ds ≤ 1048576)
def OpenSpec.upto (s : _root_.Go.ChangeSpec) : _root_.Go.OpenSpec := { _root_.Go.OpenSpec.ofChange s with cond := some uptoSmall }

/-- 'wlvlaw25.TunnelPieces', WHERE WHAT IT READS IS OF BULK AT MOST 1048576: true; the input reads as it did. -/
def tunnelPiecesUptoRow : OpenClaim := { program := "ytefhadfcipifmaa", sum := "b605b76d5d429c683a4b54a243f9fd860cab393b5a3500a623d5f96d2fb343bb", func := "wayleave/wlvlaw25.TunnelPieces", spec := "tunnelPieces", apart := false, narrowed := true }
def TunnelPiecesUptoSaid : Prop := tunnelPiecesUptoRow.holds Try.pinned (OpenSpec.upto tunnelPiecesSpec)

/-- 'wlvlaw25.TunnelTimes', WHERE WHAT IT READS IS OF BULK AT MOST 1048576: true; the input reads as it did. -/
def tunnelTimesUptoRow : OpenClaim := { program := "ytefhadfcipifmaa", sum := "b605b76d5d429c683a4b54a243f9fd860cab393b5a3500a623d5f96d2fb343bb", func := "wayleave/wlvlaw25.TunnelTimes", spec := "tunnelTimes", apart := false, narrowed := true }
def TunnelTimesUptoSaid : Prop := tunnelTimesUptoRow.holds Try.pinned (OpenSpec.upto tunnelTimesSpec)

/-- 'wlvlaw25.TunnelEnds', WHERE WHAT IT READS IS OF BULK AT MOST 1048576: true; the input reads as it did. -/
def tunnelEndsUptoRow : OpenClaim := { program := "ytefhadfcipifmaa", sum := "b605b76d5d429c683a4b54a243f9fd860cab393b5a3500a623d5f96d2fb343bb", func := "wayleave/wlvlaw25.TunnelEnds", spec := "tunnelEnds", apart := false, narrowed := true }
def TunnelEndsUptoSaid : Prop := tunnelEndsUptoRow.holds Try.pinned (OpenSpec.upto tunnelEndsSpec)

/-- 'wlvlaw25.TunnelOrder', WHERE WHAT IT READS IS OF BULK AT MOST 1048576: true; the input reads as it did. -/
def tunnelOrderUptoRow : OpenClaim := { program := "ytefhadfcipifmaa", sum := "b605b76d5d429c683a4b54a243f9fd860cab393b5a3500a623d5f96d2fb343bb", func := "wayleave/wlvlaw25.TunnelOrder", spec := "tunnelOrder", apart := false, narrowed := true }
def TunnelOrderUptoSaid : Prop := tunnelOrderUptoRow.holds Try.pinned (OpenSpec.upto tunnelOrderSpec)

end Rows
end Go.Proofs.Ytefhadfcipifmaa
