/-
  No cell of these rows narrows 'for every input' (looked for: loops, veiled, ifaces, maps, wideKeys, modest, calm, conditions, laid).
  DERIVED. THE GIVEN ROWS OF THIS SEAT. 4 by the template 'for every input the law returns true; each argument reads behind the call as it read before'; 0 by the template 'total and deterministic' (their statements: YtdiahjeplaegnaaTotals.lean).
  GIVEN WITH THE SEED: the statements are not yours to turn. If you find one false, say at which input.
  Laid BY PROGRAM, IN A SANDBOX (cutbox-rows.mjs): the forced cells as the released guide's own fill.sh prints them over the translation 6b1eecd89701dafd… (all of the seat's roots in one cut). By AI agents, Wed Nov 11 2026. No macro, syntax, notation, axiom, sorry.
-/
import Derived.Test.YtdiahjeplaegnaaChecked
import GoSem.Claim
import GoSem.ClaimJoined
import GoSem.ClaimMapViews
import Derived.JoinedTies
import Derived.KernelRfl
namespace Go.Proofs.Ytdiahjeplaegnaa
/- THE CELL 'sum', in the pinned program and in every row, IS THE sha256 OF THE DUMP (.gsa) THAT YtdiahjeplaegnaaProg.lean LOADS. Nothing in Lean hashes anything: it is a label: what it is worth is what the hold of that sum in a sandbox is worth. -/
noncomputable def Try.pinned : Pinned := { name := "ytdiahjeplaegnaa", sum := "6b1eecd89701dafd03687f1a8ea08e37e1a82430a741a8e89e0d2d9a80228c94", checked := Try.checked }
namespace Rows
def none {H : Type} : Left H := { results := [], args := [] }

/-- 'wlvlaw11.PartReads': WHATEVER THE INPUT: true; the input reads as it did. -/
def partReadsSpec : ChangeSpec := { name := "partReads", fn := fun _ => fun
  | [d] => { results := [.lit (.bool true)], args := [d] }
  | _ => none }
def partReadsRow : OpenClaim := { program := "ytdiahjeplaegnaa", sum := "6b1eecd89701dafd03687f1a8ea08e37e1a82430a741a8e89e0d2d9a80228c94", func := "wayleave/wlvlaw11.PartReads", spec := "partReads", apart := false }
def PartReadsSaid : Prop := partReadsRow.holds Try.pinned (OpenSpec.ofChange partReadsSpec)

/-- ITS FALSE NEIGHBOUR: 'it returns false'. Refute it at one input. -/
def partReadsWrong : ChangeSpec := { name := "partReads", fn := fun _ => fun
  | [d] => { results := [.lit (.bool false)], args := [d] }
  | _ => none }
def PartReadsWrongFalsely : Prop := partReadsRow.holds Try.pinned (OpenSpec.ofChange partReadsWrong)

/-- 'wlvlaw11.PartScopes': WHATEVER THE INPUT: true; the input reads as it did. -/
def partScopesSpec : ChangeSpec := { name := "partScopes", fn := fun _ => fun
  | [d1, d2, d3, d4] => { results := [.lit (.bool true)], args := [d1, d2, d3, d4] }
  | _ => none }
def partScopesRow : OpenClaim := { program := "ytdiahjeplaegnaa", sum := "6b1eecd89701dafd03687f1a8ea08e37e1a82430a741a8e89e0d2d9a80228c94", func := "wayleave/wlvlaw11.PartScopes", spec := "partScopes", apart := false }
def PartScopesSaid : Prop := partScopesRow.holds Try.pinned (OpenSpec.ofChange partScopesSpec)

/-- ITS FALSE NEIGHBOUR: 'it returns false'. Refute it at one input. -/
def partScopesWrong : ChangeSpec := { name := "partScopes", fn := fun _ => fun
  | [d1, d2, d3, d4] => { results := [.lit (.bool false)], args := [d1, d2, d3, d4] }
  | _ => none }
def PartScopesWrongFalsely : Prop := partScopesRow.holds Try.pinned (OpenSpec.ofChange partScopesWrong)

/-- 'wlvlaw11.PartCuts': WHATEVER THE INPUT: true; the input reads as it did. -/
def partCutsSpec : ChangeSpec := { name := "partCuts", fn := fun _ => fun
  | [d1, d2] => { results := [.lit (.bool true)], args := [d1, d2] }
  | _ => none }
def partCutsRow : OpenClaim := { program := "ytdiahjeplaegnaa", sum := "6b1eecd89701dafd03687f1a8ea08e37e1a82430a741a8e89e0d2d9a80228c94", func := "wayleave/wlvlaw11.PartCuts", spec := "partCuts", apart := false }
def PartCutsSaid : Prop := partCutsRow.holds Try.pinned (OpenSpec.ofChange partCutsSpec)

/-- ITS FALSE NEIGHBOUR: 'it returns false'. Refute it at one input. -/
def partCutsWrong : ChangeSpec := { name := "partCuts", fn := fun _ => fun
  | [d1, d2] => { results := [.lit (.bool false)], args := [d1, d2] }
  | _ => none }
def PartCutsWrongFalsely : Prop := partCutsRow.holds Try.pinned (OpenSpec.ofChange partCutsWrong)

/-- 'wlvlaw11.PartBack': WHATEVER THE INPUT: true; the input reads as it did. -/
def partBackSpec : ChangeSpec := { name := "partBack", fn := fun _ => fun
  | [d1, d2, d3, d4, d5] => { results := [.lit (.bool true)], args := [d1, d2, d3, d4, d5] }
  | _ => none }
def partBackRow : OpenClaim := { program := "ytdiahjeplaegnaa", sum := "6b1eecd89701dafd03687f1a8ea08e37e1a82430a741a8e89e0d2d9a80228c94", func := "wayleave/wlvlaw11.PartBack", spec := "partBack", apart := false }
def PartBackSaid : Prop := partBackRow.holds Try.pinned (OpenSpec.ofChange partBackSpec)

/-- ITS FALSE NEIGHBOUR: 'it returns false'. Refute it at one input. -/
def partBackWrong : ChangeSpec := { name := "partBack", fn := fun _ => fun
  | [d1, d2, d3, d4, d5] => { results := [.lit (.bool false)], args := [d1, d2, d3, d4, d5] }
  | _ => none }
def PartBackWrongFalsely : Prop := partBackRow.holds Try.pinned (OpenSpec.ofChange partBackWrong)

/- THE SECOND FORM. 'bulk': how many values and letters a reading holds, each counted each time it is reached (what is shared counts as often as it is met; a slice's spare places count too). A statement '..UptoSaid' is the law's where the arguments, and the package variables that the reading takes, are together of bulk at most 1048576: NARROWER than '..Said'. Prove '..Said' where nothing that the law and all that it calls make is longer than what came in: it says more and counts as full. Else prove '..UptoSaid'. A law counts once. -/
mutual
def uptoBulk {H : Type} : DataW H → Nat
  | .lit (.string bytes) => bytes.length + 1
  | .lit _ => 1
  | .nil => 1
  | .ptr d => uptoBulk d + 1
  | .slice elems spare => uptoBulkAll elems + uptoBulkAll spare + 1
  | .agg parts => uptoBulkAll parts + 1
  | .iface _ d => uptoBulk d + 1
  | .map entries => uptoBulkEntries entries + 1
  | .held _ => 1
def uptoBulkAll {H : Type} : List (DataW H) → Nat
  | [] => 0
  | d :: r => uptoBulk d + uptoBulkAll r
def uptoBulkEntries {H : Type} : List (Lit × DataW H) → Nat
  | [] => 0
  | x :: r => uptoBulkEntry x + uptoBulkEntries r
def uptoBulkEntry {H : Type} : Lit × DataW H → Nat
  | (.string bytes, d) => bytes.length + uptoBulk d + 1
  | (_, d) => uptoBulk d + 1
 end
def uptoSmall : (H : Type) → List (DataW H) → Bool := fun _ ds => decide (uptoBulkAll ds ≤ 1048576)
def OpenSpec.upto (s : _root_.Go.ChangeSpec) : _root_.Go.OpenSpec := { _root_.Go.OpenSpec.ofChange s with cond := some uptoSmall }

/-- 'wlvlaw11.PartReads', WHERE WHAT IT READS IS OF BULK AT MOST 1048576: true; the input reads as it did. -/
def partReadsUptoRow : OpenClaim := { program := "ytdiahjeplaegnaa", sum := "6b1eecd89701dafd03687f1a8ea08e37e1a82430a741a8e89e0d2d9a80228c94", func := "wayleave/wlvlaw11.PartReads", spec := "partReads", apart := false, narrowed := true }
def PartReadsUptoSaid : Prop := partReadsUptoRow.holds Try.pinned (OpenSpec.upto partReadsSpec)

/-- 'wlvlaw11.PartScopes', WHERE WHAT IT READS IS OF BULK AT MOST 1048576: true; the input reads as it did. -/
def partScopesUptoRow : OpenClaim := { program := "ytdiahjeplaegnaa", sum := "6b1eecd89701dafd03687f1a8ea08e37e1a82430a741a8e89e0d2d9a80228c94", func := "wayleave/wlvlaw11.PartScopes", spec := "partScopes", apart := false, narrowed := true }
def PartScopesUptoSaid : Prop := partScopesUptoRow.holds Try.pinned (OpenSpec.upto partScopesSpec)

/-- 'wlvlaw11.PartCuts', WHERE WHAT IT READS IS OF BULK AT MOST 1048576: true; the input reads as it did. -/
def partCutsUptoRow : OpenClaim := { program := "ytdiahjeplaegnaa", sum := "6b1eecd89701dafd03687f1a8ea08e37e1a82430a741a8e89e0d2d9a80228c94", func := "wayleave/wlvlaw11.PartCuts", spec := "partCuts", apart := false, narrowed := true }
def PartCutsUptoSaid : Prop := partCutsUptoRow.holds Try.pinned (OpenSpec.upto partCutsSpec)

/-- 'wlvlaw11.PartBack', WHERE WHAT IT READS IS OF BULK AT MOST 1048576: true; the input reads as it did. -/
def partBackUptoRow : OpenClaim := { program := "ytdiahjeplaegnaa", sum := "6b1eecd89701dafd03687f1a8ea08e37e1a82430a741a8e89e0d2d9a80228c94", func := "wayleave/wlvlaw11.PartBack", spec := "partBack", apart := false, narrowed := true }
def PartBackUptoSaid : Prop := partBackUptoRow.holds Try.pinned (OpenSpec.upto partBackSpec)

end Rows
end Go.Proofs.Ytdiahjeplaegnaa
