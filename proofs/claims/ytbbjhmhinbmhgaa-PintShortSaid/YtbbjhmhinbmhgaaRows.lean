/-
  No cell of these rows narrows 'for every input' (looked for: loops, veiled, ifaces, maps, wideKeys, modest, calm, conditions, laid).
  DERIVED. THE GIVEN ROWS OF THIS SEAT. 4 by the template 'for every input the law returns true; each argument reads behind the call as it read before'; 0 by the template 'total and deterministic' (their statements: YtbbjhmhinbmhgaaTotals.lean).
  GIVEN WITH THE SEED: the statements are not yours to turn. If you find one false, say at which input.
  Laid BY PROGRAM, IN A SANDBOX (cutbox-rows.mjs): the forced cells as the released guide's own fill.sh prints them over the translation 92cfd6969fd9aeea… (all of the seat's roots in one cut). By AI agents, Wed Nov 11 2026. No macro, syntax, notation, axiom, sorry.
-/
import Derived.Test.YtbbjhmhinbmhgaaChecked
import GoSem.Claim
import GoSem.ClaimJoined
import GoSem.ClaimMapViews
import Derived.JoinedTies
import Derived.KernelRfl
namespace Go.Proofs.Ytbbjhmhinbmhgaa
/- THE CELL 'sum', in the pinned program and in every row, IS THE sha256 OF THE DUMP (.gsa) THAT YtbbjhmhinbmhgaaProg.lean LOADS. Nothing in Lean hashes anything: it is a label: what it is worth is what the hold of that sum in a sandbox is worth. -/
noncomputable def Try.pinned : Pinned := { name := "ytbbjhmhinbmhgaa", sum := "92cfd6969fd9aeeae211fd5591b1ec9b940d1d2614fe846f9533decb47488d36", checked := Try.checked }
namespace Rows
def none {H : Type} : Left H := { results := [], args := [] }

/-- 'wlvlaw5.PintTells': WHATEVER THE INPUT: true; the input reads as it did. -/
def pintTellsSpec : ChangeSpec := { name := "pintTells", fn := fun _ => fun
  | [d1, d2, d3, d4] => { results := [.lit (.bool true)], args := [d1, d2, d3, d4] }
  | _ => none }
def pintTellsRow : OpenClaim := { program := "ytbbjhmhinbmhgaa", sum := "92cfd6969fd9aeeae211fd5591b1ec9b940d1d2614fe846f9533decb47488d36", func := "wayleave/wlvlaw5.PintTells", spec := "pintTells", apart := false }
def PintTellsSaid : Prop := pintTellsRow.holds Try.pinned (OpenSpec.ofChange pintTellsSpec)

/-- ITS FALSE NEIGHBOUR: 'it returns false'. Refute it at one input. -/
def pintTellsWrong : ChangeSpec := { name := "pintTells", fn := fun _ => fun
  | [d1, d2, d3, d4] => { results := [.lit (.bool false)], args := [d1, d2, d3, d4] }
  | _ => none }
def PintTellsWrongFalsely : Prop := pintTellsRow.holds Try.pinned (OpenSpec.ofChange pintTellsWrong)

/-- 'wlvlaw5.PintBack': WHATEVER THE INPUT: true; the input reads as it did. -/
def pintBackSpec : ChangeSpec := { name := "pintBack", fn := fun _ => fun
  | [d1, d2, d3, d4, d5] => { results := [.lit (.bool true)], args := [d1, d2, d3, d4, d5] }
  | _ => none }
def pintBackRow : OpenClaim := { program := "ytbbjhmhinbmhgaa", sum := "92cfd6969fd9aeeae211fd5591b1ec9b940d1d2614fe846f9533decb47488d36", func := "wayleave/wlvlaw5.PintBack", spec := "pintBack", apart := false }
def PintBackSaid : Prop := pintBackRow.holds Try.pinned (OpenSpec.ofChange pintBackSpec)

/-- ITS FALSE NEIGHBOUR: 'it returns false'. Refute it at one input. -/
def pintBackWrong : ChangeSpec := { name := "pintBack", fn := fun _ => fun
  | [d1, d2, d3, d4, d5] => { results := [.lit (.bool false)], args := [d1, d2, d3, d4, d5] }
  | _ => none }
def PintBackWrongFalsely : Prop := pintBackRow.holds Try.pinned (OpenSpec.ofChange pintBackWrong)

/-- 'wlvlaw5.PintShort': WHATEVER THE INPUT: true; the input reads as it did. -/
def pintShortSpec : ChangeSpec := { name := "pintShort", fn := fun _ => fun
  | [d1, d2] => { results := [.lit (.bool true)], args := [d1, d2] }
  | _ => none }
def pintShortRow : OpenClaim := { program := "ytbbjhmhinbmhgaa", sum := "92cfd6969fd9aeeae211fd5591b1ec9b940d1d2614fe846f9533decb47488d36", func := "wayleave/wlvlaw5.PintShort", spec := "pintShort", apart := false }
def PintShortSaid : Prop := pintShortRow.holds Try.pinned (OpenSpec.ofChange pintShortSpec)

/-- ITS FALSE NEIGHBOUR: 'it returns false'. Refute it at one input. -/
def pintShortWrong : ChangeSpec := { name := "pintShort", fn := fun _ => fun
  | [d1, d2] => { results := [.lit (.bool false)], args := [d1, d2] }
  | _ => none }
def PintShortWrongFalsely : Prop := pintShortRow.holds Try.pinned (OpenSpec.ofChange pintShortWrong)

/-- 'wlvlaw5.PintOrder': WHATEVER THE INPUT: true; the input reads as it did. -/
def pintOrderSpec : ChangeSpec := { name := "pintOrder", fn := fun _ => fun
  | [d1, d2, d3, d4] => { results := [.lit (.bool true)], args := [d1, d2, d3, d4] }
  | _ => none }
def pintOrderRow : OpenClaim := { program := "ytbbjhmhinbmhgaa", sum := "92cfd6969fd9aeeae211fd5591b1ec9b940d1d2614fe846f9533decb47488d36", func := "wayleave/wlvlaw5.PintOrder", spec := "pintOrder", apart := false }
def PintOrderSaid : Prop := pintOrderRow.holds Try.pinned (OpenSpec.ofChange pintOrderSpec)

/-- ITS FALSE NEIGHBOUR: 'it returns false'. Refute it at one input. -/
def pintOrderWrong : ChangeSpec := { name := "pintOrder", fn := fun _ => fun
  | [d1, d2, d3, d4] => { results := [.lit (.bool false)], args := [d1, d2, d3, d4] }
  | _ => none }
def PintOrderWrongFalsely : Prop := pintOrderRow.holds Try.pinned (OpenSpec.ofChange pintOrderWrong)

/- THE SECOND FORM. 'bulk': how many values and letters a reading holds, each counted each time it is reached (what is shared counts as often as it is met; a slice's spare places count too). A statement '..UptoSaid' is the law's where the arguments, and the package variables that the reading takes, are together of bulk at most 1048576: NARROWER than '..Said'. Prove '..Said' where nothing that the law and all that it calls make is longer than what came in: it says more and counts as full. Else prove '..UptoSaid'. A law counts once. -/
mutual
def uptoBulk {H : Type} : DataW H → Nat
  | .lit (.string bytes) => bytes.length + 1
  | .lit _ => 1
  | .nil => 1
  | .ptr d => uptoBulk d + 1
  | .slice elems spare => uptoBulkAll elems + uptoBulkAll spare + 1
  | .agg parts => uptoBulkAll parts + 1
  | .iface _ d => uptoBulk d + 1
  | .map entries => uptoBulkEntries entries + 1
  | .held _ => 1
def uptoBulkAll {H : Type} : List (DataW H) → Nat
  | [] => 0
  | d :: r => uptoBulk d + uptoBulkAll r
def uptoBulkEntries {H : Type} : List (Lit × DataW H) → Nat
  | [] => 0
  | x :: r => uptoBulkEntry x + uptoBulkEntries r
def uptoBulkEntry {H : Type} : Lit × DataW H → Nat
  | (.string bytes, d) => bytes.length + uptoBulk d + 1
  | (_, d) => uptoBulk d + 1
 end
def uptoSmall : (H : Type) → List (DataW H) → Bool := fun _ ds => decide (uptoBulkAll ds ≤ 1048576)
def OpenSpec.upto (s : _root_.Go.ChangeSpec) : _root_.Go.OpenSpec := { _root_.Go.OpenSpec.ofChange s with cond := some uptoSmall }

/-- 'wlvlaw5.PintTells', WHERE WHAT IT READS IS OF BULK AT MOST 1048576: true; the input reads as it did. -/
def pintTellsUptoRow : OpenClaim := { program := "ytbbjhmhinbmhgaa", sum := "92cfd6969fd9aeeae211fd5591b1ec9b940d1d2614fe846f9533decb47488d36", func := "wayleave/wlvlaw5.PintTells", spec := "pintTells", apart := false, narrowed := true }
def PintTellsUptoSaid : Prop := pintTellsUptoRow.holds Try.pinned (OpenSpec.upto pintTellsSpec)

/-- 'wlvlaw5.PintBack', WHERE WHAT IT READS IS OF BULK AT MOST 1048576: true; the input reads as it did. -/
def pintBackUptoRow : OpenClaim := { program := "ytbbjhmhinbmhgaa", sum := "92cfd6969fd9aeeae211fd5591b1ec9b940d1d2614fe846f9533decb47488d36", func := "wayleave/wlvlaw5.PintBack", spec := "pintBack", apart := false, narrowed := true }
def PintBackUptoSaid : Prop := pintBackUptoRow.holds Try.pinned (OpenSpec.upto pintBackSpec)

/-- 'wlvlaw5.PintShort', WHERE WHAT IT READS IS OF BULK AT MOST 1048576: true; the input reads as it did. -/
def pintShortUptoRow : OpenClaim := { program := "ytbbjhmhinbmhgaa", sum := "92cfd6969fd9aeeae211fd5591b1ec9b940d1d2614fe846f9533decb47488d36", func := "wayleave/wlvlaw5.PintShort", spec := "pintShort", apart := false, narrowed := true }
def PintShortUptoSaid : Prop := pintShortUptoRow.holds Try.pinned (OpenSpec.upto pintShortSpec)

/-- 'wlvlaw5.PintOrder', WHERE WHAT IT READS IS OF BULK AT MOST 1048576: true; the input reads as it did. -/
def pintOrderUptoRow : OpenClaim := { program := "ytbbjhmhinbmhgaa", sum := "92cfd6969fd9aeeae211fd5591b1ec9b940d1d2614fe846f9533decb47488d36", func := "wayleave/wlvlaw5.PintOrder", spec := "pintOrder", apart := false, narrowed := true }
def PintOrderUptoSaid : Prop := pintOrderUptoRow.holds Try.pinned (OpenSpec.upto pintOrderSpec)

end Rows
end Go.Proofs.Ytbbjhmhinbmhgaa
