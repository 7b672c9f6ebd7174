/-
  No cell of these rows narrows 'for every input' (looked for: loops, veiled, ifaces, maps, wideKeys, modest, calm, conditions, laid).
  DERIVED. THE GIVEN ROWS OF THIS SEAT. 4 by the template 'for every input the law returns true; each argument reads behind the call as it read before'; 0 by the template 'total and deterministic' (their statements: YtlnhnnejmofpcaaTotals.lean).
  GIVEN WITH THE SEED: the statements are not yours to turn. If you find one false, say at which input.
  Laid BY PROGRAM, IN A SANDBOX (cutbox-rows.mjs): the forced cells as the released guide's own fill.sh prints them over the translation 0bddc69fa7da3f15… (all of the seat's roots in one cut). By AI agents, Wed Nov 11 2026. No macro, syntax, notation, axiom, sorry.
-/
import Derived.Test.YtlnhnnejmofpcaaChecked
import GoSem.Claim
import GoSem.ClaimJoined
import GoSem.ClaimMapViews
import Derived.JoinedTies
import Derived.KernelRfl
namespace Go.Proofs.Ytlnhnnejmofpcaa
/- THE CELL 'sum', in the pinned program and in every row, IS THE sha256 OF THE DUMP (.gsa) THAT YtlnhnnejmofpcaaProg.lean LOADS. Nothing in Lean hashes anything: it is a label: what it is worth is what the hold of that sum in a sandbox is worth. -/
noncomputable def Try.pinned : Pinned := { name := "ytlnhnnejmofpcaa", sum := "0bddc69fa7da3f1537dcbd42bdf8f58b63cc0427611ca6dbf1ee1d439951917c", checked := Try.checked }
namespace Rows
def none {H : Type} : Left H := { results := [], args := [] }

/-- 'wlvlaw7.DynOut': WHATEVER THE INPUT: true; the input reads as it did. -/
def dynOutSpec : ChangeSpec := { name := "dynOut", fn := fun _ => fun
  | [d1, d2, d3] => { results := [.lit (.bool true)], args := [d1, d2, d3] }
  | _ => none }
def dynOutRow : OpenClaim := { program := "ytlnhnnejmofpcaa", sum := "0bddc69fa7da3f1537dcbd42bdf8f58b63cc0427611ca6dbf1ee1d439951917c", func := "wayleave/wlvlaw7.DynOut", spec := "dynOut", apart := false }
def DynOutSaid : Prop := dynOutRow.holds Try.pinned (OpenSpec.ofChange dynOutSpec)

/-- ITS FALSE NEIGHBOUR: 'it returns false'. Refute it at one input. -/
def dynOutWrong : ChangeSpec := { name := "dynOut", fn := fun _ => fun
  | [d1, d2, d3] => { results := [.lit (.bool false)], args := [d1, d2, d3] }
  | _ => none }
def DynOutWrongFalsely : Prop := dynOutRow.holds Try.pinned (OpenSpec.ofChange dynOutWrong)

/-- 'wlvlaw7.DynFits': WHATEVER THE INPUT: true; the input reads as it did. -/
def dynFitsSpec : ChangeSpec := { name := "dynFits", fn := fun _ => fun
  | [d1, d2] => { results := [.lit (.bool true)], args := [d1, d2] }
  | _ => none }
def dynFitsRow : OpenClaim := { program := "ytlnhnnejmofpcaa", sum := "0bddc69fa7da3f1537dcbd42bdf8f58b63cc0427611ca6dbf1ee1d439951917c", func := "wayleave/wlvlaw7.DynFits", spec := "dynFits", apart := false }
def DynFitsSaid : Prop := dynFitsRow.holds Try.pinned (OpenSpec.ofChange dynFitsSpec)

/-- ITS FALSE NEIGHBOUR: 'it returns false'. Refute it at one input. -/
def dynFitsWrong : ChangeSpec := { name := "dynFits", fn := fun _ => fun
  | [d1, d2] => { results := [.lit (.bool false)], args := [d1, d2] }
  | _ => none }
def DynFitsWrongFalsely : Prop := dynFitsRow.holds Try.pinned (OpenSpec.ofChange dynFitsWrong)

/-- 'wlvlaw7.DynFinds': WHATEVER THE INPUT: true; the input reads as it did. -/
def dynFindsSpec : ChangeSpec := { name := "dynFinds", fn := fun _ => fun
  | [d] => { results := [.lit (.bool true)], args := [d] }
  | _ => none }
def dynFindsRow : OpenClaim := { program := "ytlnhnnejmofpcaa", sum := "0bddc69fa7da3f1537dcbd42bdf8f58b63cc0427611ca6dbf1ee1d439951917c", func := "wayleave/wlvlaw7.DynFinds", spec := "dynFinds", apart := false }
def DynFindsSaid : Prop := dynFindsRow.holds Try.pinned (OpenSpec.ofChange dynFindsSpec)

/-- ITS FALSE NEIGHBOUR: 'it returns false'. Refute it at one input. -/
def dynFindsWrong : ChangeSpec := { name := "dynFinds", fn := fun _ => fun
  | [d] => { results := [.lit (.bool false)], args := [d] }
  | _ => none }
def DynFindsWrongFalsely : Prop := dynFindsRow.holds Try.pinned (OpenSpec.ofChange dynFindsWrong)

/-- 'wlvlaw7.DynPlays': WHATEVER THE INPUT: true; the input reads as it did. -/
def dynPlaysSpec : ChangeSpec := { name := "dynPlays", fn := fun _ => fun
  | [d1, d2] => { results := [.lit (.bool true)], args := [d1, d2] }
  | _ => none }
def dynPlaysRow : OpenClaim := { program := "ytlnhnnejmofpcaa", sum := "0bddc69fa7da3f1537dcbd42bdf8f58b63cc0427611ca6dbf1ee1d439951917c", func := "wayleave/wlvlaw7.DynPlays", spec := "dynPlays", apart := false }
def DynPlaysSaid : Prop := dynPlaysRow.holds Try.pinned (OpenSpec.ofChange dynPlaysSpec)

/-- ITS FALSE NEIGHBOUR: 'it returns false'. Refute it at one input. -/
def dynPlaysWrong : ChangeSpec := { name := "dynPlays", fn := fun _ => fun
  | [d1, d2] => { results := [.lit (.bool false)], args := [d1, d2] }
  | _ => none }
def DynPlaysWrongFalsely : Prop := dynPlaysRow.holds Try.pinned (OpenSpec.ofChange dynPlaysWrong)

/- THE SECOND FORM. 'bulk': how many values and letters a reading holds, each counted each time it is reached (what is shared counts as often as it is met; a slice's spare places count too). A statement '..UptoSaid' is the law's where the arguments, and the package variables that the reading takes, are together of bulk at most 1048576: NARROWER than '..Said'. Prove '..Said' where nothing that the law and all that it calls make is longer than what came in: it says more and counts as full. Else prove '..UptoSaid'. A law counts once. -/
mutual
def uptoBulk {H : Type} : DataW H → Nat
  | .lit (.string bytes) => bytes.length + 1
  | .lit _ => 1
  | .nil => 1
  | .ptr d => uptoBulk d + 1
  | .slice elems spare => uptoBulkAll elems + uptoBulkAll spare + 1
  | .agg parts => uptoBulkAll parts + 1
  | .iface _ d => uptoBulk d + 1
  | .map entries => uptoBulkEntries entries + 1
  | .held _ => 1
def uptoBulkAll {H : Type} : List (DataW H) → Nat
  | [] => 0
  | d :: r => uptoBulk d + uptoBulkAll r
def uptoBulkEntries {H : Type} : List (Lit × DataW H) → Nat
  | [] => 0
  | x :: r => uptoBulkEntry x + uptoBulkEntries r
def uptoBulkEntry {H : Type} : Lit × DataW H → Nat
  | (.string bytes, d) => bytes.length + uptoBulk d + 1
  | (_, d) => uptoBulk d + 1
 end
def uptoSmall : (H : Type) → List (DataW H) → Bool := fun _ ds => decide (uptoBulkAll ds ≤ 1048576)
def OpenSpec.upto (s : _root_.Go.ChangeSpec) : _root_.Go.OpenSpec := { _root_.Go.OpenSpec.ofChange s with cond := some uptoSmall }

/-- 'wlvlaw7.DynOut', WHERE WHAT IT READS IS OF BULK AT MOST 1048576: true; the input reads as it did. -/
def dynOutUptoRow : OpenClaim := { program := "ytlnhnnejmofpcaa", sum := "0bddc69fa7da3f1537dcbd42bdf8f58b63cc0427611ca6dbf1ee1d439951917c", func := "wayleave/wlvlaw7.DynOut", spec := "dynOut", apart := false, narrowed := true }
def DynOutUptoSaid : Prop := dynOutUptoRow.holds Try.pinned (OpenSpec.upto dynOutSpec)

/-- 'wlvlaw7.DynFits', WHERE WHAT IT READS IS OF BULK AT MOST 1048576: true; the input reads as it did. -/
def dynFitsUptoRow : OpenClaim := { program := "ytlnhnnejmofpcaa", sum := "0bddc69fa7da3f1537dcbd42bdf8f58b63cc0427611ca6dbf1ee1d439951917c", func := "wayleave/wlvlaw7.DynFits", spec := "dynFits", apart := false, narrowed := true }
def DynFitsUptoSaid : Prop := dynFitsUptoRow.holds Try.pinned (OpenSpec.upto dynFitsSpec)

/-- 'wlvlaw7.DynFinds', WHERE WHAT IT READS IS OF BULK AT MOST 1048576: true; the input reads as it did. -/
def dynFindsUptoRow : OpenClaim := { program := "ytlnhnnejmofpcaa", sum := "0bddc69fa7da3f1537dcbd42bdf8f58b63cc0427611ca6dbf1ee1d439951917c", func := "wayleave/wlvlaw7.DynFinds", spec := "dynFinds", apart := false, narrowed := true }
def DynFindsUptoSaid : Prop := dynFindsUptoRow.holds Try.pinned (OpenSpec.upto dynFindsSpec)

/-- 'wlvlaw7.DynPlays', WHERE WHAT IT READS IS OF BULK AT MOST 1048576: true; the input reads as it did. -/
def dynPlaysUptoRow : OpenClaim := { program := "ytlnhnnejmofpcaa", sum := "0bddc69fa7da3f1537dcbd42bdf8f58b63cc0427611ca6dbf1ee1d439951917c", func := "wayleave/wlvlaw7.DynPlays", spec := "dynPlays", apart := false, narrowed := true }
def DynPlaysUptoSaid : Prop := dynPlaysUptoRow.holds Try.pinned (OpenSpec.upto dynPlaysSpec)

end Rows
end Go.Proofs.Ytlnhnnejmofpcaa
