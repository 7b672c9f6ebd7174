/-
  No cell of these rows narrows 'for every input' (looked for: loops, veiled, ifaces, maps, wideKeys, modest, calm, conditions, laid).
  DERIVED. THE GIVEN ROWS OF THIS SEAT. 5 by the template 'for every input the law returns true; each argument reads behind the call as it read before'; 0 by the template 'total and deterministic' (their statements: YtimklfdofldhaaaTotals.lean).
  GIVEN WITH THE SEED: the statements are not yours to turn. If you find one false, say at which input.
  Laid BY PROGRAM, IN A SANDBOX (cutbox-rows.mjs): the forced cells as the released guide's own fill.sh prints them over the translation 5aecfe0fd9db0bd1… (all of the seat's roots in one cut). By AI agents, Wed Nov 11 2026. No macro, syntax, notation, axiom, sorry.
-/
import Derived.Test.YtimklfdofldhaaaChecked
import GoSem.Claim
import GoSem.ClaimJoined
import GoSem.ClaimMapViews
import Derived.JoinedTies
import Derived.KernelRfl
namespace Go.Proofs.Ytimklfdofldhaaa
/- THE CELL 'sum', in the pinned program and in every row, IS THE sha256 OF THE DUMP (.gsa) THAT YtimklfdofldhaaaProg.lean LOADS. Nothing in Lean hashes anything: it is a label: what it is worth is what the hold of that sum in a sandbox is worth. -/
noncomputable def Try.pinned : Pinned := { name := "ytimklfdofldhaaa", sum := "5aecfe0fd9db0bd1c5f726421d204e9d9d83632c1b2c0e3c88259f34fda418a7", checked := Try.checked }
namespace Rows
def none {H : Type} : Left H := { results := [], args := [] }

/-- 'wlvlaw4.HuffJoins': WHATEVER THE INPUT: true; the input reads as it did. -/
def huffJoinsSpec : ChangeSpec := { name := "huffJoins", fn := fun _ => fun
  | [d1, d2, d3] => { results := [.lit (.bool true)], args := [d1, d2, d3] }
  | _ => none }
def huffJoinsRow : OpenClaim := { program := "ytimklfdofldhaaa", sum := "5aecfe0fd9db0bd1c5f726421d204e9d9d83632c1b2c0e3c88259f34fda418a7", func := "wayleave/wlvlaw4.HuffJoins", spec := "huffJoins", apart := false }
def HuffJoinsSaid : Prop := huffJoinsRow.holds Try.pinned (OpenSpec.ofChange huffJoinsSpec)

/-- ITS FALSE NEIGHBOUR: 'it returns false'. Refute it at one input. -/
def huffJoinsWrong : ChangeSpec := { name := "huffJoins", fn := fun _ => fun
  | [d1, d2, d3] => { results := [.lit (.bool false)], args := [d1, d2, d3] }
  | _ => none }
def HuffJoinsWrongFalsely : Prop := huffJoinsRow.holds Try.pinned (OpenSpec.ofChange huffJoinsWrong)

/-- 'wlvlaw4.HuffEnds': WHATEVER THE INPUT: true; the input reads as it did. -/
def huffEndsSpec : ChangeSpec := { name := "huffEnds", fn := fun _ => fun
  | [d] => { results := [.lit (.bool true)], args := [d] }
  | _ => none }
def huffEndsRow : OpenClaim := { program := "ytimklfdofldhaaa", sum := "5aecfe0fd9db0bd1c5f726421d204e9d9d83632c1b2c0e3c88259f34fda418a7", func := "wayleave/wlvlaw4.HuffEnds", spec := "huffEnds", apart := false }
def HuffEndsSaid : Prop := huffEndsRow.holds Try.pinned (OpenSpec.ofChange huffEndsSpec)

/-- ITS FALSE NEIGHBOUR: 'it returns false'. Refute it at one input. -/
def huffEndsWrong : ChangeSpec := { name := "huffEnds", fn := fun _ => fun
  | [d] => { results := [.lit (.bool false)], args := [d] }
  | _ => none }
def HuffEndsWrongFalsely : Prop := huffEndsRow.holds Try.pinned (OpenSpec.ofChange huffEndsWrong)

/-- 'wlvlaw4.HuffTells': WHATEVER THE INPUT: true; the input reads as it did. -/
def huffTellsSpec : ChangeSpec := { name := "huffTells", fn := fun _ => fun
  | [d1, d2] => { results := [.lit (.bool true)], args := [d1, d2] }
  | _ => none }
def huffTellsRow : OpenClaim := { program := "ytimklfdofldhaaa", sum := "5aecfe0fd9db0bd1c5f726421d204e9d9d83632c1b2c0e3c88259f34fda418a7", func := "wayleave/wlvlaw4.HuffTells", spec := "huffTells", apart := false }
def HuffTellsSaid : Prop := huffTellsRow.holds Try.pinned (OpenSpec.ofChange huffTellsSpec)

/-- ITS FALSE NEIGHBOUR: 'it returns false'. Refute it at one input. -/
def huffTellsWrong : ChangeSpec := { name := "huffTells", fn := fun _ => fun
  | [d1, d2] => { results := [.lit (.bool false)], args := [d1, d2] }
  | _ => none }
def HuffTellsWrongFalsely : Prop := huffTellsRow.holds Try.pinned (OpenSpec.ofChange huffTellsWrong)

/-- 'wlvlaw4.HuffBack': WHATEVER THE INPUT: true; the input reads as it did. -/
def huffBackSpec : ChangeSpec := { name := "huffBack", fn := fun _ => fun
  | [d1, d2, d3] => { results := [.lit (.bool true)], args := [d1, d2, d3] }
  | _ => none }
def huffBackRow : OpenClaim := { program := "ytimklfdofldhaaa", sum := "5aecfe0fd9db0bd1c5f726421d204e9d9d83632c1b2c0e3c88259f34fda418a7", func := "wayleave/wlvlaw4.HuffBack", spec := "huffBack", apart := false }
def HuffBackSaid : Prop := huffBackRow.holds Try.pinned (OpenSpec.ofChange huffBackSpec)

/-- ITS FALSE NEIGHBOUR: 'it returns false'. Refute it at one input. -/
def huffBackWrong : ChangeSpec := { name := "huffBack", fn := fun _ => fun
  | [d1, d2, d3] => { results := [.lit (.bool false)], args := [d1, d2, d3] }
  | _ => none }
def HuffBackWrongFalsely : Prop := huffBackRow.holds Try.pinned (OpenSpec.ofChange huffBackWrong)

/-- 'wlvlaw4.HuffLong': WHATEVER THE INPUT: true; the input reads as it did. -/
def huffLongSpec : ChangeSpec := { name := "huffLong", fn := fun _ => fun
  | [d1, d2] => { results := [.lit (.bool true)], args := [d1, d2] }
  | _ => none }
def huffLongRow : OpenClaim := { program := "ytimklfdofldhaaa", sum := "5aecfe0fd9db0bd1c5f726421d204e9d9d83632c1b2c0e3c88259f34fda418a7", func := "wayleave/wlvlaw4.HuffLong", spec := "huffLong", apart := false }
def HuffLongSaid : Prop := huffLongRow.holds Try.pinned (OpenSpec.ofChange huffLongSpec)

/-- ITS FALSE NEIGHBOUR: 'it returns false'. Refute it at one input. -/
def huffLongWrong : ChangeSpec := { name := "huffLong", fn := fun _ => fun
  | [d1, d2] => { results := [.lit (.bool false)], args := [d1, d2] }
  | _ => none }
def HuffLongWrongFalsely : Prop := huffLongRow.holds Try.pinned (OpenSpec.ofChange huffLongWrong)

/- THE SECOND FORM. 'bulk': how many values and letters a reading holds, each counted each time it is reached (what is shared counts as often as it is met; a slice's spare places count too). A statement '..UptoSaid' is the law's where the arguments, and the package variables that the reading takes, are together of bulk at most 1048576: NARROWER than '..Said'. Prove '..Said' where nothing that the law and all that it calls make is longer than what came in: it says more and counts as full. Else prove '..UptoSaid'. A law counts once. -/
mutual
def uptoBulk {H : Type} : DataW H → Nat
  | .lit (.string bytes) => bytes.length + 1
  | .lit _ => 1
  | .nil => 1
  | .ptr d => uptoBulk d + 1
  | .slice elems spare => uptoBulkAll elems + uptoBulkAll spare + 1
  | .agg parts => uptoBulkAll parts + 1
  | .iface _ d => uptoBulk d + 1
  | .map entries => uptoBulkEntries entries + 1
  | .held _ => 1
def uptoBulkAll {H : Type} : List (DataW H) → Nat
  | [] => 0
  | d :: r => uptoBulk d + uptoBulkAll r
def uptoBulkEntries {H : Type} : List (Lit × DataW H) → Nat
  | [] => 0
  | x :: r => uptoBulkEntry x + uptoBulkEntries r
def uptoBulkEntry {H : Type} : Lit × DataW H → Nat
  | (.string bytes, d) => bytes.length + uptoBulk d + 1
  | (_, d) => uptoBulk d + 1
 end
def uptoSmall : (H : Type) → List (DataW H) → Bool := fun _ ds => decide (uptoBulkAll ds ≤ 1048576)
def OpenSpec.upto (s : _root_.Go.ChangeSpec) : _root_.Go.OpenSpec := { _root_.Go.OpenSpec.ofChange s with cond := some uptoSmall }

/-- 'wlvlaw4.HuffJoins', WHERE WHAT IT READS IS OF BULK AT MOST 1048576: true; the input reads as it did. -/
def huffJoinsUptoRow : OpenClaim := { program := "ytimklfdofldhaaa", sum := "5aecfe0fd9db0bd1c5f726421d204e9d9d83632c1b2c0e3c88259f34fda418a7", func := "wayleave/wlvlaw4.HuffJoins", spec := "huffJoins", apart := false, narrowed := true }
def HuffJoinsUptoSaid : Prop := huffJoinsUptoRow.holds Try.pinned (OpenSpec.upto huffJoinsSpec)

/-- 'wlvlaw4.HuffEnds', WHERE WHAT IT READS IS OF BULK AT MOST 1048576: true; the input reads as it did. -/
def huffEndsUptoRow : OpenClaim := { program := "ytimklfdofldhaaa", sum := "5aecfe0fd9db0bd1c5f726421d204e9d9d83632c1b2c0e3c88259f34fda418a7", func := "wayleave/wlvlaw4.HuffEnds", spec := "huffEnds", apart := false, narrowed := true }
def HuffEndsUptoSaid : Prop := huffEndsUptoRow.holds Try.pinned (OpenSpec.upto huffEndsSpec)

/-- 'wlvlaw4.HuffTells', WHERE WHAT IT READS IS OF BULK AT MOST 1048576: true; the input reads as it did. -/
def huffTellsUptoRow : OpenClaim := { program := "ytimklfdofldhaaa", sum := "5aecfe0fd9db0bd1c5f726421d204e9d9d83632c1b2c0e3c88259f34fda418a7", func := "wayleave/wlvlaw4.HuffTells", spec := "huffTells", apart := false, narrowed := true }
def HuffTellsUptoSaid : Prop := huffTellsUptoRow.holds Try.pinned (OpenSpec.upto huffTellsSpec)

/-- 'wlvlaw4.HuffBack', WHERE WHAT IT READS IS OF BULK AT MOST 1048576: true; the input reads as it did. -/
def huffBackUptoRow : OpenClaim := { program := "ytimklfdofldhaaa", sum := "5aecfe0fd9db0bd1c5f726421d204e9d9d83632c1b2c0e3c88259f34fda418a7", func := "wayleave/wlvlaw4.HuffBack", spec := "huffBack", apart := false, narrowed := true }
def HuffBackUptoSaid : Prop := huffBackUptoRow.holds Try.pinned (OpenSpec.upto huffBackSpec)

/-- 'wlvlaw4.HuffLong', WHERE WHAT IT READS IS OF BULK AT MOST 1048576: true; the input reads as it did. -/
def huffLongUptoRow : OpenClaim := { program := "ytimklfdofldhaaa", sum := "5aecfe0fd9db0bd1c5f726421d204e9d9d83632c1b2c0e3c88259f34fda418a7", func := "wayleave/wlvlaw4.HuffLong", spec := "huffLong", apart := false, narrowed := true }
def HuffLongUptoSaid : Prop := huffLongUptoRow.holds Try.pinned (OpenSpec.upto huffLongSpec)

end Rows
end Go.Proofs.Ytimklfdofldhaaa
