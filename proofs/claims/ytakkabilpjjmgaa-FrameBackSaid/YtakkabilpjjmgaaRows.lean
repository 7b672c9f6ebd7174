/-
  No cell of these rows narrows 'for every input' (looked for: loops, veiled, ifaces, maps, wideKeys, modest, calm, conditions, laid).
  DERIVED. THE GIVEN ROWS OF THIS SEAT. 5 by the template 'for every input the law returns true; each argument reads behind the call as it read before'; 0 by the template 'total and deterministic' (their statements: YtakkabilpjjmgaaTotals.lean).
  GIVEN WITH THE SEED: the statements are not yours to turn. If you find one false, say at which input.
  Laid BY PROGRAM, IN A SANDBOX (cutbox-rows.mjs): the forced cells as the released guide's own fill.sh prints them over the translation 3d99d12d177d9dc5… (all of the seat's roots in one cut). By AI agents, Wed Nov 11 2026. No macro, syntax, notation, axiom, sorry.
-/
import Derived.Test.YtakkabilpjjmgaaChecked
import GoSem.Claim
import GoSem.ClaimJoined
import GoSem.ClaimMapViews
import Derived.JoinedTies
import Derived.KernelRfl
namespace Go.Proofs.Ytakkabilpjjmgaa
/- THE CELL 'sum', in the pinned program and in every row, IS THE sha256 OF THE DUMP (.gsa) THAT YtakkabilpjjmgaaProg.lean LOADS. Nothing in Lean hashes anything: it is a label: what it is worth is what the hold of that sum in a sandbox is worth. -/
noncomputable def Try.pinned : Pinned := { name := "ytakkabilpjjmgaa", sum := "3d99d12d177d9dc5abf750ce55bd3fda719c34447668bf834ab0e67b497e1d08", checked := Try.checked }
namespace Rows
def none {H : Type} : Left H := { results := [], args := [] }

/-- 'wlvlaw10.FramePuts': WHATEVER THE INPUT: true; the input reads as it did. -/
def framePutsSpec : ChangeSpec := { name := "framePuts", fn := fun _ => fun
  | [d] => { results := [.lit (.bool true)], args := [d] }
  | _ => none }
def framePutsRow : OpenClaim := { program := "ytakkabilpjjmgaa", sum := "3d99d12d177d9dc5abf750ce55bd3fda719c34447668bf834ab0e67b497e1d08", func := "wayleave/wlvlaw10.FramePuts", spec := "framePuts", apart := false }
def FramePutsSaid : Prop := framePutsRow.holds Try.pinned (OpenSpec.ofChange framePutsSpec)

/-- ITS FALSE NEIGHBOUR: 'it returns false'. Refute it at one input. -/
def framePutsWrong : ChangeSpec := { name := "framePuts", fn := fun _ => fun
  | [d] => { results := [.lit (.bool false)], args := [d] }
  | _ => none }
def FramePutsWrongFalsely : Prop := framePutsRow.holds Try.pinned (OpenSpec.ofChange framePutsWrong)

/-- 'wlvlaw10.FrameEach': WHATEVER THE INPUT: true; the input reads as it did. -/
def frameEachSpec : ChangeSpec := { name := "frameEach", fn := fun _ => fun
  | [d1, d2] => { results := [.lit (.bool true)], args := [d1, d2] }
  | _ => none }
def frameEachRow : OpenClaim := { program := "ytakkabilpjjmgaa", sum := "3d99d12d177d9dc5abf750ce55bd3fda719c34447668bf834ab0e67b497e1d08", func := "wayleave/wlvlaw10.FrameEach", spec := "frameEach", apart := false }
def FrameEachSaid : Prop := frameEachRow.holds Try.pinned (OpenSpec.ofChange frameEachSpec)

/-- ITS FALSE NEIGHBOUR: 'it returns false'. Refute it at one input. -/
def frameEachWrong : ChangeSpec := { name := "frameEach", fn := fun _ => fun
  | [d1, d2] => { results := [.lit (.bool false)], args := [d1, d2] }
  | _ => none }
def FrameEachWrongFalsely : Prop := frameEachRow.holds Try.pinned (OpenSpec.ofChange frameEachWrong)

/-- 'wlvlaw10.FrameRooms': WHATEVER THE INPUT: true; the input reads as it did. -/
def frameRoomsSpec : ChangeSpec := { name := "frameRooms", fn := fun _ => fun
  | [d] => { results := [.lit (.bool true)], args := [d] }
  | _ => none }
def frameRoomsRow : OpenClaim := { program := "ytakkabilpjjmgaa", sum := "3d99d12d177d9dc5abf750ce55bd3fda719c34447668bf834ab0e67b497e1d08", func := "wayleave/wlvlaw10.FrameRooms", spec := "frameRooms", apart := false }
def FrameRoomsSaid : Prop := frameRoomsRow.holds Try.pinned (OpenSpec.ofChange frameRoomsSpec)

/-- ITS FALSE NEIGHBOUR: 'it returns false'. Refute it at one input. -/
def frameRoomsWrong : ChangeSpec := { name := "frameRooms", fn := fun _ => fun
  | [d] => { results := [.lit (.bool false)], args := [d] }
  | _ => none }
def FrameRoomsWrongFalsely : Prop := frameRoomsRow.holds Try.pinned (OpenSpec.ofChange frameRoomsWrong)

/-- 'wlvlaw10.FrameReads': WHATEVER THE INPUT: true; the input reads as it did. -/
def frameReadsSpec : ChangeSpec := { name := "frameReads", fn := fun _ => fun
  | [d1, d2] => { results := [.lit (.bool true)], args := [d1, d2] }
  | _ => none }
def frameReadsRow : OpenClaim := { program := "ytakkabilpjjmgaa", sum := "3d99d12d177d9dc5abf750ce55bd3fda719c34447668bf834ab0e67b497e1d08", func := "wayleave/wlvlaw10.FrameReads", spec := "frameReads", apart := false }
def FrameReadsSaid : Prop := frameReadsRow.holds Try.pinned (OpenSpec.ofChange frameReadsSpec)

/-- ITS FALSE NEIGHBOUR: 'it returns false'. Refute it at one input. -/
def frameReadsWrong : ChangeSpec := { name := "frameReads", fn := fun _ => fun
  | [d1, d2] => { results := [.lit (.bool false)], args := [d1, d2] }
  | _ => none }
def FrameReadsWrongFalsely : Prop := frameReadsRow.holds Try.pinned (OpenSpec.ofChange frameReadsWrong)

/-- 'wlvlaw10.FrameBack': WHATEVER THE INPUT: true; the input reads as it did. -/
def frameBackSpec : ChangeSpec := { name := "frameBack", fn := fun _ => fun
  | [d1, d2, d3] => { results := [.lit (.bool true)], args := [d1, d2, d3] }
  | _ => none }
def frameBackRow : OpenClaim := { program := "ytakkabilpjjmgaa", sum := "3d99d12d177d9dc5abf750ce55bd3fda719c34447668bf834ab0e67b497e1d08", func := "wayleave/wlvlaw10.FrameBack", spec := "frameBack", apart := false }
def FrameBackSaid : Prop := frameBackRow.holds Try.pinned (OpenSpec.ofChange frameBackSpec)

/-- ITS FALSE NEIGHBOUR: 'it returns false'. Refute it at one input. -/
def frameBackWrong : ChangeSpec := { name := "frameBack", fn := fun _ => fun
  | [d1, d2, d3] => { results := [.lit (.bool false)], args := [d1, d2, d3] }
  | _ => none }
def FrameBackWrongFalsely : Prop := frameBackRow.holds Try.pinned (OpenSpec.ofChange frameBackWrong)

/- THE SECOND FORM. 'bulk': how many values and letters a reading holds, each counted each time it is reached (what is shared counts as often as it is met; a slice's spare places count too). A statement '..UptoSaid' is the law's where the arguments, and the package variables that the reading takes, are together of bulk at most 1048576: NARROWER than '..Said'. Prove '..Said' where nothing that the law and all that it calls make is longer than what came in: it says more and counts as full. Else prove '..UptoSaid'. A law counts once. -/
mutual
def uptoBulk {H : Type} : DataW H → Nat
  | .lit (.string bytes) => bytes.length + 1
  | .lit _ => 1
  | .nil => 1
  | .ptr d => uptoBulk d + 1
  | .slice elems spare => uptoBulkAll elems + uptoBulkAll spare + 1
  | .agg parts => uptoBulkAll parts + 1
  | .iface _ d => uptoBulk d + 1
  | .map entries => uptoBulkEntries entries + 1
  | .held _ => 1
def uptoBulkAll {H : Type} : List (DataW H) → Nat
  | [] => 0
  | d :: r => uptoBulk d + uptoBulkAll r
def uptoBulkEntries {H : Type} : List (Lit × DataW H) → Nat
  | [] => 0
  | x :: r => uptoBulkEntry x + uptoBulkEntries r
def uptoBulkEntry {H : Type} : Lit × DataW H → Nat
  | (.string bytes, d) => bytes.length + uptoBulk d + 1
  | (_, d) => uptoBulk d + 1
 end
def uptoSmall : (H : Type) → List (DataW H) → Bool := fun _ ds => decide (uptoBulkAll ds ≤ 1048576)
def OpenSpec.upto (s : _root_.Go.ChangeSpec) : _root_.Go.OpenSpec := { _root_.Go.OpenSpec.ofChange s with cond := some uptoSmall }

/-- 'wlvlaw10.FramePuts', WHERE WHAT IT READS IS OF BULK AT MOST 1048576: true; the input reads as it did. -/
def framePutsUptoRow : OpenClaim := { program := "ytakkabilpjjmgaa", sum := "3d99d12d177d9dc5abf750ce55bd3fda719c34447668bf834ab0e67b497e1d08", func := "wayleave/wlvlaw10.FramePuts", spec := "framePuts", apart := false, narrowed := true }
def FramePutsUptoSaid : Prop := framePutsUptoRow.holds Try.pinned (OpenSpec.upto framePutsSpec)

/-- 'wlvlaw10.FrameEach', WHERE WHAT IT READS IS OF BULK AT MOST 1048576: true; the input reads as it did. -/
def frameEachUptoRow : OpenClaim := { program := "ytakkabilpjjmgaa", sum := "3d99d12d177d9dc5abf750ce55bd3fda719c34447668bf834ab0e67b497e1d08", func := "wayleave/wlvlaw10.FrameEach", spec := "frameEach", apart := false, narrowed := true }
def FrameEachUptoSaid : Prop := frameEachUptoRow.holds Try.pinned (OpenSpec.upto frameEachSpec)

/-- 'wlvlaw10.FrameRooms', WHERE WHAT IT READS IS OF BULK AT MOST 1048576: true; the input reads as it did. -/
def frameRoomsUptoRow : OpenClaim := { program := "ytakkabilpjjmgaa", sum := "3d99d12d177d9dc5abf750ce55bd3fda719c34447668bf834ab0e67b497e1d08", func := "wayleave/wlvlaw10.FrameRooms", spec := "frameRooms", apart := false, narrowed := true }
def FrameRoomsUptoSaid : Prop := frameRoomsUptoRow.holds Try.pinned (OpenSpec.upto frameRoomsSpec)

/-- 'wlvlaw10.FrameReads', WHERE WHAT IT READS IS OF BULK AT MOST 1048576: true; the input reads as it did. -/
def frameReadsUptoRow : OpenClaim := { program := "ytakkabilpjjmgaa", sum := "3d99d12d177d9dc5abf750ce55bd3fda719c34447668bf834ab0e67b497e1d08", func := "wayleave/wlvlaw10.FrameReads", spec := "frameReads", apart := false, narrowed := true }
def FrameReadsUptoSaid : Prop := frameReadsUptoRow.holds Try.pinned (OpenSpec.upto frameReadsSpec)

/-- 'wlvlaw10.FrameBack', WHERE WHAT IT READS IS OF BULK AT MOST 1048576: true; the input reads as it did. -/
def frameBackUptoRow : OpenClaim := { program := "ytakkabilpjjmgaa", sum := "3d99d12d177d9dc5abf750ce55bd3fda719c34447668bf834ab0e67b497e1d08", func := "wayleave/wlvlaw10.FrameBack", spec := "frameBack", apart := false, narrowed := true }
def FrameBackUptoSaid : Prop := frameBackUptoRow.holds Try.pinned (OpenSpec.upto frameBackSpec)

end Rows
end Go.Proofs.Ytakkabilpjjmgaa
