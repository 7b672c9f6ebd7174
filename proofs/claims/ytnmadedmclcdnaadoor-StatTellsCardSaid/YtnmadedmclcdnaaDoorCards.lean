/-
  DERIVED. GIVEN WITH THE SEED: THE CARDS: each row of YtnmadedmclcdnaaDoorRows.lean that lists a variable, with what it lists TIED to the program's text (the seventh form; the later family's looks); each row that meets fmt, with fmt's text TOLD by the authors' own Lean function (tested against real Go, not proved from fmt's source: count such statements apart). THE CARD IS WHAT COUNTS. Prove the row's statement (the work); the ties are given (YtnmadedmclcdnaaDoorTie.lean); close each card by the builder's one call (the guide's Derived/Test/ToyasCard.lean, 'card_holds'). Laid BY PROGRAM, IN A SANDBOX (cutbox-door.mjs). By AI agents, Wed Nov 11 2026. No macro, syntax, notation, axiom, sorry.
-/
import Derived.Test.YtnmadedmclcdnaaDoorRows
import GoSem.ClaimSeven
namespace Go.Proofs.YtnmadedmclcdnaaDoor
namespace Rows

/-- THE TIED CARD OF 'wlvlaw6.StatFinds'. -/
def statFindsCard : Claim7 := { stood := { row := statFindsRow, standIns := [], harness := (true, "243799da70ba4bddfe5ee508fde938adb219252b16b6c55ab059105fb2e2c1c5"), looks := false }, kinds := [], alts := [], laidByText := true, laidKinds := [.data, .pinned], laidTests := true, laidLooks := .later }
def StatFindsCardSaid : Prop := Claim7.holds Tryd.pinned (.plain (OpenSpec.ofChange statFindsSpec)) statFindsCard

/-- THE TIED CARD OF 'wlvlaw6.StatTable'. -/
def statTableCard : Claim7 := { stood := { row := statTableRow, standIns := [], harness := (true, "243799da70ba4bddfe5ee508fde938adb219252b16b6c55ab059105fb2e2c1c5"), looks := false }, kinds := [], alts := [], laidByText := true, laidKinds := [.data, .pinned], laidTests := true, laidLooks := .later }
def StatTableCardSaid : Prop := Claim7.holds Tryd.pinned (.plain (OpenSpec.ofChange statTableSpec)) statTableCard

/-- THE TIED CARD OF 'wlvlaw6.StatSizes'. -/
def statSizesCard : Claim7 := { stood := { row := statSizesRow, standIns := [], harness := (true, "243799da70ba4bddfe5ee508fde938adb219252b16b6c55ab059105fb2e2c1c5"), looks := false }, kinds := [], alts := [], laidByText := true, laidKinds := [.data, .pinned], laidTests := true, laidLooks := .later }
def StatSizesCardSaid : Prop := Claim7.holds Tryd.pinned (.plain (OpenSpec.ofChange statSizesSpec)) statSizesCard

/-- THE TIED CARD OF 'wlvlaw6.StatTells'. -/
def statTellsCard : Claim7 := { stood := { row := statTellsRow, standIns := [], harness := (true, "243799da70ba4bddfe5ee508fde938adb219252b16b6c55ab059105fb2e2c1c5"), looks := false }, kinds := [], alts := [], laidByText := true, laidKinds := [.data, .pinned], laidTests := true, laidLooks := .later }
def StatTellsCardSaid : Prop := Claim7.holds Tryd.pinned (.plain (OpenSpec.ofChange statTellsSpec)) statTellsCard

/-- THE SECOND FORM's CARD OF 'wlvlaw6.StatFinds'. -/
def statFindsUptoCard : Claim7 := { stood := { row := statFindsUptoRow, standIns := [], harness := (true, "243799da70ba4bddfe5ee508fde938adb219252b16b6c55ab059105fb2e2c1c5"), looks := false }, kinds := [], alts := [], laidByText := true, laidKinds := [.data, .pinned], laidTests := true, laidLooks := .later }
def StatFindsUptoCardSaid : Prop := Claim7.holds Tryd.pinned (.plain (OpenSpec.upto statFindsSpec)) statFindsUptoCard

/-- THE SECOND FORM's CARD OF 'wlvlaw6.StatTable'. -/
def statTableUptoCard : Claim7 := { stood := { row := statTableUptoRow, standIns := [], harness := (true, "243799da70ba4bddfe5ee508fde938adb219252b16b6c55ab059105fb2e2c1c5"), looks := false }, kinds := [], alts := [], laidByText := true, laidKinds := [.data, .pinned], laidTests := true, laidLooks := .later }
def StatTableUptoCardSaid : Prop := Claim7.holds Tryd.pinned (.plain (OpenSpec.upto statTableSpec)) statTableUptoCard

/-- THE SECOND FORM's CARD OF 'wlvlaw6.StatSizes'. -/
def statSizesUptoCard : Claim7 := { stood := { row := statSizesUptoRow, standIns := [], harness := (true, "243799da70ba4bddfe5ee508fde938adb219252b16b6c55ab059105fb2e2c1c5"), looks := false }, kinds := [], alts := [], laidByText := true, laidKinds := [.data, .pinned], laidTests := true, laidLooks := .later }
def StatSizesUptoCardSaid : Prop := Claim7.holds Tryd.pinned (.plain (OpenSpec.upto statSizesSpec)) statSizesUptoCard

/-- THE SECOND FORM's CARD OF 'wlvlaw6.StatTells'. -/
def statTellsUptoCard : Claim7 := { stood := { row := statTellsUptoRow, standIns := [], harness := (true, "243799da70ba4bddfe5ee508fde938adb219252b16b6c55ab059105fb2e2c1c5"), looks := false }, kinds := [], alts := [], laidByText := true, laidKinds := [.data, .pinned], laidTests := true, laidLooks := .later }
def StatTellsUptoCardSaid : Prop := Claim7.holds Tryd.pinned (.plain (OpenSpec.upto statTellsSpec)) statTellsUptoCard
end Rows
end Go.Proofs.YtnmadedmclcdnaaDoor
