/-
  DERIVED. GIVEN WITH THE SEED: THE CARDS: each row of YtdiejemhhcaicaaDoorRows.lean that lists a variable, with what it lists TIED to the program's text (the seventh form; the later family's looks); each row that meets fmt, with fmt's text TOLD by the authors' own Lean function (tested against real Go, not proved from fmt's source: count such statements apart). THE CARD IS WHAT COUNTS. Prove the row's statement (the work); the ties are given (YtdiejemhhcaicaaDoorTie.lean); close each card by the builder's one call (the guide's Derived/Test/ToyasCard.lean, 'card_holds'). Laid BY PROGRAM, IN A SANDBOX (cutbox-door.mjs). By AI agents, Wed Nov 11 2026. No macro, syntax, notation, axiom, sorry.
-/
import Derived.Test.YtdiejemhhcaicaaDoorRows
import GoSem.ClaimSeven
namespace Go.Proofs.YtdiejemhhcaicaaDoor
namespace Rows

/-- THE TIED CARD OF 'wlvlaw8.UnpackStatic'. -/
def unpackStaticCard : Claim7 := { stood := { row := unpackStaticRow, standIns := [], harness := (true, "9cee61a9c653054f0a33193c81203fc0857f2a889570a2fbea19585a3c7ccd1c"), looks := false }, kinds := [], alts := [], laidByText := true, laidKinds := [.data, .pinned], laidTests := true, laidLooks := .later }
def UnpackStaticCardSaid : Prop := Claim7.holds Tryd.pinned (.plain (OpenSpec.ofChange unpackStaticSpec)) unpackStaticCard

/-- THE TIED CARD OF 'wlvlaw8.UnpackLimits'. -/
def unpackLimitsCard : Claim7 := { stood := { row := unpackLimitsRow, standIns := [], harness := (true, "9cee61a9c653054f0a33193c81203fc0857f2a889570a2fbea19585a3c7ccd1c"), looks := false }, kinds := [], alts := [], laidByText := true, laidKinds := [.data, .pinned], laidTests := true, laidLooks := .later }
def UnpackLimitsCardSaid : Prop := Claim7.holds Tryd.pinned (.plain (OpenSpec.ofChange unpackLimitsSpec)) unpackLimitsCard

/-- THE TIED CARD OF 'wlvlaw8.UnpackPlays'. -/
def unpackPlaysCard : Claim7 := { stood := { row := unpackPlaysRow, standIns := [], harness := (true, "9cee61a9c653054f0a33193c81203fc0857f2a889570a2fbea19585a3c7ccd1c"), looks := false }, kinds := [], alts := [], laidByText := true, laidKinds := [.data, .pinned], laidTests := true, laidLooks := .later }
def UnpackPlaysCardSaid : Prop := Claim7.holds Tryd.pinned (.plain (OpenSpec.ofChange unpackPlaysSpec)) unpackPlaysCard

/-- THE TIED CARD OF 'wlvlaw8.UnpackTable'. -/
def unpackTableCard : Claim7 := { stood := { row := unpackTableRow, standIns := [], harness := (true, "9cee61a9c653054f0a33193c81203fc0857f2a889570a2fbea19585a3c7ccd1c"), looks := false }, kinds := [], alts := [], laidByText := true, laidKinds := [.data, .pinned], laidTests := true, laidLooks := .later }
def UnpackTableCardSaid : Prop := Claim7.holds Tryd.pinned (.plain (OpenSpec.ofChange unpackTableSpec)) unpackTableCard

/-- THE TIED CARD OF 'wlvlaw8.UnpackAdds'. -/
def unpackAddsCard : Claim7 := { stood := { row := unpackAddsRow, standIns := [], harness := (true, "9cee61a9c653054f0a33193c81203fc0857f2a889570a2fbea19585a3c7ccd1c"), looks := false }, kinds := [], alts := [], laidByText := true, laidKinds := [.data, .pinned], laidTests := true, laidLooks := .later }
def UnpackAddsCardSaid : Prop := Claim7.holds Tryd.pinned (.plain (OpenSpec.ofChange unpackAddsSpec)) unpackAddsCard

/-- THE SECOND FORM's CARD OF 'wlvlaw8.UnpackStatic'. -/
def unpackStaticUptoCard : Claim7 := { stood := { row := unpackStaticUptoRow, standIns := [], harness := (true, "9cee61a9c653054f0a33193c81203fc0857f2a889570a2fbea19585a3c7ccd1c"), looks := false }, kinds := [], alts := [], laidByText := true, laidKinds := [.data, .pinned], laidTests := true, laidLooks := .later }
def UnpackStaticUptoCardSaid : Prop := Claim7.holds Tryd.pinned (.plain (OpenSpec.upto unpackStaticSpec)) unpackStaticUptoCard

/-- THE SECOND FORM's CARD OF 'wlvlaw8.UnpackLimits'. -/
def unpackLimitsUptoCard : Claim7 := { stood := { row := unpackLimitsUptoRow, standIns := [], harness := (true, "9cee61a9c653054f0a33193c81203fc0857f2a889570a2fbea19585a3c7ccd1c"), looks := false }, kinds := [], alts := [], laidByText := true, laidKinds := [.data, .pinned], laidTests := true, laidLooks := .later }
def UnpackLimitsUptoCardSaid : Prop := Claim7.holds Tryd.pinned (.plain (OpenSpec.upto unpackLimitsSpec)) unpackLimitsUptoCard

/-- THE SECOND FORM's CARD OF 'wlvlaw8.UnpackPlays'. -/
def unpackPlaysUptoCard : Claim7 := { stood := { row := unpackPlaysUptoRow, standIns := [], harness := (true, "9cee61a9c653054f0a33193c81203fc0857f2a889570a2fbea19585a3c7ccd1c"), looks := false }, kinds := [], alts := [], laidByText := true, laidKinds := [.data, .pinned], laidTests := true, laidLooks := .later }
def UnpackPlaysUptoCardSaid : Prop := Claim7.holds Tryd.pinned (.plain (OpenSpec.upto unpackPlaysSpec)) unpackPlaysUptoCard

/-- THE SECOND FORM's CARD OF 'wlvlaw8.UnpackTable'. -/
def unpackTableUptoCard : Claim7 := { stood := { row := unpackTableUptoRow, standIns := [], harness := (true, "9cee61a9c653054f0a33193c81203fc0857f2a889570a2fbea19585a3c7ccd1c"), looks := false }, kinds := [], alts := [], laidByText := true, laidKinds := [.data, .pinned], laidTests := true, laidLooks := .later }
def UnpackTableUptoCardSaid : Prop := Claim7.holds Tryd.pinned (.plain (OpenSpec.upto unpackTableSpec)) unpackTableUptoCard

/-- THE SECOND FORM's CARD OF 'wlvlaw8.UnpackAdds'. -/
def unpackAddsUptoCard : Claim7 := { stood := { row := unpackAddsUptoRow, standIns := [], harness := (true, "9cee61a9c653054f0a33193c81203fc0857f2a889570a2fbea19585a3c7ccd1c"), looks := false }, kinds := [], alts := [], laidByText := true, laidKinds := [.data, .pinned], laidTests := true, laidLooks := .later }
def UnpackAddsUptoCardSaid : Prop := Claim7.holds Tryd.pinned (.plain (OpenSpec.upto unpackAddsSpec)) unpackAddsUptoCard
end Rows
end Go.Proofs.YtdiejemhhcaicaaDoor
