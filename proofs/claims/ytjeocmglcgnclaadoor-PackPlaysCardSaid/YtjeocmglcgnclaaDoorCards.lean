/-
  DERIVED. GIVEN WITH THE SEED: THE CARDS: each row of YtjeocmglcgnclaaDoorRows.lean that lists a variable, with what it lists TIED to the program's text (the seventh form; the later family's looks); each row that meets fmt, with fmt's text TOLD by the authors' own Lean function (tested against real Go, not proved from fmt's source: count such statements apart). THE CARD IS WHAT COUNTS. Prove the row's statement (the work); the ties are given (YtjeocmglcgnclaaDoorTie.lean); close each card by the builder's one call (the guide's Derived/Test/ToyasCard.lean, 'card_holds'). Laid BY PROGRAM, IN A SANDBOX (cutbox-door.mjs). By AI agents, Wed Nov 11 2026. No macro, syntax, notation, axiom, sorry.
-/
import Derived.Test.YtjeocmglcgnclaaDoorRows
import GoSem.ClaimSeven
namespace Go.Proofs.YtjeocmglcgnclaaDoor
namespace Rows

/-- THE TIED CARD OF 'wlvlaw9.PackShort'. -/
def packShortCard : Claim7 := { stood := { row := packShortRow, standIns := [], harness := (true, "db3dfb45958c4f673d78ae63a8a2302ce8d713e27abd19f35f9d1912d1648aaf"), looks := false }, kinds := [], alts := [], laidByText := true, laidKinds := [.data, .pinned], laidTests := true, laidLooks := .later }
def PackShortCardSaid : Prop := Claim7.holds Tryd.pinned (.plain (OpenSpec.ofChange packShortSpec)) packShortCard

/-- THE TIED CARD OF 'wlvlaw9.PackLimits'. -/
def packLimitsCard : Claim7 := { stood := { row := packLimitsRow, standIns := [], harness := (true, "db3dfb45958c4f673d78ae63a8a2302ce8d713e27abd19f35f9d1912d1648aaf"), looks := false }, kinds := [], alts := [], laidByText := true, laidKinds := [.data, .pinned], laidTests := true, laidLooks := .later }
def PackLimitsCardSaid : Prop := Claim7.holds Tryd.pinned (.plain (OpenSpec.ofChange packLimitsSpec)) packLimitsCard

/-- THE TIED CARD OF 'wlvlaw9.PackPlays'. -/
def packPlaysCard : Claim7 := { stood := { row := packPlaysRow, standIns := [], harness := (true, "db3dfb45958c4f673d78ae63a8a2302ce8d713e27abd19f35f9d1912d1648aaf"), looks := false }, kinds := [], alts := [], laidByText := true, laidKinds := [.data, .pinned], laidTests := true, laidLooks := .later }
def PackPlaysCardSaid : Prop := Claim7.holds Tryd.pinned (.plain (OpenSpec.ofChange packPlaysSpec)) packPlaysCard

/-- THE TIED CARD OF 'wlvlaw9.PackBack'. -/
def packBackCard : Claim7 := { stood := { row := packBackRow, standIns := [], harness := (true, "db3dfb45958c4f673d78ae63a8a2302ce8d713e27abd19f35f9d1912d1648aaf"), looks := false }, kinds := [], alts := [], laidByText := true, laidKinds := [.data, .pinned], laidTests := true, laidLooks := .later }
def PackBackCardSaid : Prop := Claim7.holds Tryd.pinned (.plain (OpenSpec.ofChange packBackSpec)) packBackCard

/-- THE TIED CARD OF 'wlvlaw9.PackMany'. -/
def packManyCard : Claim7 := { stood := { row := packManyRow, standIns := [], harness := (true, "db3dfb45958c4f673d78ae63a8a2302ce8d713e27abd19f35f9d1912d1648aaf"), looks := false }, kinds := [], alts := [], laidByText := true, laidKinds := [.data, .pinned], laidTests := true, laidLooks := .later }
def PackManyCardSaid : Prop := Claim7.holds Tryd.pinned (.plain (OpenSpec.ofChange packManySpec)) packManyCard

/-- THE SECOND FORM's CARD OF 'wlvlaw9.PackShort'. -/
def packShortUptoCard : Claim7 := { stood := { row := packShortUptoRow, standIns := [], harness := (true, "db3dfb45958c4f673d78ae63a8a2302ce8d713e27abd19f35f9d1912d1648aaf"), looks := false }, kinds := [], alts := [], laidByText := true, laidKinds := [.data, .pinned], laidTests := true, laidLooks := .later }
def PackShortUptoCardSaid : Prop := Claim7.holds Tryd.pinned (.plain (OpenSpec.upto packShortSpec)) packShortUptoCard

/-- THE SECOND FORM's CARD OF 'wlvlaw9.PackLimits'. -/
def packLimitsUptoCard : Claim7 := { stood := { row := packLimitsUptoRow, standIns := [], harness := (true, "db3dfb45958c4f673d78ae63a8a2302ce8d713e27abd19f35f9d1912d1648aaf"), looks := false }, kinds := [], alts := [], laidByText := true, laidKinds := [.data, .pinned], laidTests := true, laidLooks := .later }
def PackLimitsUptoCardSaid : Prop := Claim7.holds Tryd.pinned (.plain (OpenSpec.upto packLimitsSpec)) packLimitsUptoCard

/-- THE SECOND FORM's CARD OF 'wlvlaw9.PackPlays'. -/
def packPlaysUptoCard : Claim7 := { stood := { row := packPlaysUptoRow, standIns := [], harness := (true, "db3dfb45958c4f673d78ae63a8a2302ce8d713e27abd19f35f9d1912d1648aaf"), looks := false }, kinds := [], alts := [], laidByText := true, laidKinds := [.data, .pinned], laidTests := true, laidLooks := .later }
def PackPlaysUptoCardSaid : Prop := Claim7.holds Tryd.pinned (.plain (OpenSpec.upto packPlaysSpec)) packPlaysUptoCard

/-- THE SECOND FORM's CARD OF 'wlvlaw9.PackBack'. -/
def packBackUptoCard : Claim7 := { stood := { row := packBackUptoRow, standIns := [], harness := (true, "db3dfb45958c4f673d78ae63a8a2302ce8d713e27abd19f35f9d1912d1648aaf"), looks := false }, kinds := [], alts := [], laidByText := true, laidKinds := [.data, .pinned], laidTests := true, laidLooks := .later }
def PackBackUptoCardSaid : Prop := Claim7.holds Tryd.pinned (.plain (OpenSpec.upto packBackSpec)) packBackUptoCard

/-- THE SECOND FORM's CARD OF 'wlvlaw9.PackMany'. -/
def packManyUptoCard : Claim7 := { stood := { row := packManyUptoRow, standIns := [], harness := (true, "db3dfb45958c4f673d78ae63a8a2302ce8d713e27abd19f35f9d1912d1648aaf"), looks := false }, kinds := [], alts := [], laidByText := true, laidKinds := [.data, .pinned], laidTests := true, laidLooks := .later }
def PackManyUptoCardSaid : Prop := Claim7.holds Tryd.pinned (.plain (OpenSpec.upto packManySpec)) packManyUptoCard
end Rows
end Go.Proofs.YtjeocmglcgnclaaDoor
