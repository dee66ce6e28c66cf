/-
  DERIVED. GIVEN WITH THE SEED: THE CARDS: each row of YtlhhddmclacjgaaDoorRows.lean that lists a variable, with what it lists TIED to the program's text (the seventh form; the later family's looks); each row that meets fmt, with fmt's text TOLD by the authors' own Lean function (tested against real Go, not proved from fmt's source: count such statements apart). THE CARD IS WHAT COUNTS. Prove the row's statement (the work); the ties are given (YtlhhddmclacjgaaDoorTie.lean); close each card by the builder's one call (the guide's Derived/Test/ToyasCard.lean, 'card_holds'). Laid BY PROGRAM, IN A SANDBOX (cutbox-door.mjs). By AI agents, Wed Nov 11 2026. No macro, syntax, notation, axiom, sorry.
-/
import Derived.Test.YtlhhddmclacjgaaDoorRows
import GoSem.ClaimSeven
namespace Go.Proofs.YtlhhddmclacjgaaDoor
namespace Rows

/-- THE TIED CARD OF 'n010_41.FnParNamesOperatorStringTable'. -/
def fnParNamesOperatorStringTableCard : Claim7 := { stood := { row := fnParNamesOperatorStringTableRow, standIns := [], harness := (true, "9d86a8b9d8c05c09966b3cfd306336265f2df391639f0b679e101850809cc0bc"), looks := false }, kinds := [], alts := [], laidByText := true, laidKinds := [.data, .data, .data, .data], laidTests := true, laidLooks := .later }
def FnParNamesOperatorStringTableCardSaid : Prop := Claim7.holds Tryd.pinned (.plain (OpenSpec.ofChange fnParNamesOperatorStringTableSpec)) fnParNamesOperatorStringTableCard

/-- THE TIED CARD OF 'n010_49.FnProcOperatorStringTable'. -/
def fnProcOperatorStringTableCard : Claim7 := { stood := { row := fnProcOperatorStringTableRow, standIns := [], harness := (true, "9d86a8b9d8c05c09966b3cfd306336265f2df391639f0b679e101850809cc0bc"), looks := false }, kinds := [], alts := [], laidByText := true, laidKinds := [.data, .data, .data, .data], laidTests := true, laidLooks := .later }
def FnProcOperatorStringTableCardSaid : Prop := Claim7.holds Tryd.pinned (.plain (OpenSpec.ofChange fnProcOperatorStringTableSpec)) fnProcOperatorStringTableCard

/-- THE TIED CARD OF 'n010_41.FnParExpOperatorStringTable'. -/
def fnParExpOperatorStringTableCard : Claim7 := { stood := { row := fnParExpOperatorStringTableRow, standIns := [], harness := (true, "9d86a8b9d8c05c09966b3cfd306336265f2df391639f0b679e101850809cc0bc"), looks := false }, kinds := [], alts := [], laidByText := true, laidKinds := [.data, .data, .data, .data], laidTests := true, laidLooks := .later }
def FnParExpOperatorStringTableCardSaid : Prop := Claim7.holds Tryd.pinned (.plain (OpenSpec.ofChange fnParExpOperatorStringTableSpec)) fnParExpOperatorStringTableCard

/-- THE TIED CARD OF 'n010_41.FnBinCmdOperatorStringTable'. -/
def fnBinCmdOperatorStringTableCard : Claim7 := { stood := { row := fnBinCmdOperatorStringTableRow, standIns := [], harness := (true, "9d86a8b9d8c05c09966b3cfd306336265f2df391639f0b679e101850809cc0bc"), looks := false }, kinds := [], alts := [], laidByText := true, laidKinds := [.data, .data, .data, .data], laidTests := true, laidLooks := .later }
def FnBinCmdOperatorStringTableCardSaid : Prop := Claim7.holds Tryd.pinned (.plain (OpenSpec.ofChange fnBinCmdOperatorStringTableSpec)) fnBinCmdOperatorStringTableCard

/-- THE TIED CARD OF 'n010_41.FnCaseOperatorStringTable'. -/
def fnCaseOperatorStringTableCard : Claim7 := { stood := { row := fnCaseOperatorStringTableRow, standIns := [], harness := (true, "9d86a8b9d8c05c09966b3cfd306336265f2df391639f0b679e101850809cc0bc"), looks := false }, kinds := [], alts := [], laidByText := true, laidKinds := [.data, .data, .data, .data], laidTests := true, laidLooks := .later }
def FnCaseOperatorStringTableCardSaid : Prop := Claim7.holds Tryd.pinned (.plain (OpenSpec.ofChange fnCaseOperatorStringTableSpec)) fnCaseOperatorStringTableCard

/-- THE SECOND FORM's CARD OF 'n010_41.FnParNamesOperatorStringTable'. -/
def fnParNamesOperatorStringTableUptoCard : Claim7 := { stood := { row := fnParNamesOperatorStringTableUptoRow, standIns := [], harness := (true, "9d86a8b9d8c05c09966b3cfd306336265f2df391639f0b679e101850809cc0bc"), looks := false }, kinds := [], alts := [], laidByText := true, laidKinds := [.data, .data, .data, .data], laidTests := true, laidLooks := .later }
def FnParNamesOperatorStringTableUptoCardSaid : Prop := Claim7.holds Tryd.pinned (.plain (OpenSpec.upto fnParNamesOperatorStringTableSpec)) fnParNamesOperatorStringTableUptoCard

/-- THE SECOND FORM's CARD OF 'n010_49.FnProcOperatorStringTable'. -/
def fnProcOperatorStringTableUptoCard : Claim7 := { stood := { row := fnProcOperatorStringTableUptoRow, standIns := [], harness := (true, "9d86a8b9d8c05c09966b3cfd306336265f2df391639f0b679e101850809cc0bc"), looks := false }, kinds := [], alts := [], laidByText := true, laidKinds := [.data, .data, .data, .data], laidTests := true, laidLooks := .later }
def FnProcOperatorStringTableUptoCardSaid : Prop := Claim7.holds Tryd.pinned (.plain (OpenSpec.upto fnProcOperatorStringTableSpec)) fnProcOperatorStringTableUptoCard

/-- THE SECOND FORM's CARD OF 'n010_41.FnParExpOperatorStringTable'. -/
def fnParExpOperatorStringTableUptoCard : Claim7 := { stood := { row := fnParExpOperatorStringTableUptoRow, standIns := [], harness := (true, "9d86a8b9d8c05c09966b3cfd306336265f2df391639f0b679e101850809cc0bc"), looks := false }, kinds := [], alts := [], laidByText := true, laidKinds := [.data, .data, .data, .data], laidTests := true, laidLooks := .later }
def FnParExpOperatorStringTableUptoCardSaid : Prop := Claim7.holds Tryd.pinned (.plain (OpenSpec.upto fnParExpOperatorStringTableSpec)) fnParExpOperatorStringTableUptoCard

/-- THE SECOND FORM's CARD OF 'n010_41.FnBinCmdOperatorStringTable'. -/
def fnBinCmdOperatorStringTableUptoCard : Claim7 := { stood := { row := fnBinCmdOperatorStringTableUptoRow, standIns := [], harness := (true, "9d86a8b9d8c05c09966b3cfd306336265f2df391639f0b679e101850809cc0bc"), looks := false }, kinds := [], alts := [], laidByText := true, laidKinds := [.data, .data, .data, .data], laidTests := true, laidLooks := .later }
def FnBinCmdOperatorStringTableUptoCardSaid : Prop := Claim7.holds Tryd.pinned (.plain (OpenSpec.upto fnBinCmdOperatorStringTableSpec)) fnBinCmdOperatorStringTableUptoCard

/-- THE SECOND FORM's CARD OF 'n010_41.FnCaseOperatorStringTable'. -/
def fnCaseOperatorStringTableUptoCard : Claim7 := { stood := { row := fnCaseOperatorStringTableUptoRow, standIns := [], harness := (true, "9d86a8b9d8c05c09966b3cfd306336265f2df391639f0b679e101850809cc0bc"), looks := false }, kinds := [], alts := [], laidByText := true, laidKinds := [.data, .data, .data, .data], laidTests := true, laidLooks := .later }
def FnCaseOperatorStringTableUptoCardSaid : Prop := Claim7.holds Tryd.pinned (.plain (OpenSpec.upto fnCaseOperatorStringTableSpec)) fnCaseOperatorStringTableUptoCard
end Rows
end Go.Proofs.YtlhhddmclacjgaaDoor
