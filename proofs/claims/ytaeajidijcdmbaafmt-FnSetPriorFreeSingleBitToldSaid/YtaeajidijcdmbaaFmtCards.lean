/-
  DERIVED. GIVEN WITH THE SEED: THE CARDS: each row of YtaeajidijcdmbaaFmtRows.lean that lists a variable, with what it lists TIED to the program's text (the seventh form; the later family's looks); each row that meets fmt, with fmt's text TOLD by the authors' own Lean function (tested against real Go, not proved from fmt's source: count such statements apart). THE CARD IS WHAT COUNTS. Prove the row's statement (the work); the ties are given (YtaeajidijcdmbaaFmtTie.lean); close each card by the builder's one call (the guide's Derived/Test/ToyasCard.lean, 'card_holds'). Laid BY PROGRAM, IN A SANDBOX (cutbox-door.mjs). By AI agents, Wed Nov 11 2026. No macro, syntax, notation, axiom, sorry.
-/
import Derived.Test.YtaeajidijcdmbaaFmtRows
import GoSem.ClaimSeven
namespace Go.Proofs.YtaeajidijcdmbaaFmt
namespace Rows

/-- THE TOLD CARD OF 'n010_57.FnVariantExactTable'. -/
def fnVariantExactTableCard : Claim7 := { stood := { row := fnVariantExactTableRow, standIns := [], harness := (true, "5c7e03969c3e5619824f5bdf738967dc4954816ef93eaa3296cdf50bb6d58374"), looks := false }, told := true, goes := false }
def FnVariantExactTableToldSaid : Prop := Claim7.holds Tryf.pinned (.plain (OpenSpec.ofChange fnVariantExactTableSpec)) fnVariantExactTableCard
/-- ITS FALSE NEIGHBOUR. Refute it at one input. -/
def FnVariantExactTableToldWrongFalsely : Prop := Claim7.holds Tryf.pinned (.plain (OpenSpec.ofChange fnVariantExactTableWrong)) fnVariantExactTableCard

/-- THE TOLD CARD OF 'n010_57.FnSetPriorFreeSingleBit'. -/
def fnSetPriorFreeSingleBitCard : Claim7 := { stood := { row := fnSetPriorFreeSingleBitRow, standIns := [], harness := (true, "5c7e03969c3e5619824f5bdf738967dc4954816ef93eaa3296cdf50bb6d58374"), looks := false }, told := true, goes := false }
def FnSetPriorFreeSingleBitToldSaid : Prop := Claim7.holds Tryf.pinned (.plain (OpenSpec.ofChange fnSetPriorFreeSingleBitSpec)) fnSetPriorFreeSingleBitCard
/-- ITS FALSE NEIGHBOUR. Refute it at one input. -/
def FnSetPriorFreeSingleBitToldWrongFalsely : Prop := Claim7.holds Tryf.pinned (.plain (OpenSpec.ofChange fnSetPriorFreeSingleBitWrong)) fnSetPriorFreeSingleBitCard
end Rows
end Go.Proofs.YtaeajidijcdmbaaFmt
