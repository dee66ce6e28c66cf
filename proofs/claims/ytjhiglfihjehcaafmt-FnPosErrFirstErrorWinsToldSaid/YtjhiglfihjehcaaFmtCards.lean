/-
  DERIVED. GIVEN WITH THE SEED: THE CARDS: each row of YtjhiglfihjehcaaFmtRows.lean that lists a variable, with what it lists TIED to the program's text (the seventh form; the later family's looks); each row that meets fmt, with fmt's text TOLD by the authors' own Lean function (tested against real Go, not proved from fmt's source: count such statements apart). THE CARD IS WHAT COUNTS. Prove the row's statement (the work); the ties are given (YtjhiglfihjehcaaFmtTie.lean); close each card by the builder's one call (the guide's Derived/Test/ToyasCard.lean, 'card_holds'). Laid BY PROGRAM, IN A SANDBOX (cutbox-door.mjs). By AI agents, Wed Nov 11 2026. No macro, syntax, notation, axiom, sorry.
-/
import Derived.Test.YtjhiglfihjehcaaFmtRows
import GoSem.ClaimSeven
namespace Go.Proofs.YtjhiglfihjehcaaFmt
namespace Rows

/-- THE TOLD CARD OF 'n010_63.FnFollowErrFirstErrorStands'. -/
def fnFollowErrFirstErrorStandsCard : Claim7 := { stood := { row := fnFollowErrFirstErrorStandsRow, standIns := [], harness := (true, "64a67bdf6869b6716cc9587aa5f8d30b76bac7ed8a168674057585d69d0a6659"), looks := true }, told := true, goes := false }
def FnFollowErrFirstErrorStandsToldSaid : Prop := Claim7.holds Tryf.pinned (.plain (OpenSpec.ofChange fnFollowErrFirstErrorStandsSpec)) fnFollowErrFirstErrorStandsCard
/-- ITS FALSE NEIGHBOUR. Refute it at one input. -/
def FnFollowErrFirstErrorStandsToldWrongFalsely : Prop := Claim7.holds Tryf.pinned (.plain (OpenSpec.ofChange fnFollowErrFirstErrorStandsWrong)) fnFollowErrFirstErrorStandsCard

/-- THE TOLD CARD OF 'n010_47.FnPosErrFirstErrorWins'. -/
def fnPosErrFirstErrorWinsCard : Claim7 := { stood := { row := fnPosErrFirstErrorWinsRow, standIns := [], harness := (true, "64a67bdf6869b6716cc9587aa5f8d30b76bac7ed8a168674057585d69d0a6659"), looks := true }, told := true, goes := false }
def FnPosErrFirstErrorWinsToldSaid : Prop := Claim7.holds Tryf.pinned (.plain (OpenSpec.ofChange fnPosErrFirstErrorWinsSpec)) fnPosErrFirstErrorWinsCard
/-- ITS FALSE NEIGHBOUR. Refute it at one input. -/
def FnPosErrFirstErrorWinsToldWrongFalsely : Prop := Claim7.holds Tryf.pinned (.plain (OpenSpec.ofChange fnPosErrFirstErrorWinsWrong)) fnPosErrFirstErrorWinsCard
end Rows
end Go.Proofs.YtjhiglfihjehcaaFmt
