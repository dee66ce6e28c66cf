/-
  No cell of these rows narrows 'for every input' (looked for: loops, veiled, ifaces, maps, wideKeys, modest, calm, conditions, laid).
  DERIVED. THE GIVEN ROWS OF THIS SEAT. 2 by the template 'for every input the law returns true; each argument reads behind the call as it read before'; 0 by the template 'total and deterministic' (their statements: YtjhiglfihjehcaaFmtTotals.lean).
  GIVEN WITH THE SEED: the statements are not yours to turn. If you find one false, say at which input.
  Laid BY PROGRAM, IN A SANDBOX (cutbox-rows.mjs): the forced cells as the released guide's own fill.sh prints them over the translation abc906210d0445a4… (all of the seat's roots in one cut). By AI agents, Wed Nov 11 2026. No macro, syntax, notation, axiom, sorry.
-/
import Derived.Test.YtjhiglfihjehcaaFmtChecked
import GoSem.Claim
import GoSem.ClaimJoined
import GoSem.ClaimMapViews
import Derived.JoinedTies
import Derived.KernelRfl
namespace Go.Proofs.YtjhiglfihjehcaaFmt
/- THE CELL 'sum', in the pinned program and in every row, IS THE sha256 OF THE DUMP (.gsa) THAT YtjhiglfihjehcaaFmtProg.lean LOADS. Nothing in Lean hashes anything: it is a label: what it is worth is what the hold of that sum in a sandbox is worth. -/
noncomputable def Tryf.pinned : Pinned := { name := "ytjhiglfihjehcaafmt", sum := "abc906210d0445a4b24cb0e45de91767829a6b299c42c60d31403b73b7946c07", checked := Tryf.checked }
namespace Rows
def none {H : Type} : Left H := { results := [], args := [] }

/-- 'n010_63.FnFollowErrFirstErrorStands': WHATEVER THE INPUT: true; the input reads as it did. -/
def fnFollowErrFirstErrorStandsSpec : ChangeSpec := { name := "fnFollowErrFirstErrorStands", fn := fun _ => fun
  | [d1, d2, d3, d4, d5, d6, d7, d8, d9, d10, d11] => { results := [.lit (.bool true)], args := [d1, d2, d3, d4, d5, d6, d7, d8, d9, d10, d11] }
  | _ => none }
def fnFollowErrFirstErrorStandsRow : OpenClaim := { program := "ytjhiglfihjehcaafmt", sum := "abc906210d0445a4b24cb0e45de91767829a6b299c42c60d31403b73b7946c07", func := "mvdan.cc/sh/v3/n010_63.FnFollowErrFirstErrorStands", spec := "fnFollowErrFirstErrorStands", stops := ["fmt.Sprintf, its operands' methods called"], inPlace := ["fmt.Sprintf"], unfollowed := true, recurses := true, apart := false }
/-- NO THEOREM (fmt's text is open here; it may be false): for the released tool's asking of the row's closed facts alone. THE STATEMENT IS 'FnFollowErrFirstErrorStandsToldSaid' (YtjhiglfihjehcaaFmtCards.lean). -/
def FnFollowErrFirstErrorStandsFormAsk : Prop := fnFollowErrFirstErrorStandsRow.holds Tryf.pinned (OpenSpec.ofChange fnFollowErrFirstErrorStandsSpec)

/-- ITS FALSE NEIGHBOUR: 'it returns false'. Refute it at one input. -/
def fnFollowErrFirstErrorStandsWrong : ChangeSpec := { name := "fnFollowErrFirstErrorStands", fn := fun _ => fun
  | [d1, d2, d3, d4, d5, d6, d7, d8, d9, d10, d11] => { results := [.lit (.bool false)], args := [d1, d2, d3, d4, d5, d6, d7, d8, d9, d10, d11] }
  | _ => none }
def FnFollowErrFirstErrorStandsWrongFormAsk : Prop := fnFollowErrFirstErrorStandsRow.holds Tryf.pinned (OpenSpec.ofChange fnFollowErrFirstErrorStandsWrong)

/-- 'n010_47.FnPosErrFirstErrorWins': WHATEVER THE INPUT: true; the input reads as it did. -/
def fnPosErrFirstErrorWinsSpec : ChangeSpec := { name := "fnPosErrFirstErrorWins", fn := fun _ => fun
  | [d1, d2, d3, d4, d5, d6, d7, d8, d9, d10, d11] => { results := [.lit (.bool true)], args := [d1, d2, d3, d4, d5, d6, d7, d8, d9, d10, d11] }
  | _ => none }
def fnPosErrFirstErrorWinsRow : OpenClaim := { program := "ytjhiglfihjehcaafmt", sum := "abc906210d0445a4b24cb0e45de91767829a6b299c42c60d31403b73b7946c07", func := "mvdan.cc/sh/v3/n010_47.FnPosErrFirstErrorWins", spec := "fnPosErrFirstErrorWins", stops := ["fmt.Sprintf, its operands' methods called"], inPlace := ["fmt.Sprintf"], unfollowed := true, recurses := true, apart := false }
/-- NO THEOREM (fmt's text is open here; it may be false): for the released tool's asking of the row's closed facts alone. THE STATEMENT IS 'FnPosErrFirstErrorWinsToldSaid' (YtjhiglfihjehcaaFmtCards.lean). -/
def FnPosErrFirstErrorWinsFormAsk : Prop := fnPosErrFirstErrorWinsRow.holds Tryf.pinned (OpenSpec.ofChange fnPosErrFirstErrorWinsSpec)

/-- ITS FALSE NEIGHBOUR: 'it returns false'. Refute it at one input. -/
def fnPosErrFirstErrorWinsWrong : ChangeSpec := { name := "fnPosErrFirstErrorWins", fn := fun _ => fun
  | [d1, d2, d3, d4, d5, d6, d7, d8, d9, d10, d11] => { results := [.lit (.bool false)], args := [d1, d2, d3, d4, d5, d6, d7, d8, d9, d10, d11] }
  | _ => none }
def FnPosErrFirstErrorWinsWrongFormAsk : Prop := fnPosErrFirstErrorWinsRow.holds Tryf.pinned (OpenSpec.ofChange fnPosErrFirstErrorWinsWrong)

end Rows
end Go.Proofs.YtjhiglfihjehcaaFmt
