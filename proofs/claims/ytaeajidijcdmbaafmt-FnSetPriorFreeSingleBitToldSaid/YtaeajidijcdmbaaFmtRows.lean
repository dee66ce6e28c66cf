/-
  No cell of these rows narrows 'for every input' (looked for: loops, veiled, ifaces, maps, wideKeys, modest, calm, conditions, laid).
  DERIVED. THE GIVEN ROWS OF THIS SEAT. 2 by the template 'for every input the law returns true; each argument reads behind the call as it read before'; 0 by the template 'total and deterministic' (their statements: YtaeajidijcdmbaaFmtTotals.lean).
  GIVEN WITH THE SEED: the statements are not yours to turn. If you find one false, say at which input.
  Laid BY PROGRAM, IN A SANDBOX (cutbox-rows.mjs): the forced cells as the released guide's own fill.sh prints them over the translation f9349834098b094e… (all of the seat's roots in one cut). By AI agents, Wed Nov 11 2026. No macro, syntax, notation, axiom, sorry.
-/
import Derived.Test.YtaeajidijcdmbaaFmtChecked
import GoSem.Claim
import GoSem.ClaimJoined
import GoSem.ClaimMapViews
import Derived.JoinedTies
import Derived.KernelRfl
namespace Go.Proofs.YtaeajidijcdmbaaFmt
/- THE CELL 'sum', in the pinned program and in every row, IS THE sha256 OF THE DUMP (.gsa) THAT YtaeajidijcdmbaaFmtProg.lean LOADS. Nothing in Lean hashes anything: it is a label: what it is worth is what the hold of that sum in a sandbox is worth. -/
noncomputable def Tryf.pinned : Pinned := { name := "ytaeajidijcdmbaafmt", sum := "f9349834098b094eab8ab3390078e996b3d535d07fab26d06ddec3fd37324bc6", checked := Tryf.checked }
namespace Rows
def none {H : Type} : Left H := { results := [], args := [] }

/-- 'n010_57.FnVariantExactTable': WHATEVER THE INPUT: true; the input reads as it did. -/
def fnVariantExactTableSpec : ChangeSpec := { name := "fnVariantExactTable", fn := fun _ => fun
  | [d] => { results := [.lit (.bool true)], args := [d] }
  | _ => none }
def fnVariantExactTableRow : OpenClaim := { program := "ytaeajidijcdmbaafmt", sum := "f9349834098b094eab8ab3390078e996b3d535d07fab26d06ddec3fd37324bc6", func := "mvdan.cc/sh/v3/n010_57.FnVariantExactTable", spec := "fnVariantExactTable", stops := ["fmt.Sprintf, its operands' methods called", "fmt.errorf"], inPlace := ["fmt.Sprintf"], unfollowed := true, recurses := true, apart := false }
/-- NO THEOREM (fmt's text is open here; it may be false): for the released tool's asking of the row's closed facts alone. THE STATEMENT IS 'FnVariantExactTableToldSaid' (YtaeajidijcdmbaaFmtCards.lean). -/
def FnVariantExactTableFormAsk : Prop := fnVariantExactTableRow.holds Tryf.pinned (OpenSpec.ofChange fnVariantExactTableSpec)

/-- ITS FALSE NEIGHBOUR: 'it returns false'. Refute it at one input. -/
def fnVariantExactTableWrong : ChangeSpec := { name := "fnVariantExactTable", fn := fun _ => fun
  | [d] => { results := [.lit (.bool false)], args := [d] }
  | _ => none }
def FnVariantExactTableWrongFormAsk : Prop := fnVariantExactTableRow.holds Tryf.pinned (OpenSpec.ofChange fnVariantExactTableWrong)

/-- 'n010_57.FnSetPriorFreeSingleBit': WHATEVER THE INPUT: true; the input reads as it did. -/
def fnSetPriorFreeSingleBitSpec : ChangeSpec := { name := "fnSetPriorFreeSingleBit", fn := fun _ => fun
  | [d1, d2, d3] => { results := [.lit (.bool true)], args := [d1, d2, d3] }
  | _ => none }
def fnSetPriorFreeSingleBitRow : OpenClaim := { program := "ytaeajidijcdmbaafmt", sum := "f9349834098b094eab8ab3390078e996b3d535d07fab26d06ddec3fd37324bc6", func := "mvdan.cc/sh/v3/n010_57.FnSetPriorFreeSingleBit", spec := "fnSetPriorFreeSingleBit", stops := ["fmt.Sprintf, its operands' methods called", "fmt.errorf"], inPlace := ["fmt.errorf"], apart := false }
/-- NO THEOREM (fmt's text is open here; it may be false): for the released tool's asking of the row's closed facts alone. THE STATEMENT IS 'FnSetPriorFreeSingleBitToldSaid' (YtaeajidijcdmbaaFmtCards.lean). -/
def FnSetPriorFreeSingleBitFormAsk : Prop := fnSetPriorFreeSingleBitRow.holds Tryf.pinned (OpenSpec.ofChange fnSetPriorFreeSingleBitSpec)

/-- ITS FALSE NEIGHBOUR: 'it returns false'. Refute it at one input. -/
def fnSetPriorFreeSingleBitWrong : ChangeSpec := { name := "fnSetPriorFreeSingleBit", fn := fun _ => fun
  | [d1, d2, d3] => { results := [.lit (.bool false)], args := [d1, d2, d3] }
  | _ => none }
def FnSetPriorFreeSingleBitWrongFormAsk : Prop := fnSetPriorFreeSingleBitRow.holds Tryf.pinned (OpenSpec.ofChange fnSetPriorFreeSingleBitWrong)

end Rows
end Go.Proofs.YtaeajidijcdmbaaFmt
