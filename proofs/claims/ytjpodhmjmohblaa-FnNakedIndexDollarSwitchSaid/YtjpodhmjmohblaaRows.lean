/-
  No cell of these rows narrows 'for every input' (looked for: loops, veiled, ifaces, maps, wideKeys, modest, calm, conditions, laid).
  DERIVED. THE GIVEN ROWS OF THIS SEAT. 11 by the template 'for every input the law returns true; each argument reads behind the call as it read before'; 0 by the template 'total and deterministic' (their statements: YtjpodhmjmohblaaTotals.lean).
  GIVEN WITH THE SEED: the statements are not yours to turn. If you find one false, say at which input.
  Laid BY PROGRAM, IN A SANDBOX (cutbox-rows.mjs): the forced cells as the released guide's own fill.sh prints them over the translation 61fc7352929d6f71… (all of the seat's roots in one cut). By AI agents, Wed Nov 11 2026. No macro, syntax, notation, axiom, sorry.
-/
import Derived.Test.YtjpodhmjmohblaaChecked
import GoSem.Claim
import GoSem.ClaimJoined
import GoSem.ClaimMapViews
import Derived.JoinedTies
import Derived.KernelRfl
namespace Go.Proofs.Ytjpodhmjmohblaa
/- THE CELL 'sum', in the pinned program and in every row, IS THE sha256 OF THE DUMP (.gsa) THAT YtjpodhmjmohblaaProg.lean LOADS. Nothing in Lean hashes anything: it is a label: what it is worth is what the hold of that sum in a sandbox is worth. -/
noncomputable def Try.pinned : Pinned := { name := "ytjpodhmjmohblaa", sum := "61fc7352929d6f71a16d7af3b92e3fceebf74fe4c82516f906da9fb528a3f72a", checked := Try.checked }
namespace Rows
def none {H : Type} : Left H := { results := [], args := [] }

/-- 'n010_27.FnArrayElemEndAgreesWithArrayExprEnd': WHATEVER THE INPUT: true; the input reads as it did. -/
def fnArrayElemEndAgreesWithArrayExprEndSpec : ChangeSpec := { name := "fnArrayElemEndAgreesWithArrayExprEnd", fn := fun _ => fun
  | [d1, d2, d3] => { results := [.lit (.bool true)], args := [d1, d2, d3] }
  | _ => none }
def fnArrayElemEndAgreesWithArrayExprEndRow : OpenClaim := { program := "ytjpodhmjmohblaa", sum := "61fc7352929d6f71a16d7af3b92e3fceebf74fe4c82516f906da9fb528a3f72a", func := "mvdan.cc/sh/v3/n010_27.FnArrayElemEndAgreesWithArrayExprEnd", spec := "fnArrayElemEndAgreesWithArrayExprEnd", unfollowed := true, recurses := true, apart := false }
def FnArrayElemEndAgreesWithArrayExprEndSaid : Prop := fnArrayElemEndAgreesWithArrayExprEndRow.holds Try.pinned (OpenSpec.ofChange fnArrayElemEndAgreesWithArrayExprEndSpec)

/-- ITS FALSE NEIGHBOUR: 'it returns false'. Refute it at one input. -/
def fnArrayElemEndAgreesWithArrayExprEndWrong : ChangeSpec := { name := "fnArrayElemEndAgreesWithArrayExprEnd", fn := fun _ => fun
  | [d1, d2, d3] => { results := [.lit (.bool false)], args := [d1, d2, d3] }
  | _ => none }
def FnArrayElemEndAgreesWithArrayExprEndWrongFalsely : Prop := fnArrayElemEndAgreesWithArrayExprEndRow.holds Try.pinned (OpenSpec.ofChange fnArrayElemEndAgreesWithArrayExprEndWrong)

/-- 'n010_66.FnWordIterEndAgreesWithCStyle': WHATEVER THE INPUT: true; the input reads as it did. -/
def fnWordIterEndAgreesWithCStyleSpec : ChangeSpec := { name := "fnWordIterEndAgreesWithCStyle", fn := fun _ => fun
  | [d1, d2, d3, d4, d5, d6] => { results := [.lit (.bool true)], args := [d1, d2, d3, d4, d5, d6] }
  | _ => none }
def fnWordIterEndAgreesWithCStyleRow : OpenClaim := { program := "ytjpodhmjmohblaa", sum := "61fc7352929d6f71a16d7af3b92e3fceebf74fe4c82516f906da9fb528a3f72a", func := "mvdan.cc/sh/v3/n010_66.FnWordIterEndAgreesWithCStyle", spec := "fnWordIterEndAgreesWithCStyle", unfollowed := true, recurses := true, apart := false }
def FnWordIterEndAgreesWithCStyleSaid : Prop := fnWordIterEndAgreesWithCStyleRow.holds Try.pinned (OpenSpec.ofChange fnWordIterEndAgreesWithCStyleSpec)

/-- ITS FALSE NEIGHBOUR: 'it returns false'. Refute it at one input. -/
def fnWordIterEndAgreesWithCStyleWrong : ChangeSpec := { name := "fnWordIterEndAgreesWithCStyle", fn := fun _ => fun
  | [d1, d2, d3, d4, d5, d6] => { results := [.lit (.bool false)], args := [d1, d2, d3, d4, d5, d6] }
  | _ => none }
def FnWordIterEndAgreesWithCStyleWrongFalsely : Prop := fnWordIterEndAgreesWithCStyleRow.holds Try.pinned (OpenSpec.ofChange fnWordIterEndAgreesWithCStyleWrong)

/-- 'n010_24.FnFlagsArithmParenRoundTrip': WHATEVER THE INPUT: true; the input reads as it did. -/
def fnFlagsArithmParenRoundTripSpec : ChangeSpec := { name := "fnFlagsArithmParenRoundTrip", fn := fun _ => fun
  | [d1, d2] => { results := [.lit (.bool true)], args := [d1, d2] }
  | _ => none }
def fnFlagsArithmParenRoundTripRow : OpenClaim := { program := "ytjpodhmjmohblaa", sum := "61fc7352929d6f71a16d7af3b92e3fceebf74fe4c82516f906da9fb528a3f72a", func := "mvdan.cc/sh/v3/n010_24.FnFlagsArithmParenRoundTrip", spec := "fnFlagsArithmParenRoundTrip", apart := false }
def FnFlagsArithmParenRoundTripSaid : Prop := fnFlagsArithmParenRoundTripRow.holds Try.pinned (OpenSpec.ofChange fnFlagsArithmParenRoundTripSpec)

/-- ITS FALSE NEIGHBOUR: 'it returns false'. Refute it at one input. -/
def fnFlagsArithmParenRoundTripWrong : ChangeSpec := { name := "fnFlagsArithmParenRoundTrip", fn := fun _ => fun
  | [d1, d2] => { results := [.lit (.bool false)], args := [d1, d2] }
  | _ => none }
def FnFlagsArithmParenRoundTripWrongFalsely : Prop := fnFlagsArithmParenRoundTripRow.holds Try.pinned (OpenSpec.ofChange fnFlagsArithmParenRoundTripWrong)

/-- 'n010_27.FnArrayExprEndAdvancesInOrder': WHATEVER THE INPUT: true; the input reads as it did. -/
def fnArrayExprEndAdvancesInOrderSpec : ChangeSpec := { name := "fnArrayExprEndAdvancesInOrder", fn := fun _ => fun
  | [d1, d2, d3, d4] => { results := [.lit (.bool true)], args := [d1, d2, d3, d4] }
  | _ => none }
def fnArrayExprEndAdvancesInOrderRow : OpenClaim := { program := "ytjpodhmjmohblaa", sum := "61fc7352929d6f71a16d7af3b92e3fceebf74fe4c82516f906da9fb528a3f72a", func := "mvdan.cc/sh/v3/n010_27.FnArrayExprEndAdvancesInOrder", spec := "fnArrayExprEndAdvancesInOrder", apart := false }
def FnArrayExprEndAdvancesInOrderSaid : Prop := fnArrayExprEndAdvancesInOrderRow.holds Try.pinned (OpenSpec.ofChange fnArrayExprEndAdvancesInOrderSpec)

/-- ITS FALSE NEIGHBOUR: 'it returns false'. Refute it at one input. -/
def fnArrayExprEndAdvancesInOrderWrong : ChangeSpec := { name := "fnArrayExprEndAdvancesInOrder", fn := fun _ => fun
  | [d1, d2, d3, d4] => { results := [.lit (.bool false)], args := [d1, d2, d3, d4] }
  | _ => none }
def FnArrayExprEndAdvancesInOrderWrongFalsely : Prop := fnArrayExprEndAdvancesInOrderRow.holds Try.pinned (OpenSpec.ofChange fnArrayExprEndAdvancesInOrderWrong)

/-- 'n010_46.FnFlagsArithmEndWithX': WHATEVER THE INPUT: true; the input reads as it did. -/
def fnFlagsArithmEndWithXSpec : ChangeSpec := { name := "fnFlagsArithmEndWithX", fn := fun _ => fun
  | [d1, d2, d3, d4, d5, d6, d7, d8, d9] => { results := [.lit (.bool true)], args := [d1, d2, d3, d4, d5, d6, d7, d8, d9] }
  | _ => none }
def fnFlagsArithmEndWithXRow : OpenClaim := { program := "ytjpodhmjmohblaa", sum := "61fc7352929d6f71a16d7af3b92e3fceebf74fe4c82516f906da9fb528a3f72a", func := "mvdan.cc/sh/v3/n010_46.FnFlagsArithmEndWithX", spec := "fnFlagsArithmEndWithX", unfollowed := true, recurses := true, apart := false }
def FnFlagsArithmEndWithXSaid : Prop := fnFlagsArithmEndWithXRow.holds Try.pinned (OpenSpec.ofChange fnFlagsArithmEndWithXSpec)

/-- ITS FALSE NEIGHBOUR: 'it returns false'. Refute it at one input. -/
def fnFlagsArithmEndWithXWrong : ChangeSpec := { name := "fnFlagsArithmEndWithX", fn := fun _ => fun
  | [d1, d2, d3, d4, d5, d6, d7, d8, d9] => { results := [.lit (.bool false)], args := [d1, d2, d3, d4, d5, d6, d7, d8, d9] }
  | _ => none }
def FnFlagsArithmEndWithXWrongFalsely : Prop := fnFlagsArithmEndWithXRow.holds Try.pinned (OpenSpec.ofChange fnFlagsArithmEndWithXWrong)

/-- 'n010_53.FnCoprocTimeLetNesting': WHATEVER THE INPUT: true; the input reads as it did. -/
def fnCoprocTimeLetNestingSpec : ChangeSpec := { name := "fnCoprocTimeLetNesting", fn := fun _ => fun
  | [d1, d2, d3, d4, d5, d6, d7, d8] => { results := [.lit (.bool true)], args := [d1, d2, d3, d4, d5, d6, d7, d8] }
  | _ => none }
def fnCoprocTimeLetNestingRow : OpenClaim := { program := "ytjpodhmjmohblaa", sum := "61fc7352929d6f71a16d7af3b92e3fceebf74fe4c82516f906da9fb528a3f72a", func := "mvdan.cc/sh/v3/n010_53.FnCoprocTimeLetNesting", spec := "fnCoprocTimeLetNesting", unfollowed := true, recurses := true, apart := false }
def FnCoprocTimeLetNestingSaid : Prop := fnCoprocTimeLetNestingRow.holds Try.pinned (OpenSpec.ofChange fnCoprocTimeLetNestingSpec)

/-- ITS FALSE NEIGHBOUR: 'it returns false'. Refute it at one input. -/
def fnCoprocTimeLetNestingWrong : ChangeSpec := { name := "fnCoprocTimeLetNesting", fn := fun _ => fun
  | [d1, d2, d3, d4, d5, d6, d7, d8] => { results := [.lit (.bool false)], args := [d1, d2, d3, d4, d5, d6, d7, d8] }
  | _ => none }
def FnCoprocTimeLetNestingWrongFalsely : Prop := fnCoprocTimeLetNestingRow.holds Try.pinned (OpenSpec.ofChange fnCoprocTimeLetNestingWrong)

/-- 'n010_38.FnNakedIndexDollarSwitch': WHATEVER THE INPUT: true; the input reads as it did. -/
def fnNakedIndexDollarSwitchSpec : ChangeSpec := { name := "fnNakedIndexDollarSwitch", fn := fun _ => fun
  | [d1, d2, d3, d4, d5] => { results := [.lit (.bool true)], args := [d1, d2, d3, d4, d5] }
  | _ => none }
def fnNakedIndexDollarSwitchRow : OpenClaim := { program := "ytjpodhmjmohblaa", sum := "61fc7352929d6f71a16d7af3b92e3fceebf74fe4c82516f906da9fb528a3f72a", func := "mvdan.cc/sh/v3/n010_38.FnNakedIndexDollarSwitch", spec := "fnNakedIndexDollarSwitch", unfollowed := true, recurses := true, apart := false }
def FnNakedIndexDollarSwitchSaid : Prop := fnNakedIndexDollarSwitchRow.holds Try.pinned (OpenSpec.ofChange fnNakedIndexDollarSwitchSpec)

/-- ITS FALSE NEIGHBOUR: 'it returns false'. Refute it at one input. -/
def fnNakedIndexDollarSwitchWrong : ChangeSpec := { name := "fnNakedIndexDollarSwitch", fn := fun _ => fun
  | [d1, d2, d3, d4, d5] => { results := [.lit (.bool false)], args := [d1, d2, d3, d4, d5] }
  | _ => none }
def FnNakedIndexDollarSwitchWrongFalsely : Prop := fnNakedIndexDollarSwitchRow.holds Try.pinned (OpenSpec.ofChange fnNakedIndexDollarSwitchWrong)

/-- 'n010_46.FnCaseClausePosOrder': WHATEVER THE INPUT: true; the input reads as it did. -/
def fnCaseClausePosOrderSpec : ChangeSpec := { name := "fnCaseClausePosOrder", fn := fun _ => fun
  | [d1, d2, d3, d4, d5] => { results := [.lit (.bool true)], args := [d1, d2, d3, d4, d5] }
  | _ => none }
def fnCaseClausePosOrderRow : OpenClaim := { program := "ytjpodhmjmohblaa", sum := "61fc7352929d6f71a16d7af3b92e3fceebf74fe4c82516f906da9fb528a3f72a", func := "mvdan.cc/sh/v3/n010_46.FnCaseClausePosOrder", spec := "fnCaseClausePosOrder", apart := false }
def FnCaseClausePosOrderSaid : Prop := fnCaseClausePosOrderRow.holds Try.pinned (OpenSpec.ofChange fnCaseClausePosOrderSpec)

/-- ITS FALSE NEIGHBOUR: 'it returns false'. Refute it at one input. -/
def fnCaseClausePosOrderWrong : ChangeSpec := { name := "fnCaseClausePosOrder", fn := fun _ => fun
  | [d1, d2, d3, d4, d5] => { results := [.lit (.bool false)], args := [d1, d2, d3, d4, d5] }
  | _ => none }
def FnCaseClausePosOrderWrongFalsely : Prop := fnCaseClausePosOrderRow.holds Try.pinned (OpenSpec.ofChange fnCaseClausePosOrderWrong)

/-- 'n010_24.FnParenArithmNesting': WHATEVER THE INPUT: true; the input reads as it did. -/
def fnParenArithmNestingSpec : ChangeSpec := { name := "fnParenArithmNesting", fn := fun _ => fun
  | [d1, d2, d3, d4, d5, d6, d7, d8] => { results := [.lit (.bool true)], args := [d1, d2, d3, d4, d5, d6, d7, d8] }
  | _ => none }
def fnParenArithmNestingRow : OpenClaim := { program := "ytjpodhmjmohblaa", sum := "61fc7352929d6f71a16d7af3b92e3fceebf74fe4c82516f906da9fb528a3f72a", func := "mvdan.cc/sh/v3/n010_24.FnParenArithmNesting", spec := "fnParenArithmNesting", apart := false }
def FnParenArithmNestingSaid : Prop := fnParenArithmNestingRow.holds Try.pinned (OpenSpec.ofChange fnParenArithmNestingSpec)

/-- ITS FALSE NEIGHBOUR: 'it returns false'. Refute it at one input. -/
def fnParenArithmNestingWrong : ChangeSpec := { name := "fnParenArithmNesting", fn := fun _ => fun
  | [d1, d2, d3, d4, d5, d6, d7, d8] => { results := [.lit (.bool false)], args := [d1, d2, d3, d4, d5, d6, d7, d8] }
  | _ => none }
def FnParenArithmNestingWrongFalsely : Prop := fnParenArithmNestingRow.holds Try.pinned (OpenSpec.ofChange fnParenArithmNestingWrong)

/-- 'n010_21.FnSglQuotedSpanOrder': WHATEVER THE INPUT: true; the input reads as it did. -/
def fnSglQuotedSpanOrderSpec : ChangeSpec := { name := "fnSglQuotedSpanOrder", fn := fun _ => fun
  | [d1, d2, d3, d4, d5] => { results := [.lit (.bool true)], args := [d1, d2, d3, d4, d5] }
  | _ => none }
def fnSglQuotedSpanOrderRow : OpenClaim := { program := "ytjpodhmjmohblaa", sum := "61fc7352929d6f71a16d7af3b92e3fceebf74fe4c82516f906da9fb528a3f72a", func := "mvdan.cc/sh/v3/n010_21.FnSglQuotedSpanOrder", spec := "fnSglQuotedSpanOrder", apart := false }
def FnSglQuotedSpanOrderSaid : Prop := fnSglQuotedSpanOrderRow.holds Try.pinned (OpenSpec.ofChange fnSglQuotedSpanOrderSpec)

/-- ITS FALSE NEIGHBOUR: 'it returns false'. Refute it at one input. -/
def fnSglQuotedSpanOrderWrong : ChangeSpec := { name := "fnSglQuotedSpanOrder", fn := fun _ => fun
  | [d1, d2, d3, d4, d5] => { results := [.lit (.bool false)], args := [d1, d2, d3, d4, d5] }
  | _ => none }
def FnSglQuotedSpanOrderWrongFalsely : Prop := fnSglQuotedSpanOrderRow.holds Try.pinned (OpenSpec.ofChange fnSglQuotedSpanOrderWrong)

/-- 'n010_46.FnCaseItemPosIgnoresRest': WHATEVER THE INPUT: true; the input reads as it did. -/
def fnCaseItemPosIgnoresRestSpec : ChangeSpec := { name := "fnCaseItemPosIgnoresRest", fn := fun _ => fun
  | [d1, d2, d3, d4, d5, d6, d7] => { results := [.lit (.bool true)], args := [d1, d2, d3, d4, d5, d6, d7] }
  | _ => none }
def fnCaseItemPosIgnoresRestRow : OpenClaim := { program := "ytjpodhmjmohblaa", sum := "61fc7352929d6f71a16d7af3b92e3fceebf74fe4c82516f906da9fb528a3f72a", func := "mvdan.cc/sh/v3/n010_46.FnCaseItemPosIgnoresRest", spec := "fnCaseItemPosIgnoresRest", unfollowed := true, recurses := true, apart := false }
def FnCaseItemPosIgnoresRestSaid : Prop := fnCaseItemPosIgnoresRestRow.holds Try.pinned (OpenSpec.ofChange fnCaseItemPosIgnoresRestSpec)

/-- ITS FALSE NEIGHBOUR: 'it returns false'. Refute it at one input. -/
def fnCaseItemPosIgnoresRestWrong : ChangeSpec := { name := "fnCaseItemPosIgnoresRest", fn := fun _ => fun
  | [d1, d2, d3, d4, d5, d6, d7] => { results := [.lit (.bool false)], args := [d1, d2, d3, d4, d5, d6, d7] }
  | _ => none }
def FnCaseItemPosIgnoresRestWrongFalsely : Prop := fnCaseItemPosIgnoresRestRow.holds Try.pinned (OpenSpec.ofChange fnCaseItemPosIgnoresRestWrong)

/- THE SECOND FORM. 'bulk': how many values and letters a reading holds, each counted each time it is reached (what is shared counts as often as it is met; a slice's spare places count too). A statement '..UptoSaid' is the law's where the arguments, and the package variables that the reading takes, are together of bulk at most 1048576: NARROWER than '..Said'. Prove '..Said' where nothing that the law and all that it calls make is longer than what came in: it says more and counts as full. Else prove '..UptoSaid'. A law counts once. -/
mutual
def uptoBulk {H : Type} : DataW H → Nat
  | .lit (.string bytes) => bytes.length + 1
  | .lit _ => 1
  | .nil => 1
  | .ptr d => uptoBulk d + 1
  | .slice elems spare => uptoBulkAll elems + uptoBulkAll spare + 1
  | .agg parts => uptoBulkAll parts + 1
  | .iface _ d => uptoBulk d + 1
  | .map entries => uptoBulkEntries entries + 1
  | .held _ => 1
def uptoBulkAll {H : Type} : List (DataW H) → Nat
  | [] => 0
  | d :: r => uptoBulk d + uptoBulkAll r
def uptoBulkEntries {H : Type} : List (Lit × DataW H) → Nat
  | [] => 0
  | x :: r => uptoBulkEntry x + uptoBulkEntries r
def uptoBulkEntry {H : Type} : Lit × DataW H → Nat
  | (.string bytes, d) => bytes.length + uptoBulk d + 1
  | (_, d) => uptoBulk d + 1
 end
def uptoSmall : (H : Type) → List (DataW H) → Bool := fun _ ds => decide (uptoBulkAll ds ≤ 1048576)
def OpenSpec.upto (s : _root_.Go.ChangeSpec) : _root_.Go.OpenSpec := { _root_.Go.OpenSpec.ofChange s with cond := some uptoSmall }

/-- 'n010_27.FnArrayElemEndAgreesWithArrayExprEnd', WHERE WHAT IT READS IS OF BULK AT MOST 1048576: true; the input reads as it did. -/
def fnArrayElemEndAgreesWithArrayExprEndUptoRow : OpenClaim := { program := "ytjpodhmjmohblaa", sum := "61fc7352929d6f71a16d7af3b92e3fceebf74fe4c82516f906da9fb528a3f72a", func := "mvdan.cc/sh/v3/n010_27.FnArrayElemEndAgreesWithArrayExprEnd", spec := "fnArrayElemEndAgreesWithArrayExprEnd", unfollowed := true, recurses := true, apart := false, narrowed := true }
def FnArrayElemEndAgreesWithArrayExprEndUptoSaid : Prop := fnArrayElemEndAgreesWithArrayExprEndUptoRow.holds Try.pinned (OpenSpec.upto fnArrayElemEndAgreesWithArrayExprEndSpec)

/-- 'n010_66.FnWordIterEndAgreesWithCStyle', WHERE WHAT IT READS IS OF BULK AT MOST 1048576: true; the input reads as it did. -/
def fnWordIterEndAgreesWithCStyleUptoRow : OpenClaim := { program := "ytjpodhmjmohblaa", sum := "61fc7352929d6f71a16d7af3b92e3fceebf74fe4c82516f906da9fb528a3f72a", func := "mvdan.cc/sh/v3/n010_66.FnWordIterEndAgreesWithCStyle", spec := "fnWordIterEndAgreesWithCStyle", unfollowed := true, recurses := true, apart := false, narrowed := true }
def FnWordIterEndAgreesWithCStyleUptoSaid : Prop := fnWordIterEndAgreesWithCStyleUptoRow.holds Try.pinned (OpenSpec.upto fnWordIterEndAgreesWithCStyleSpec)

/-- 'n010_24.FnFlagsArithmParenRoundTrip', WHERE WHAT IT READS IS OF BULK AT MOST 1048576: true; the input reads as it did. -/
def fnFlagsArithmParenRoundTripUptoRow : OpenClaim := { program := "ytjpodhmjmohblaa", sum := "61fc7352929d6f71a16d7af3b92e3fceebf74fe4c82516f906da9fb528a3f72a", func := "mvdan.cc/sh/v3/n010_24.FnFlagsArithmParenRoundTrip", spec := "fnFlagsArithmParenRoundTrip", apart := false, narrowed := true }
def FnFlagsArithmParenRoundTripUptoSaid : Prop := fnFlagsArithmParenRoundTripUptoRow.holds Try.pinned (OpenSpec.upto fnFlagsArithmParenRoundTripSpec)

/-- 'n010_27.FnArrayExprEndAdvancesInOrder', WHERE WHAT IT READS IS OF BULK AT MOST 1048576: true; the input reads as it did. -/
def fnArrayExprEndAdvancesInOrderUptoRow : OpenClaim := { program := "ytjpodhmjmohblaa", sum := "61fc7352929d6f71a16d7af3b92e3fceebf74fe4c82516f906da9fb528a3f72a", func := "mvdan.cc/sh/v3/n010_27.FnArrayExprEndAdvancesInOrder", spec := "fnArrayExprEndAdvancesInOrder", apart := false, narrowed := true }
def FnArrayExprEndAdvancesInOrderUptoSaid : Prop := fnArrayExprEndAdvancesInOrderUptoRow.holds Try.pinned (OpenSpec.upto fnArrayExprEndAdvancesInOrderSpec)

/-- 'n010_46.FnFlagsArithmEndWithX', WHERE WHAT IT READS IS OF BULK AT MOST 1048576: true; the input reads as it did. -/
def fnFlagsArithmEndWithXUptoRow : OpenClaim := { program := "ytjpodhmjmohblaa", sum := "61fc7352929d6f71a16d7af3b92e3fceebf74fe4c82516f906da9fb528a3f72a", func := "mvdan.cc/sh/v3/n010_46.FnFlagsArithmEndWithX", spec := "fnFlagsArithmEndWithX", unfollowed := true, recurses := true, apart := false, narrowed := true }
def FnFlagsArithmEndWithXUptoSaid : Prop := fnFlagsArithmEndWithXUptoRow.holds Try.pinned (OpenSpec.upto fnFlagsArithmEndWithXSpec)

/-- 'n010_53.FnCoprocTimeLetNesting', WHERE WHAT IT READS IS OF BULK AT MOST 1048576: true; the input reads as it did. -/
def fnCoprocTimeLetNestingUptoRow : OpenClaim := { program := "ytjpodhmjmohblaa", sum := "61fc7352929d6f71a16d7af3b92e3fceebf74fe4c82516f906da9fb528a3f72a", func := "mvdan.cc/sh/v3/n010_53.FnCoprocTimeLetNesting", spec := "fnCoprocTimeLetNesting", unfollowed := true, recurses := true, apart := false, narrowed := true }
def FnCoprocTimeLetNestingUptoSaid : Prop := fnCoprocTimeLetNestingUptoRow.holds Try.pinned (OpenSpec.upto fnCoprocTimeLetNestingSpec)

/-- 'n010_38.FnNakedIndexDollarSwitch', WHERE WHAT IT READS IS OF BULK AT MOST 1048576: true; the input reads as it did. -/
def fnNakedIndexDollarSwitchUptoRow : OpenClaim := { program := "ytjpodhmjmohblaa", sum := "61fc7352929d6f71a16d7af3b92e3fceebf74fe4c82516f906da9fb528a3f72a", func := "mvdan.cc/sh/v3/n010_38.FnNakedIndexDollarSwitch", spec := "fnNakedIndexDollarSwitch", unfollowed := true, recurses := true, apart := false, narrowed := true }
def FnNakedIndexDollarSwitchUptoSaid : Prop := fnNakedIndexDollarSwitchUptoRow.holds Try.pinned (OpenSpec.upto fnNakedIndexDollarSwitchSpec)

/-- 'n010_46.FnCaseClausePosOrder', WHERE WHAT IT READS IS OF BULK AT MOST 1048576: true; the input reads as it did. -/
def fnCaseClausePosOrderUptoRow : OpenClaim := { program := "ytjpodhmjmohblaa", sum := "61fc7352929d6f71a16d7af3b92e3fceebf74fe4c82516f906da9fb528a3f72a", func := "mvdan.cc/sh/v3/n010_46.FnCaseClausePosOrder", spec := "fnCaseClausePosOrder", apart := false, narrowed := true }
def FnCaseClausePosOrderUptoSaid : Prop := fnCaseClausePosOrderUptoRow.holds Try.pinned (OpenSpec.upto fnCaseClausePosOrderSpec)

/-- 'n010_24.FnParenArithmNesting', WHERE WHAT IT READS IS OF BULK AT MOST 1048576: true; the input reads as it did. -/
def fnParenArithmNestingUptoRow : OpenClaim := { program := "ytjpodhmjmohblaa", sum := "61fc7352929d6f71a16d7af3b92e3fceebf74fe4c82516f906da9fb528a3f72a", func := "mvdan.cc/sh/v3/n010_24.FnParenArithmNesting", spec := "fnParenArithmNesting", apart := false, narrowed := true }
def FnParenArithmNestingUptoSaid : Prop := fnParenArithmNestingUptoRow.holds Try.pinned (OpenSpec.upto fnParenArithmNestingSpec)

/-- 'n010_21.FnSglQuotedSpanOrder', WHERE WHAT IT READS IS OF BULK AT MOST 1048576: true; the input reads as it did. -/
def fnSglQuotedSpanOrderUptoRow : OpenClaim := { program := "ytjpodhmjmohblaa", sum := "61fc7352929d6f71a16d7af3b92e3fceebf74fe4c82516f906da9fb528a3f72a", func := "mvdan.cc/sh/v3/n010_21.FnSglQuotedSpanOrder", spec := "fnSglQuotedSpanOrder", apart := false, narrowed := true }
def FnSglQuotedSpanOrderUptoSaid : Prop := fnSglQuotedSpanOrderUptoRow.holds Try.pinned (OpenSpec.upto fnSglQuotedSpanOrderSpec)

/-- 'n010_46.FnCaseItemPosIgnoresRest', WHERE WHAT IT READS IS OF BULK AT MOST 1048576: true; the input reads as it did. -/
def fnCaseItemPosIgnoresRestUptoRow : OpenClaim := { program := "ytjpodhmjmohblaa", sum := "61fc7352929d6f71a16d7af3b92e3fceebf74fe4c82516f906da9fb528a3f72a", func := "mvdan.cc/sh/v3/n010_46.FnCaseItemPosIgnoresRest", spec := "fnCaseItemPosIgnoresRest", unfollowed := true, recurses := true, apart := false, narrowed := true }
def FnCaseItemPosIgnoresRestUptoSaid : Prop := fnCaseItemPosIgnoresRestUptoRow.holds Try.pinned (OpenSpec.upto fnCaseItemPosIgnoresRestSpec)

end Rows
end Go.Proofs.Ytjpodhmjmohblaa
