/-
  No cell of these rows narrows 'for every input' (looked for: loops, veiled, ifaces, maps, wideKeys, modest, calm, conditions, laid).
  DERIVED. THE GIVEN ROWS OF THIS SEAT. 6 by the template 'for every input the law returns true; each argument reads behind the call as it read before'; 0 by the template 'total and deterministic' (their statements: YtagbccphgiegeaaTotals.lean).
  GIVEN WITH THE SEED: the statements are not yours to turn. If you find one false, say at which input.
  Laid BY PROGRAM, IN A SANDBOX (cutbox-rows.mjs): the forced cells as the released guide's own fill.sh prints them over the translation 681d993c3fab1c42… (all of the seat's roots in one cut). By AI agents, Wed Nov 11 2026. No macro, syntax, notation, axiom, sorry.
-/
import Derived.Test.YtagbccphgiegeaaChecked
import GoSem.Claim
import GoSem.ClaimJoined
import GoSem.ClaimMapViews
import Derived.JoinedTies
import Derived.KernelRfl
namespace Go.Proofs.Ytagbccphgiegeaa
/- THE CELL 'sum', in the pinned program and in every row, IS THE sha256 OF THE DUMP (.gsa) THAT YtagbccphgiegeaaProg.lean LOADS. Nothing in Lean hashes anything: it is a label: what it is worth is what the hold of that sum in a sandbox is worth. -/
noncomputable def Try.pinned : Pinned := { name := "ytagbccphgiegeaa", sum := "681d993c3fab1c42501db4707ded680fa4457b5b5119911d916943eba12fce42", checked := Try.checked }
namespace Rows
def none {H : Type} : Left H := { results := [], args := [] }

/-- 'n010_42.FnParamNameRuneTable': WHATEVER THE INPUT: true; the input reads as it did. -/
def fnParamNameRuneTableSpec : ChangeSpec := { name := "fnParamNameRuneTable", fn := fun _ => fun
  | [d] => { results := [.lit (.bool true)], args := [d] }
  | _ => none }
def fnParamNameRuneTableRow : OpenClaim := { program := "ytagbccphgiegeaa", sum := "681d993c3fab1c42501db4707ded680fa4457b5b5119911d916943eba12fce42", func := "mvdan.cc/sh/v3/n010_42.FnParamNameRuneTable", spec := "fnParamNameRuneTable", apart := false }
def FnParamNameRuneTableSaid : Prop := fnParamNameRuneTableRow.holds Try.pinned (OpenSpec.ofChange fnParamNameRuneTableSpec)

/-- ITS FALSE NEIGHBOUR: 'it returns false'. Refute it at one input. -/
def fnParamNameRuneTableWrong : ChangeSpec := { name := "fnParamNameRuneTable", fn := fun _ => fun
  | [d] => { results := [.lit (.bool false)], args := [d] }
  | _ => none }
def FnParamNameRuneTableWrongFalsely : Prop := fnParamNameRuneTableRow.holds Try.pinned (OpenSpec.ofChange fnParamNameRuneTableWrong)

/-- 'n010_42.FnParamNameStartRuneTable': WHATEVER THE INPUT: true; the input reads as it did. -/
def fnParamNameStartRuneTableSpec : ChangeSpec := { name := "fnParamNameStartRuneTable", fn := fun _ => fun
  | [d] => { results := [.lit (.bool true)], args := [d] }
  | _ => none }
def fnParamNameStartRuneTableRow : OpenClaim := { program := "ytagbccphgiegeaa", sum := "681d993c3fab1c42501db4707ded680fa4457b5b5119911d916943eba12fce42", func := "mvdan.cc/sh/v3/n010_42.FnParamNameStartRuneTable", spec := "fnParamNameStartRuneTable", apart := false }
def FnParamNameStartRuneTableSaid : Prop := fnParamNameStartRuneTableRow.holds Try.pinned (OpenSpec.ofChange fnParamNameStartRuneTableSpec)

/-- ITS FALSE NEIGHBOUR: 'it returns false'. Refute it at one input. -/
def fnParamNameStartRuneTableWrong : ChangeSpec := { name := "fnParamNameStartRuneTable", fn := fun _ => fun
  | [d] => { results := [.lit (.bool false)], args := [d] }
  | _ => none }
def FnParamNameStartRuneTableWrongFalsely : Prop := fnParamNameStartRuneTableRow.holds Try.pinned (OpenSpec.ofChange fnParamNameStartRuneTableWrong)

/-- 'n010_42.FnSingleRuneParamTable': WHATEVER THE INPUT: true; the input reads as it did. -/
def fnSingleRuneParamTableSpec : ChangeSpec := { name := "fnSingleRuneParamTable", fn := fun _ => fun
  | [d] => { results := [.lit (.bool true)], args := [d] }
  | _ => none }
def fnSingleRuneParamTableRow : OpenClaim := { program := "ytagbccphgiegeaa", sum := "681d993c3fab1c42501db4707ded680fa4457b5b5119911d916943eba12fce42", func := "mvdan.cc/sh/v3/n010_42.FnSingleRuneParamTable", spec := "fnSingleRuneParamTable", apart := false }
def FnSingleRuneParamTableSaid : Prop := fnSingleRuneParamTableRow.holds Try.pinned (OpenSpec.ofChange fnSingleRuneParamTableSpec)

/-- ITS FALSE NEIGHBOUR: 'it returns false'. Refute it at one input. -/
def fnSingleRuneParamTableWrong : ChangeSpec := { name := "fnSingleRuneParamTable", fn := fun _ => fun
  | [d] => { results := [.lit (.bool false)], args := [d] }
  | _ => none }
def FnSingleRuneParamTableWrongFalsely : Prop := fnSingleRuneParamTableRow.holds Try.pinned (OpenSpec.ofChange fnSingleRuneParamTableWrong)

/-- 'n010_29.FnStopTokenCountersOnlyAtBackquote': WHATEVER THE INPUT: true; the input reads as it did. -/
def fnStopTokenCountersOnlyAtBackquoteSpec : ChangeSpec := { name := "fnStopTokenCountersOnlyAtBackquote", fn := fun _ => fun
  | [d1, d2, d3, d4, d5] => { results := [.lit (.bool true)], args := [d1, d2, d3, d4, d5] }
  | _ => none }
def fnStopTokenCountersOnlyAtBackquoteRow : OpenClaim := { program := "ytagbccphgiegeaa", sum := "681d993c3fab1c42501db4707ded680fa4457b5b5119911d916943eba12fce42", func := "mvdan.cc/sh/v3/n010_29.FnStopTokenCountersOnlyAtBackquote", spec := "fnStopTokenCountersOnlyAtBackquote", apart := false }
def FnStopTokenCountersOnlyAtBackquoteSaid : Prop := fnStopTokenCountersOnlyAtBackquoteRow.holds Try.pinned (OpenSpec.ofChange fnStopTokenCountersOnlyAtBackquoteSpec)

/-- ITS FALSE NEIGHBOUR: 'it returns false'. Refute it at one input. -/
def fnStopTokenCountersOnlyAtBackquoteWrong : ChangeSpec := { name := "fnStopTokenCountersOnlyAtBackquote", fn := fun _ => fun
  | [d1, d2, d3, d4, d5] => { results := [.lit (.bool false)], args := [d1, d2, d3, d4, d5] }
  | _ => none }
def FnStopTokenCountersOnlyAtBackquoteWrongFalsely : Prop := fnStopTokenCountersOnlyAtBackquoteRow.holds Try.pinned (OpenSpec.ofChange fnStopTokenCountersOnlyAtBackquoteWrong)

/-- 'n010_3.FnIsKeywordShapeAndCase': WHATEVER THE INPUT: true; the input reads as it did. -/
def fnIsKeywordShapeAndCaseSpec : ChangeSpec := { name := "fnIsKeywordShapeAndCase", fn := fun _ => fun
  | [d] => { results := [.lit (.bool true)], args := [d] }
  | _ => none }
def fnIsKeywordShapeAndCaseRow : OpenClaim := { program := "ytagbccphgiegeaa", sum := "681d993c3fab1c42501db4707ded680fa4457b5b5119911d916943eba12fce42", func := "mvdan.cc/sh/v3/n010_3.FnIsKeywordShapeAndCase", spec := "fnIsKeywordShapeAndCase", apart := false }
def FnIsKeywordShapeAndCaseSaid : Prop := fnIsKeywordShapeAndCaseRow.holds Try.pinned (OpenSpec.ofChange fnIsKeywordShapeAndCaseSpec)

/-- ITS FALSE NEIGHBOUR: 'it returns false'. Refute it at one input. -/
def fnIsKeywordShapeAndCaseWrong : ChangeSpec := { name := "fnIsKeywordShapeAndCase", fn := fun _ => fun
  | [d] => { results := [.lit (.bool false)], args := [d] }
  | _ => none }
def FnIsKeywordShapeAndCaseWrongFalsely : Prop := fnIsKeywordShapeAndCaseRow.holds Try.pinned (OpenSpec.ofChange fnIsKeywordShapeAndCaseWrong)

/-- 'n010_3.FnLangStringInjective': WHATEVER THE INPUT: true; the input reads as it did. -/
def fnLangStringInjectiveSpec : ChangeSpec := { name := "fnLangStringInjective", fn := fun _ => fun
  | [d1, d2] => { results := [.lit (.bool true)], args := [d1, d2] }
  | _ => none }
def fnLangStringInjectiveRow : OpenClaim := { program := "ytagbccphgiegeaa", sum := "681d993c3fab1c42501db4707ded680fa4457b5b5119911d916943eba12fce42", func := "mvdan.cc/sh/v3/n010_3.FnLangStringInjective", spec := "fnLangStringInjective", apart := false }
def FnLangStringInjectiveSaid : Prop := fnLangStringInjectiveRow.holds Try.pinned (OpenSpec.ofChange fnLangStringInjectiveSpec)

/-- ITS FALSE NEIGHBOUR: 'it returns false'. Refute it at one input. -/
def fnLangStringInjectiveWrong : ChangeSpec := { name := "fnLangStringInjective", fn := fun _ => fun
  | [d1, d2] => { results := [.lit (.bool false)], args := [d1, d2] }
  | _ => none }
def FnLangStringInjectiveWrongFalsely : Prop := fnLangStringInjectiveRow.holds Try.pinned (OpenSpec.ofChange fnLangStringInjectiveWrong)

/- THE SECOND FORM. 'bulk': how many values and letters a reading holds, each counted each time it is reached (what is shared counts as often as it is met; a slice's spare places count too). A statement '..UptoSaid' is the law's where the arguments, and the package variables that the reading takes, are together of bulk at most 1048576: NARROWER than '..Said'. Prove '..Said' where nothing that the law and all that it calls make is longer than what came in: it says more and counts as full. Else prove '..UptoSaid'. A law counts once. -/
mutual
def uptoBulk {H : Type} : DataW H → Nat
  | .lit (.string bytes) => bytes.length + 1
  | .lit _ => 1
  | .nil => 1
  | .ptr d => uptoBulk d + 1
  | .slice elems spare => uptoBulkAll elems + uptoBulkAll spare + 1
  | .agg parts => uptoBulkAll parts + 1
  | .iface _ d => uptoBulk d + 1
  | .map entries => uptoBulkEntries entries + 1
  | .held _ => 1
def uptoBulkAll {H : Type} : List (DataW H) → Nat
  | [] => 0
  | d :: r => uptoBulk d + uptoBulkAll r
def uptoBulkEntries {H : Type} : List (Lit × DataW H) → Nat
  | [] => 0
  | x :: r => uptoBulkEntry x + uptoBulkEntries r
def uptoBulkEntry {H : Type} : Lit × DataW H → Nat
  | (.string bytes, d) => bytes.length + uptoBulk d + 1
  | (_, d) => uptoBulk d + 1
 end
def uptoSmall : (H : Type) → List (DataW H) → Bool := fun _ ds => decide (uptoBulkAll ds ≤ 1048576)
def OpenSpec.upto (s : _root_.Go.ChangeSpec) : _root_.Go.OpenSpec := { _root_.Go.OpenSpec.ofChange s with cond := some uptoSmall }

/-- 'n010_42.FnParamNameRuneTable', WHERE WHAT IT READS IS OF BULK AT MOST 1048576: true; the input reads as it did. -/
def fnParamNameRuneTableUptoRow : OpenClaim := { program := "ytagbccphgiegeaa", sum := "681d993c3fab1c42501db4707ded680fa4457b5b5119911d916943eba12fce42", func := "mvdan.cc/sh/v3/n010_42.FnParamNameRuneTable", spec := "fnParamNameRuneTable", apart := false, narrowed := true }
def FnParamNameRuneTableUptoSaid : Prop := fnParamNameRuneTableUptoRow.holds Try.pinned (OpenSpec.upto fnParamNameRuneTableSpec)

/-- 'n010_42.FnParamNameStartRuneTable', WHERE WHAT IT READS IS OF BULK AT MOST 1048576: true; the input reads as it did. -/
def fnParamNameStartRuneTableUptoRow : OpenClaim := { program := "ytagbccphgiegeaa", sum := "681d993c3fab1c42501db4707ded680fa4457b5b5119911d916943eba12fce42", func := "mvdan.cc/sh/v3/n010_42.FnParamNameStartRuneTable", spec := "fnParamNameStartRuneTable", apart := false, narrowed := true }
def FnParamNameStartRuneTableUptoSaid : Prop := fnParamNameStartRuneTableUptoRow.holds Try.pinned (OpenSpec.upto fnParamNameStartRuneTableSpec)

/-- 'n010_42.FnSingleRuneParamTable', WHERE WHAT IT READS IS OF BULK AT MOST 1048576: true; the input reads as it did. -/
def fnSingleRuneParamTableUptoRow : OpenClaim := { program := "ytagbccphgiegeaa", sum := "681d993c3fab1c42501db4707ded680fa4457b5b5119911d916943eba12fce42", func := "mvdan.cc/sh/v3/n010_42.FnSingleRuneParamTable", spec := "fnSingleRuneParamTable", apart := false, narrowed := true }
def FnSingleRuneParamTableUptoSaid : Prop := fnSingleRuneParamTableUptoRow.holds Try.pinned (OpenSpec.upto fnSingleRuneParamTableSpec)

/-- 'n010_29.FnStopTokenCountersOnlyAtBackquote', WHERE WHAT IT READS IS OF BULK AT MOST 1048576: true; the input reads as it did. -/
def fnStopTokenCountersOnlyAtBackquoteUptoRow : OpenClaim := { program := "ytagbccphgiegeaa", sum := "681d993c3fab1c42501db4707ded680fa4457b5b5119911d916943eba12fce42", func := "mvdan.cc/sh/v3/n010_29.FnStopTokenCountersOnlyAtBackquote", spec := "fnStopTokenCountersOnlyAtBackquote", apart := false, narrowed := true }
def FnStopTokenCountersOnlyAtBackquoteUptoSaid : Prop := fnStopTokenCountersOnlyAtBackquoteUptoRow.holds Try.pinned (OpenSpec.upto fnStopTokenCountersOnlyAtBackquoteSpec)

/-- 'n010_3.FnIsKeywordShapeAndCase', WHERE WHAT IT READS IS OF BULK AT MOST 1048576: true; the input reads as it did. -/
def fnIsKeywordShapeAndCaseUptoRow : OpenClaim := { program := "ytagbccphgiegeaa", sum := "681d993c3fab1c42501db4707ded680fa4457b5b5119911d916943eba12fce42", func := "mvdan.cc/sh/v3/n010_3.FnIsKeywordShapeAndCase", spec := "fnIsKeywordShapeAndCase", apart := false, narrowed := true }
def FnIsKeywordShapeAndCaseUptoSaid : Prop := fnIsKeywordShapeAndCaseUptoRow.holds Try.pinned (OpenSpec.upto fnIsKeywordShapeAndCaseSpec)

/-- 'n010_3.FnLangStringInjective', WHERE WHAT IT READS IS OF BULK AT MOST 1048576: true; the input reads as it did. -/
def fnLangStringInjectiveUptoRow : OpenClaim := { program := "ytagbccphgiegeaa", sum := "681d993c3fab1c42501db4707ded680fa4457b5b5119911d916943eba12fce42", func := "mvdan.cc/sh/v3/n010_3.FnLangStringInjective", spec := "fnLangStringInjective", apart := false, narrowed := true }
def FnLangStringInjectiveUptoSaid : Prop := fnLangStringInjectiveUptoRow.holds Try.pinned (OpenSpec.upto fnLangStringInjectiveSpec)

end Rows
end Go.Proofs.Ytagbccphgiegeaa
