/-
  No cell of these rows narrows 'for every input' (looked for: loops, veiled, ifaces, maps, wideKeys, modest, calm, conditions, laid).
  DERIVED. THE GIVEN ROWS OF THIS SEAT. 6 by the template 'for every input the law returns true; each argument reads behind the call as it read before'; 0 by the template 'total and deterministic' (their statements: YtjpimejjbiemgaaTotals.lean).
  GIVEN WITH THE SEED: the statements are not yours to turn. If you find one false, say at which input.
  Laid BY PROGRAM, IN A SANDBOX (cutbox-rows.mjs): the forced cells as the released guide's own fill.sh prints them over the translation 2c5f992f4546984a… (all of the seat's roots in one cut). By AI agents, Wed Nov 11 2026. No macro, syntax, notation, axiom, sorry.
-/
import Derived.Test.YtjpimejjbiemgaaChecked
import GoSem.Claim
import GoSem.ClaimJoined
import GoSem.ClaimMapViews
import Derived.JoinedTies
import Derived.KernelRfl
namespace Go.Proofs.Ytjpimejjbiemgaa
/- THE CELL 'sum', in the pinned program and in every row, IS THE sha256 OF THE DUMP (.gsa) THAT YtjpimejjbiemgaaProg.lean LOADS. Nothing in Lean hashes anything: it is a label: what it is worth is what the hold of that sum in a sandbox is worth. -/
noncomputable def Try.pinned : Pinned := { name := "ytjpimejjbiemgaa", sum := "2c5f992f4546984a35506c3c13f281561e1ec5c812a941a451c609588c579909", checked := Try.checked }
namespace Rows
def none {H : Type} : Left H := { results := [], args := [] }

/-- 'n010_31.FnPositionalRuneParamAgreesWithNumberLiteral': WHATEVER THE INPUT: true; the input reads as it did. -/
def fnPositionalRuneParamAgreesWithNumberLiteralSpec : ChangeSpec := { name := "fnPositionalRuneParamAgreesWithNumberLiteral", fn := fun _ => fun
  | [d1, d2] => { results := [.lit (.bool true)], args := [d1, d2] }
  | _ => none }
def fnPositionalRuneParamAgreesWithNumberLiteralRow : OpenClaim := { program := "ytjpimejjbiemgaa", sum := "2c5f992f4546984a35506c3c13f281561e1ec5c812a941a451c609588c579909", func := "mvdan.cc/sh/v3/n010_31.FnPositionalRuneParamAgreesWithNumberLiteral", spec := "fnPositionalRuneParamAgreesWithNumberLiteral", apart := false }
def FnPositionalRuneParamAgreesWithNumberLiteralSaid : Prop := fnPositionalRuneParamAgreesWithNumberLiteralRow.holds Try.pinned (OpenSpec.ofChange fnPositionalRuneParamAgreesWithNumberLiteralSpec)

/-- ITS FALSE NEIGHBOUR: 'it returns false'. Refute it at one input. -/
def fnPositionalRuneParamAgreesWithNumberLiteralWrong : ChangeSpec := { name := "fnPositionalRuneParamAgreesWithNumberLiteral", fn := fun _ => fun
  | [d1, d2] => { results := [.lit (.bool false)], args := [d1, d2] }
  | _ => none }
def FnPositionalRuneParamAgreesWithNumberLiteralWrongFalsely : Prop := fnPositionalRuneParamAgreesWithNumberLiteralRow.holds Try.pinned (OpenSpec.ofChange fnPositionalRuneParamAgreesWithNumberLiteralWrong)

/-- 'n010_25.FnIsHexCaseFoldAndRange': WHATEVER THE INPUT: true; the input reads as it did. -/
def fnIsHexCaseFoldAndRangeSpec : ChangeSpec := { name := "fnIsHexCaseFoldAndRange", fn := fun _ => fun
  | [d] => { results := [.lit (.bool true)], args := [d] }
  | _ => none }
def fnIsHexCaseFoldAndRangeRow : OpenClaim := { program := "ytjpimejjbiemgaa", sum := "2c5f992f4546984a35506c3c13f281561e1ec5c812a941a451c609588c579909", func := "mvdan.cc/sh/v3/n010_25.FnIsHexCaseFoldAndRange", spec := "fnIsHexCaseFoldAndRange", apart := false }
def FnIsHexCaseFoldAndRangeSaid : Prop := fnIsHexCaseFoldAndRangeRow.holds Try.pinned (OpenSpec.ofChange fnIsHexCaseFoldAndRangeSpec)

/-- ITS FALSE NEIGHBOUR: 'it returns false'. Refute it at one input. -/
def fnIsHexCaseFoldAndRangeWrong : ChangeSpec := { name := "fnIsHexCaseFoldAndRange", fn := fun _ => fun
  | [d] => { results := [.lit (.bool false)], args := [d] }
  | _ => none }
def FnIsHexCaseFoldAndRangeWrongFalsely : Prop := fnIsHexCaseFoldAndRangeRow.holds Try.pinned (OpenSpec.ofChange fnIsHexCaseFoldAndRangeWrong)

/-- 'n010_31.FnIsLitRedirMatchesGrammar': WHATEVER THE INPUT: true; the input reads as it did. -/
def fnIsLitRedirMatchesGrammarSpec : ChangeSpec := { name := "fnIsLitRedirMatchesGrammar", fn := fun _ => fun
  | [d1, d2, d3] => { results := [.lit (.bool true)], args := [d1, d2, d3] }
  | _ => none }
def fnIsLitRedirMatchesGrammarRow : OpenClaim := { program := "ytjpimejjbiemgaa", sum := "2c5f992f4546984a35506c3c13f281561e1ec5c812a941a451c609588c579909", func := "mvdan.cc/sh/v3/n010_31.FnIsLitRedirMatchesGrammar", spec := "fnIsLitRedirMatchesGrammar", inPlace := ["internal/bytealg.IndexByte"], apart := false }
def FnIsLitRedirMatchesGrammarSaid : Prop := fnIsLitRedirMatchesGrammarRow.holds Try.pinned (OpenSpec.ofChange fnIsLitRedirMatchesGrammarSpec)

/-- ITS FALSE NEIGHBOUR: 'it returns false'. Refute it at one input. -/
def fnIsLitRedirMatchesGrammarWrong : ChangeSpec := { name := "fnIsLitRedirMatchesGrammar", fn := fun _ => fun
  | [d1, d2, d3] => { results := [.lit (.bool false)], args := [d1, d2, d3] }
  | _ => none }
def FnIsLitRedirMatchesGrammarWrongFalsely : Prop := fnIsLitRedirMatchesGrammarRow.holds Try.pinned (OpenSpec.ofChange fnIsLitRedirMatchesGrammarWrong)

/-- 'n010_39.FnColAddByteModel': WHATEVER THE INPUT: true; the input reads as it did. -/
def fnColAddByteModelSpec : ChangeSpec := { name := "fnColAddByteModel", fn := fun _ => fun
  | [d1, d2, d3] => { results := [.lit (.bool true)], args := [d1, d2, d3] }
  | _ => none }
def fnColAddByteModelRow : OpenClaim := { program := "ytjpimejjbiemgaa", sum := "2c5f992f4546984a35506c3c13f281561e1ec5c812a941a451c609588c579909", func := "mvdan.cc/sh/v3/n010_39.FnColAddByteModel", spec := "fnColAddByteModel", apart := false }
def FnColAddByteModelSaid : Prop := fnColAddByteModelRow.holds Try.pinned (OpenSpec.ofChange fnColAddByteModelSpec)

/-- ITS FALSE NEIGHBOUR: 'it returns false'. Refute it at one input. -/
def fnColAddByteModelWrong : ChangeSpec := { name := "fnColAddByteModel", fn := fun _ => fun
  | [d1, d2, d3] => { results := [.lit (.bool false)], args := [d1, d2, d3] }
  | _ => none }
def FnColAddByteModelWrongFalsely : Prop := fnColAddByteModelRow.holds Try.pinned (OpenSpec.ofChange fnColAddByteModelWrong)

/-- 'n010_59.FnAdvanceLineOrderFreeAndIdempotent': WHATEVER THE INPUT: true; the input reads as it did. -/
def fnAdvanceLineOrderFreeAndIdempotentSpec : ChangeSpec := { name := "fnAdvanceLineOrderFreeAndIdempotent", fn := fun _ => fun
  | [d1, d2] => { results := [.lit (.bool true)], args := [d1, d2] }
  | _ => none }
def fnAdvanceLineOrderFreeAndIdempotentRow : OpenClaim := { program := "ytjpimejjbiemgaa", sum := "2c5f992f4546984a35506c3c13f281561e1ec5c812a941a451c609588c579909", func := "mvdan.cc/sh/v3/n010_59.FnAdvanceLineOrderFreeAndIdempotent", spec := "fnAdvanceLineOrderFreeAndIdempotent", apart := false }
def FnAdvanceLineOrderFreeAndIdempotentSaid : Prop := fnAdvanceLineOrderFreeAndIdempotentRow.holds Try.pinned (OpenSpec.ofChange fnAdvanceLineOrderFreeAndIdempotentSpec)

/-- ITS FALSE NEIGHBOUR: 'it returns false'. Refute it at one input. -/
def fnAdvanceLineOrderFreeAndIdempotentWrong : ChangeSpec := { name := "fnAdvanceLineOrderFreeAndIdempotent", fn := fun _ => fun
  | [d1, d2] => { results := [.lit (.bool false)], args := [d1, d2] }
  | _ => none }
def FnAdvanceLineOrderFreeAndIdempotentWrongFalsely : Prop := fnAdvanceLineOrderFreeAndIdempotentRow.holds Try.pinned (OpenSpec.ofChange fnAdvanceLineOrderFreeAndIdempotentWrong)

/-- 'n010_31.FnEndLitReturnsTextBeforeCurrentRune': WHATEVER THE INPUT: true; the input reads as it did. -/
def fnEndLitReturnsTextBeforeCurrentRuneSpec : ChangeSpec := { name := "fnEndLitReturnsTextBeforeCurrentRune", fn := fun _ => fun
  | [d1, d2] => { results := [.lit (.bool true)], args := [d1, d2] }
  | _ => none }
def fnEndLitReturnsTextBeforeCurrentRuneRow : OpenClaim := { program := "ytjpimejjbiemgaa", sum := "2c5f992f4546984a35506c3c13f281561e1ec5c812a941a451c609588c579909", func := "mvdan.cc/sh/v3/n010_31.FnEndLitReturnsTextBeforeCurrentRune", spec := "fnEndLitReturnsTextBeforeCurrentRune", apart := false }
def FnEndLitReturnsTextBeforeCurrentRuneSaid : Prop := fnEndLitReturnsTextBeforeCurrentRuneRow.holds Try.pinned (OpenSpec.ofChange fnEndLitReturnsTextBeforeCurrentRuneSpec)

/-- ITS FALSE NEIGHBOUR: 'it returns false'. Refute it at one input. -/
def fnEndLitReturnsTextBeforeCurrentRuneWrong : ChangeSpec := { name := "fnEndLitReturnsTextBeforeCurrentRune", fn := fun _ => fun
  | [d1, d2] => { results := [.lit (.bool false)], args := [d1, d2] }
  | _ => none }
def FnEndLitReturnsTextBeforeCurrentRuneWrongFalsely : Prop := fnEndLitReturnsTextBeforeCurrentRuneRow.holds Try.pinned (OpenSpec.ofChange fnEndLitReturnsTextBeforeCurrentRuneWrong)

/- THE SECOND FORM. 'bulk': how many values and letters a reading holds, each counted each time it is reached (what is shared counts as often as it is met; a slice's spare places count too). A statement '..UptoSaid' is the law's where the arguments, and the package variables that the reading takes, are together of bulk at most 1048576: NARROWER than '..Said'. Prove '..Said' where nothing that the law and all that it calls make is longer than what came in: it says more and counts as full. Else prove '..UptoSaid'. A law counts once. -/
mutual
def uptoBulk {H : Type} : DataW H → Nat
  | .lit (.string bytes) => bytes.length + 1
  | .lit _ => 1
  | .nil => 1
  | .ptr d => uptoBulk d + 1
  | .slice elems spare => uptoBulkAll elems + uptoBulkAll spare + 1
  | .agg parts => uptoBulkAll parts + 1
  | .iface _ d => uptoBulk d + 1
  | .map entries => uptoBulkEntries entries + 1
  | .held _ => 1
def uptoBulkAll {H : Type} : List (DataW H) → Nat
  | [] => 0
  | d :: r => uptoBulk d + uptoBulkAll r
def uptoBulkEntries {H : Type} : List (Lit × DataW H) → Nat
  | [] => 0
  | x :: r => uptoBulkEntry x + uptoBulkEntries r
def uptoBulkEntry {H : Type} : Lit × DataW H → Nat
  | (.string bytes, d) => bytes.length + uptoBulk d + 1
  | (_, d) => uptoBulk d + 1
 end
def uptoSmall : (H : Type) → List (DataW H) → Bool := fun _ ds => decide (uptoBulkAll ds ≤ 1048576)
def OpenSpec.upto (s : _root_.Go.ChangeSpec) : _root_.Go.OpenSpec := { _root_.Go.OpenSpec.ofChange s with cond := some uptoSmall }

/-- 'n010_31.FnPositionalRuneParamAgreesWithNumberLiteral', WHERE WHAT IT READS IS OF BULK AT MOST 1048576: true; the input reads as it did. -/
def fnPositionalRuneParamAgreesWithNumberLiteralUptoRow : OpenClaim := { program := "ytjpimejjbiemgaa", sum := "2c5f992f4546984a35506c3c13f281561e1ec5c812a941a451c609588c579909", func := "mvdan.cc/sh/v3/n010_31.FnPositionalRuneParamAgreesWithNumberLiteral", spec := "fnPositionalRuneParamAgreesWithNumberLiteral", apart := false, narrowed := true }
def FnPositionalRuneParamAgreesWithNumberLiteralUptoSaid : Prop := fnPositionalRuneParamAgreesWithNumberLiteralUptoRow.holds Try.pinned (OpenSpec.upto fnPositionalRuneParamAgreesWithNumberLiteralSpec)

/-- 'n010_25.FnIsHexCaseFoldAndRange', WHERE WHAT IT READS IS OF BULK AT MOST 1048576: true; the input reads as it did. -/
def fnIsHexCaseFoldAndRangeUptoRow : OpenClaim := { program := "ytjpimejjbiemgaa", sum := "2c5f992f4546984a35506c3c13f281561e1ec5c812a941a451c609588c579909", func := "mvdan.cc/sh/v3/n010_25.FnIsHexCaseFoldAndRange", spec := "fnIsHexCaseFoldAndRange", apart := false, narrowed := true }
def FnIsHexCaseFoldAndRangeUptoSaid : Prop := fnIsHexCaseFoldAndRangeUptoRow.holds Try.pinned (OpenSpec.upto fnIsHexCaseFoldAndRangeSpec)

/-- 'n010_31.FnIsLitRedirMatchesGrammar', WHERE WHAT IT READS IS OF BULK AT MOST 1048576: true; the input reads as it did. -/
def fnIsLitRedirMatchesGrammarUptoRow : OpenClaim := { program := "ytjpimejjbiemgaa", sum := "2c5f992f4546984a35506c3c13f281561e1ec5c812a941a451c609588c579909", func := "mvdan.cc/sh/v3/n010_31.FnIsLitRedirMatchesGrammar", spec := "fnIsLitRedirMatchesGrammar", inPlace := ["internal/bytealg.IndexByte"], apart := false, narrowed := true }
def FnIsLitRedirMatchesGrammarUptoSaid : Prop := fnIsLitRedirMatchesGrammarUptoRow.holds Try.pinned (OpenSpec.upto fnIsLitRedirMatchesGrammarSpec)

/-- 'n010_39.FnColAddByteModel', WHERE WHAT IT READS IS OF BULK AT MOST 1048576: true; the input reads as it did. -/
def fnColAddByteModelUptoRow : OpenClaim := { program := "ytjpimejjbiemgaa", sum := "2c5f992f4546984a35506c3c13f281561e1ec5c812a941a451c609588c579909", func := "mvdan.cc/sh/v3/n010_39.FnColAddByteModel", spec := "fnColAddByteModel", apart := false, narrowed := true }
def FnColAddByteModelUptoSaid : Prop := fnColAddByteModelUptoRow.holds Try.pinned (OpenSpec.upto fnColAddByteModelSpec)

/-- 'n010_59.FnAdvanceLineOrderFreeAndIdempotent', WHERE WHAT IT READS IS OF BULK AT MOST 1048576: true; the input reads as it did. -/
def fnAdvanceLineOrderFreeAndIdempotentUptoRow : OpenClaim := { program := "ytjpimejjbiemgaa", sum := "2c5f992f4546984a35506c3c13f281561e1ec5c812a941a451c609588c579909", func := "mvdan.cc/sh/v3/n010_59.FnAdvanceLineOrderFreeAndIdempotent", spec := "fnAdvanceLineOrderFreeAndIdempotent", apart := false, narrowed := true }
def FnAdvanceLineOrderFreeAndIdempotentUptoSaid : Prop := fnAdvanceLineOrderFreeAndIdempotentUptoRow.holds Try.pinned (OpenSpec.upto fnAdvanceLineOrderFreeAndIdempotentSpec)

/-- 'n010_31.FnEndLitReturnsTextBeforeCurrentRune', WHERE WHAT IT READS IS OF BULK AT MOST 1048576: true; the input reads as it did. -/
def fnEndLitReturnsTextBeforeCurrentRuneUptoRow : OpenClaim := { program := "ytjpimejjbiemgaa", sum := "2c5f992f4546984a35506c3c13f281561e1ec5c812a941a451c609588c579909", func := "mvdan.cc/sh/v3/n010_31.FnEndLitReturnsTextBeforeCurrentRune", spec := "fnEndLitReturnsTextBeforeCurrentRune", apart := false, narrowed := true }
def FnEndLitReturnsTextBeforeCurrentRuneUptoSaid : Prop := fnEndLitReturnsTextBeforeCurrentRuneUptoRow.holds Try.pinned (OpenSpec.upto fnEndLitReturnsTextBeforeCurrentRuneSpec)

end Rows
end Go.Proofs.Ytjpimejjbiemgaa
