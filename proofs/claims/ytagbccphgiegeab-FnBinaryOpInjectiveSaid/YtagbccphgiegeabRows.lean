/-
  No cell of these rows narrows 'for every input' (looked for: loops, veiled, ifaces, maps, wideKeys, modest, calm, conditions, laid).
  DERIVED. THE GIVEN ROWS OF THIS SEAT. 6 by the template 'for every input the law returns true; each argument reads behind the call as it read before'; 0 by the template 'total and deterministic' (their statements: YtagbccphgiegeabTotals.lean).
  GIVEN WITH THE SEED: the statements are not yours to turn. If you find one false, say at which input.
  Laid BY PROGRAM, IN A SANDBOX (cutbox-rows.mjs): the forced cells as the released guide's own fill.sh prints them over the translation 31f4f6849dfaebed… (all of the seat's roots in one cut). By AI agents, Wed Nov 11 2026. No macro, syntax, notation, axiom, sorry.
-/
import Derived.Test.YtagbccphgiegeabChecked
import GoSem.Claim
import GoSem.ClaimJoined
import GoSem.ClaimMapViews
import Derived.JoinedTies
import Derived.KernelRfl
namespace Go.Proofs.Ytagbccphgiegeab
/- THE CELL 'sum', in the pinned program and in every row, IS THE sha256 OF THE DUMP (.gsa) THAT YtagbccphgiegeabProg.lean LOADS. Nothing in Lean hashes anything: it is a label: what it is worth is what the hold of that sum in a sandbox is worth. -/
noncomputable def Try.pinned : Pinned := { name := "ytagbccphgiegeab", sum := "31f4f6849dfaebed0cf518ae9b8e097f32f00048c483bb1f2ff6a6f8fef87ec7", checked := Try.checked }
namespace Rows
def none {H : Type} : Left H := { results := [], args := [] }

/-- 'n010_35.FnUnaryTestSpanOrdered': WHATEVER THE INPUT: true; the input reads as it did. -/
def fnUnaryTestSpanOrderedSpec : ChangeSpec := { name := "fnUnaryTestSpanOrdered", fn := fun _ => fun
  | [d1, d2, d3, d4] => { results := [.lit (.bool true)], args := [d1, d2, d3, d4] }
  | _ => none }
def fnUnaryTestSpanOrderedRow : OpenClaim := { program := "ytagbccphgiegeab", sum := "31f4f6849dfaebed0cf518ae9b8e097f32f00048c483bb1f2ff6a6f8fef87ec7", func := "mvdan.cc/sh/v3/n010_35.FnUnaryTestSpanOrdered", spec := "fnUnaryTestSpanOrdered", unfollowed := true, recurses := true, apart := false }
def FnUnaryTestSpanOrderedSaid : Prop := fnUnaryTestSpanOrderedRow.holds Try.pinned (OpenSpec.ofChange fnUnaryTestSpanOrderedSpec)

/-- ITS FALSE NEIGHBOUR: 'it returns false'. Refute it at one input. -/
def fnUnaryTestSpanOrderedWrong : ChangeSpec := { name := "fnUnaryTestSpanOrdered", fn := fun _ => fun
  | [d1, d2, d3, d4] => { results := [.lit (.bool false)], args := [d1, d2, d3, d4] }
  | _ => none }
def FnUnaryTestSpanOrderedWrongFalsely : Prop := fnUnaryTestSpanOrderedRow.holds Try.pinned (OpenSpec.ofChange fnUnaryTestSpanOrderedWrong)

/-- 'n010_33.FnSubshellSpansForward': WHATEVER THE INPUT: true; the input reads as it did. -/
def fnSubshellSpansForwardSpec : ChangeSpec := { name := "fnSubshellSpansForward", fn := fun _ => fun
  | [d1, d2, d3, d4] => { results := [.lit (.bool true)], args := [d1, d2, d3, d4] }
  | _ => none }
def fnSubshellSpansForwardRow : OpenClaim := { program := "ytagbccphgiegeab", sum := "31f4f6849dfaebed0cf518ae9b8e097f32f00048c483bb1f2ff6a6f8fef87ec7", func := "mvdan.cc/sh/v3/n010_33.FnSubshellSpansForward", spec := "fnSubshellSpansForward", apart := false }
def FnSubshellSpansForwardSaid : Prop := fnSubshellSpansForwardRow.holds Try.pinned (OpenSpec.ofChange fnSubshellSpansForwardSpec)

/-- ITS FALSE NEIGHBOUR: 'it returns false'. Refute it at one input. -/
def fnSubshellSpansForwardWrong : ChangeSpec := { name := "fnSubshellSpansForward", fn := fun _ => fun
  | [d1, d2, d3, d4] => { results := [.lit (.bool false)], args := [d1, d2, d3, d4] }
  | _ => none }
def FnSubshellSpansForwardWrongFalsely : Prop := fnSubshellSpansForwardRow.holds Try.pinned (OpenSpec.ofChange fnSubshellSpansForwardWrong)

/-- 'n010_33.FnSubshellBlockAgree': WHATEVER THE INPUT: true; the input reads as it did. -/
def fnSubshellBlockAgreeSpec : ChangeSpec := { name := "fnSubshellBlockAgree", fn := fun _ => fun
  | [d1, d2, d3, d4] => { results := [.lit (.bool true)], args := [d1, d2, d3, d4] }
  | _ => none }
def fnSubshellBlockAgreeRow : OpenClaim := { program := "ytagbccphgiegeab", sum := "31f4f6849dfaebed0cf518ae9b8e097f32f00048c483bb1f2ff6a6f8fef87ec7", func := "mvdan.cc/sh/v3/n010_33.FnSubshellBlockAgree", spec := "fnSubshellBlockAgree", apart := false }
def FnSubshellBlockAgreeSaid : Prop := fnSubshellBlockAgreeRow.holds Try.pinned (OpenSpec.ofChange fnSubshellBlockAgreeSpec)

/-- ITS FALSE NEIGHBOUR: 'it returns false'. Refute it at one input. -/
def fnSubshellBlockAgreeWrong : ChangeSpec := { name := "fnSubshellBlockAgree", fn := fun _ => fun
  | [d1, d2, d3, d4] => { results := [.lit (.bool false)], args := [d1, d2, d3, d4] }
  | _ => none }
def FnSubshellBlockAgreeWrongFalsely : Prop := fnSubshellBlockAgreeRow.holds Try.pinned (OpenSpec.ofChange fnSubshellBlockAgreeWrong)

/-- 'n010_3.FnBinaryOpInjective': WHATEVER THE INPUT: true; the input reads as it did. -/
def fnBinaryOpInjectiveSpec : ChangeSpec := { name := "fnBinaryOpInjective", fn := fun _ => fun
  | [d1, d2] => { results := [.lit (.bool true)], args := [d1, d2] }
  | _ => none }
def fnBinaryOpInjectiveRow : OpenClaim := { program := "ytagbccphgiegeab", sum := "31f4f6849dfaebed0cf518ae9b8e097f32f00048c483bb1f2ff6a6f8fef87ec7", func := "mvdan.cc/sh/v3/n010_3.FnBinaryOpInjective", spec := "fnBinaryOpInjective", apart := false }
def FnBinaryOpInjectiveSaid : Prop := fnBinaryOpInjectiveRow.holds Try.pinned (OpenSpec.ofChange fnBinaryOpInjectiveSpec)

/-- ITS FALSE NEIGHBOUR: 'it returns false'. Refute it at one input. -/
def fnBinaryOpInjectiveWrong : ChangeSpec := { name := "fnBinaryOpInjective", fn := fun _ => fun
  | [d1, d2] => { results := [.lit (.bool false)], args := [d1, d2] }
  | _ => none }
def FnBinaryOpInjectiveWrongFalsely : Prop := fnBinaryOpInjectiveRow.holds Try.pinned (OpenSpec.ofChange fnBinaryOpInjectiveWrong)

/-- 'n010_35.FnParenTestSpanNonEmpty': WHATEVER THE INPUT: true; the input reads as it did. -/
def fnParenTestSpanNonEmptySpec : ChangeSpec := { name := "fnParenTestSpanNonEmpty", fn := fun _ => fun
  | [d1, d2, d3, d4] => { results := [.lit (.bool true)], args := [d1, d2, d3, d4] }
  | _ => none }
def fnParenTestSpanNonEmptyRow : OpenClaim := { program := "ytagbccphgiegeab", sum := "31f4f6849dfaebed0cf518ae9b8e097f32f00048c483bb1f2ff6a6f8fef87ec7", func := "mvdan.cc/sh/v3/n010_35.FnParenTestSpanNonEmpty", spec := "fnParenTestSpanNonEmpty", apart := false }
def FnParenTestSpanNonEmptySaid : Prop := fnParenTestSpanNonEmptyRow.holds Try.pinned (OpenSpec.ofChange fnParenTestSpanNonEmptySpec)

/-- ITS FALSE NEIGHBOUR: 'it returns false'. Refute it at one input. -/
def fnParenTestSpanNonEmptyWrong : ChangeSpec := { name := "fnParenTestSpanNonEmpty", fn := fun _ => fun
  | [d1, d2, d3, d4] => { results := [.lit (.bool false)], args := [d1, d2, d3, d4] }
  | _ => none }
def FnParenTestSpanNonEmptyWrongFalsely : Prop := fnParenTestSpanNonEmptyRow.holds Try.pinned (OpenSpec.ofChange fnParenTestSpanNonEmptyWrong)

/-- 'n010_29.FnBackquoteEndMonotone': WHATEVER THE INPUT: true; the input reads as it did. -/
def fnBackquoteEndMonotoneSpec : ChangeSpec := { name := "fnBackquoteEndMonotone", fn := fun _ => fun
  | [d1, d2] => { results := [.lit (.bool true)], args := [d1, d2] }
  | _ => none }
def fnBackquoteEndMonotoneRow : OpenClaim := { program := "ytagbccphgiegeab", sum := "31f4f6849dfaebed0cf518ae9b8e097f32f00048c483bb1f2ff6a6f8fef87ec7", func := "mvdan.cc/sh/v3/n010_29.FnBackquoteEndMonotone", spec := "fnBackquoteEndMonotone", apart := false }
def FnBackquoteEndMonotoneSaid : Prop := fnBackquoteEndMonotoneRow.holds Try.pinned (OpenSpec.ofChange fnBackquoteEndMonotoneSpec)

/-- ITS FALSE NEIGHBOUR: 'it returns false'. Refute it at one input. -/
def fnBackquoteEndMonotoneWrong : ChangeSpec := { name := "fnBackquoteEndMonotone", fn := fun _ => fun
  | [d1, d2] => { results := [.lit (.bool false)], args := [d1, d2] }
  | _ => none }
def FnBackquoteEndMonotoneWrongFalsely : Prop := fnBackquoteEndMonotoneRow.holds Try.pinned (OpenSpec.ofChange fnBackquoteEndMonotoneWrong)

/- THE SECOND FORM. 'bulk': how many values and letters a reading holds, each counted each time it is reached (what is shared counts as often as it is met; a slice's spare places count too). A statement '..UptoSaid' is the law's where the arguments, and the package variables that the reading takes, are together of bulk at most 1048576: NARROWER than '..Said'. Prove '..Said' where nothing that the law and all that it calls make is longer than what came in: it says more and counts as full. Else prove '..UptoSaid'. A law counts once. -/
mutual
def uptoBulk {H : Type} : DataW H → Nat
  | .lit (.string bytes) => bytes.length + 1
  | .lit _ => 1
  | .nil => 1
  | .ptr d => uptoBulk d + 1
  | .slice elems spare => uptoBulkAll elems + uptoBulkAll spare + 1
  | .agg parts => uptoBulkAll parts + 1
  | .iface _ d => uptoBulk d + 1
  | .map entries => uptoBulkEntries entries + 1
  | .held _ => 1
def uptoBulkAll {H : Type} : List (DataW H) → Nat
  | [] => 0
  | d :: r => uptoBulk d + uptoBulkAll r
def uptoBulkEntries {H : Type} : List (Lit × DataW H) → Nat
  | [] => 0
  | x :: r => uptoBulkEntry x + uptoBulkEntries r
def uptoBulkEntry {H : Type} : Lit × DataW H → Nat
  | (.string bytes, d) => bytes.length + uptoBulk d + 1
  | (_, d) => uptoBulk d + 1
 end
def uptoSmall : (H : Type) → List (DataW H) → Bool := fun _ ds => decide (uptoBulkAll ds ≤ 1048576)
def OpenSpec.upto (s : _root_.Go.ChangeSpec) : _root_.Go.OpenSpec := { _root_.Go.OpenSpec.ofChange s with cond := some uptoSmall }

/-- 'n010_35.FnUnaryTestSpanOrdered', WHERE WHAT IT READS IS OF BULK AT MOST 1048576: true; the input reads as it did. -/
def fnUnaryTestSpanOrderedUptoRow : OpenClaim := { program := "ytagbccphgiegeab", sum := "31f4f6849dfaebed0cf518ae9b8e097f32f00048c483bb1f2ff6a6f8fef87ec7", func := "mvdan.cc/sh/v3/n010_35.FnUnaryTestSpanOrdered", spec := "fnUnaryTestSpanOrdered", unfollowed := true, recurses := true, apart := false, narrowed := true }
def FnUnaryTestSpanOrderedUptoSaid : Prop := fnUnaryTestSpanOrderedUptoRow.holds Try.pinned (OpenSpec.upto fnUnaryTestSpanOrderedSpec)

/-- 'n010_33.FnSubshellSpansForward', WHERE WHAT IT READS IS OF BULK AT MOST 1048576: true; the input reads as it did. -/
def fnSubshellSpansForwardUptoRow : OpenClaim := { program := "ytagbccphgiegeab", sum := "31f4f6849dfaebed0cf518ae9b8e097f32f00048c483bb1f2ff6a6f8fef87ec7", func := "mvdan.cc/sh/v3/n010_33.FnSubshellSpansForward", spec := "fnSubshellSpansForward", apart := false, narrowed := true }
def FnSubshellSpansForwardUptoSaid : Prop := fnSubshellSpansForwardUptoRow.holds Try.pinned (OpenSpec.upto fnSubshellSpansForwardSpec)

/-- 'n010_33.FnSubshellBlockAgree', WHERE WHAT IT READS IS OF BULK AT MOST 1048576: true; the input reads as it did. -/
def fnSubshellBlockAgreeUptoRow : OpenClaim := { program := "ytagbccphgiegeab", sum := "31f4f6849dfaebed0cf518ae9b8e097f32f00048c483bb1f2ff6a6f8fef87ec7", func := "mvdan.cc/sh/v3/n010_33.FnSubshellBlockAgree", spec := "fnSubshellBlockAgree", apart := false, narrowed := true }
def FnSubshellBlockAgreeUptoSaid : Prop := fnSubshellBlockAgreeUptoRow.holds Try.pinned (OpenSpec.upto fnSubshellBlockAgreeSpec)

/-- 'n010_3.FnBinaryOpInjective', WHERE WHAT IT READS IS OF BULK AT MOST 1048576: true; the input reads as it did. -/
def fnBinaryOpInjectiveUptoRow : OpenClaim := { program := "ytagbccphgiegeab", sum := "31f4f6849dfaebed0cf518ae9b8e097f32f00048c483bb1f2ff6a6f8fef87ec7", func := "mvdan.cc/sh/v3/n010_3.FnBinaryOpInjective", spec := "fnBinaryOpInjective", apart := false, narrowed := true }
def FnBinaryOpInjectiveUptoSaid : Prop := fnBinaryOpInjectiveUptoRow.holds Try.pinned (OpenSpec.upto fnBinaryOpInjectiveSpec)

/-- 'n010_35.FnParenTestSpanNonEmpty', WHERE WHAT IT READS IS OF BULK AT MOST 1048576: true; the input reads as it did. -/
def fnParenTestSpanNonEmptyUptoRow : OpenClaim := { program := "ytagbccphgiegeab", sum := "31f4f6849dfaebed0cf518ae9b8e097f32f00048c483bb1f2ff6a6f8fef87ec7", func := "mvdan.cc/sh/v3/n010_35.FnParenTestSpanNonEmpty", spec := "fnParenTestSpanNonEmpty", apart := false, narrowed := true }
def FnParenTestSpanNonEmptyUptoSaid : Prop := fnParenTestSpanNonEmptyUptoRow.holds Try.pinned (OpenSpec.upto fnParenTestSpanNonEmptySpec)

/-- 'n010_29.FnBackquoteEndMonotone', WHERE WHAT IT READS IS OF BULK AT MOST 1048576: true; the input reads as it did. -/
def fnBackquoteEndMonotoneUptoRow : OpenClaim := { program := "ytagbccphgiegeab", sum := "31f4f6849dfaebed0cf518ae9b8e097f32f00048c483bb1f2ff6a6f8fef87ec7", func := "mvdan.cc/sh/v3/n010_29.FnBackquoteEndMonotone", spec := "fnBackquoteEndMonotone", apart := false, narrowed := true }
def FnBackquoteEndMonotoneUptoSaid : Prop := fnBackquoteEndMonotoneUptoRow.holds Try.pinned (OpenSpec.upto fnBackquoteEndMonotoneSpec)

end Rows
end Go.Proofs.Ytagbccphgiegeab
