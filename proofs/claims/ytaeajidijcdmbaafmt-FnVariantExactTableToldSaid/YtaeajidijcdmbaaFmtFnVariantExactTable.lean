/-
  The law FnVariantExactTable returns true for every input (a told card; no way of it comes to fmt). No conditions beyond the row's own.
  (The frame below the walk follows the guide's worked told rows.)
-/
import Derived.Test.YtaeajidijcdmbaaFmtCards
import Derived.Test.YtaeajidijcdmbaaFmtVar
import Derived.WalkKit
import Derived.ProofKit
import Derived.OpenShut
import Derived.ShutString
import Derived.ChangeOld
import Derived.Below
import Derived.Stop.JoinedAt
import Derived.Stop.Texts
import Derived.Stop.JoinedTold
import Derived.SevenToldRow
namespace Go.Proofs.YtaeajidijcdmbaaFmt.fnVariantExactTable
open Go.ChangeShapes Go.WideShapes Go.ChangeAt Go.RowKit Go.Kit
open Go.ChangeMaps (open_string shut_string)
open Go.Extern.Stop Go.Stop Go.Extern
set_option linter.unusedVariables false

theorem own : ownKnob Tryf.prog.godebug = none := by kernel_rfl
theorem laidOut : laidOutB Tryf.prog = true := by kernel_rfl
def IsRow (k : IntKind) (w : World) (a : Option Addr) (len cap : Nat) (zs : List Int) : Prop :=
  (a = none ∧ len = 0 ∧ cap = 0 ∧ zs = []) ∨
  ∃ x, a = some x ∧ len ≤ cap ∧ cap ≤ maxLen ∧ zs.length = cap ∧ (∀ i, i < zs.length → w.cell? (x.add i) = some (.int k (zs.getD i 0))) ∧ ∀ n ∈ zs, (Lit.int k n).wf = true

theorem walk (F : Interp) (a0 : Int) (w : World) (hF : F.answers w.tape) (w0 : (Lit.int .i64 a0).wf = true) :
    Calls Tryf.prog 3 #[.int .i64 a0] w fun e w' => e = .returned (.bool true) ∧ Below w.heap.size w w' := by
  exact var_law a0 w (by have := bounds_i64 w0; omega)

set_option maxRecDepth 100000 in
theorem lifted (os : Os) (started : os.Started) (H : Type) (enc : TypeId × Value → H) :
    ReturnsInTold none {} Tryf.checked os 3 .any Input.okWide ((OpenSpec.ofChange Rows.fnVariantExactTableSpec).preRow enc Tryf.prog Tryf.f3 [] false []) (fun F => ((OpenSpec.ofChange Rows.fnVariantExactTableSpec).at F).post enc Tryf.prog Tryf.f3 false true false false) (aloneAtReturn Tryf.prog) nothingAlways := by
  refine returnsInTold_of_row (C := Tryf.checked) (s := OpenSpec.ofChange Rows.fnVariantExactTableSpec) (by kernel_rfl) own started (by kernel_rfl) Tryf.func3
    (OpenSpec.witness_stopped (enc := enc) (C := Tryf.checked) false ⟨#[], #[.int .i64 0], []⟩ 8 (by kernel_rfl) (by kernel_rfl) (by kernel_rfl) (by kernel_rfl)) ?_
  intro F W base args ds gs before _ hF hval0 hW _ _ _ _ _
  have hval : ∀ (j : Nat) t v, Tryf.f3.params[j]? = some t → args[j]? = some v → Value.okWide Tryf.prog W .any base t v := hval0
  have hW' := hW
  obtain ⟨p, q, hA0, hV, rfl, hfz, hnd⟩ := hW
  have hA : DataW.TrodAll enc Tryf.prog W 0 (fun _ => true) true Tryf.f3.params.toList args.toList ds p := hA0
  rw [Tryf.params3] at hA hval
  obtain ⟨v0, vs0, d0, ds0, p0, q0, hargs, rfl, rfl, h0, r0⟩ := trodAll_cons hA
  obtain ⟨rfl, rfl, rfl⟩ := trodAll_nil r0
  obtain rfl : args = #[v0] := by cases args; simp_all
  obtain ⟨rfl, rfl⟩ := trodVars_none hV
  obtain ⟨a0, rfl, rfl, rfl, w0⟩ := open_int Tryf.underlying3 (hval 0 3 v0 rfl rfl) h0
  clear hA0 hval0
  refine (walk F.told a0 W hF w0).mono fun e W' ⟨he, bel⟩ => ?_
  subst he
  exact ⟨_, rfl, _, _, _, [], _, [], hW', trodAll_mk1 (shut_bool Tryf.underlying4 _), (trodAll_cons_mk (shut_int Tryf.underlying3 w0) trodAll_mk0), rfl, bel.frame _, fun h => by cases h⟩

theorem stops : Tryf.pinned.checked.prog.stops = ["fmt.Sprintf, its operands' methods called", "fmt.errorf"] := by kernel_rfl
theorem stopKnobs : Tryf.pinned.checked.prog.stopKnobs = [] := by kernel_rfl
theorem quiet (os : Os) : Stop.quiet Tryf.pinned.checked.prog os := by
  intro k hk
  rw [stopKnobs] at hk
  cases hk

/-- THE STATEMENT -/
theorem proved : Rows.FnVariantExactTableToldSaid :=
  Claim7.holds_of_told_any 3 Tryf.f3 "fmt.Sprintf, its operands' methods called" ["fmt.errorf"] [] _ _ _ (by kernel_rfl) rfl rfl rfl laidOut (by kernel_rfl) rfl ⟨rfl, rfl, rfl, rfl, rfl, rfl, rfl⟩ rfl rfl (by kernel_rfl) (by kernel_rfl) Tryf.func3 (by kernel_rfl)
    (of_decide_eq_true (by kernel_rfl)) (by unfold Func.isWrapper; first | (rw [if_pos (by decide +kernel)]; kernel_rfl) | (rw [if_neg (by decide +kernel)]; exact ⟨rfl, rfl⟩)) stops.symm rfl stopKnobs.symm (by kernel_rfl)
    (by kernel_rfl) (by kernel_rfl) (by kernel_rfl) (by kernel_rfl) (by kernel_rfl) (by kernel_rfl) (by kernel_rfl) (by kernel_rfl) (by kernel_rfl) rfl (by kernel_rfl) rfl rfl
    rfl rfl
    rfl (by kernel_rfl) (by kernel_rfl) (by kernel_rfl) (by decide) (by kernel_rfl)
    (OpenClaim.moreEntering_of (by kernel_rfl) (by kernel_rfl) (by kernel_rfl) (by kernel_rfl) (by kernel_rfl) (by kernel_rfl) (by kernel_rfl) (by kernel_rfl) (by kernel_rfl) (by kernel_rfl))
    ⟨_, WideRow.started_initial, quiet _⟩
    (fun os started _ H enc _ => lifted os started H enc)
#print axioms proved
end Go.Proofs.YtaeajidijcdmbaaFmt.fnVariantExactTable
