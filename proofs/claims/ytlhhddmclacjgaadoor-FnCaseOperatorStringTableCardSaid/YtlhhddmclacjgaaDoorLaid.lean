/- What the listed datum of the token index table gives a walk: every cell of the table; and how the table reads. -/
import Derived.Test.YtlhhddmclacjgaaDoorRows
import Derived.Test.YtlhhddmclacjgaaDoorWalk
import Derived.ProofKit
import Derived.LaidMore
import Derived.OpenShut
import Derived.ChangeVars
import Derived.Stop.Joined
namespace Go.Proofs.YtlhhddmclacjgaaDoor
open Go.ChangeShapes Go.WideShapes Go.ChangeAt Go.RowKit
set_option linter.unusedVariables false
set_option maxRecDepth 100000

theorem own : ownKnob Tryd.prog.godebug = none := by kernel_rfl
theorem gTok : Tryd.prog.globalNamed "mvdan.cc/sh/v3/syntax._token_index" = some 0 := by kernel_rfl
theorem tTok : (Tryd.prog.globals[0]?).map (·.type) = some 34 := by kernel_rfl
theorem c33 : Tryd.prog.cellsOf 33 = 1 := by kernel_rfl
theorem c34 : Tryd.prog.cellsOf 34 = 145 := by kernel_rfl
def cells145 : Array Value := (tab.map (Value.int .u16)).toArray
abbrev tableH {H : Type} : DataW H := .agg (tab.map fun z => .lit (.int .u16 z))
theorem laid_tok : (Rows.laid_mvdan_cc_sh_v3_syntax_token_index : DataW Unit) = tableH := by kernel_rfl
theorem tab_len : tab.length = 145 := by kernel_rfl
theorem cells_of_trod {H : Type} {enc : TypeId × Value → H} {W : World} {base fuel : Nat} {sp : Nat → Bool} {held : Bool} {cs : Array Value} {q : List MemPlace}
    (h : DataW.trod enc Tryd.prog W base sp held fuel 34 cs.toList = some (tableH, q)) : cs = cells145 := by
  obtain ⟨xs, m, rfl, hx, hlen, hn, hel⟩ := DataW.trod_array Tryd.underlying34 h
  rw [c34] at hlen
  simp only [Prod.mk.injEq, DataW.agg.injEq] at hx
  apply Array.ext'
  apply List.ext_getElem
  · rw [hlen]; simp only [cells145, List.length_map, tab_len]
  · intro i h1 h2
    have hi : i < 145 := by omega
    have e := hel i hi
    rw [c33, Nat.mul_one, List.getElem?_eq_getElem (by omega)] at e
    obtain ⟨n, e1, e2, _⟩ := DataW.trod_int Tryd.underlying33 e
    have e3 : cs.toList[i] = .int .u16 n := by
      have := congrArg (fun l => l[0]?) e1
      rw [List.getElem?_take] at this
      simp only [Nat.lt_one_iff, if_true, List.getElem?_drop, Nat.add_zero, List.getElem?_eq_getElem h1, List.getElem?_cons_zero] at this
      exact Option.some.inj this
    have e4 := congrArg (fun l => l[i]?) hx.1
    simp only [List.getElem?_map, List.getElem?_eq_getElem (show i < xs.length by omega), e2, Option.map_some] at e4
    have hl : i < tab.length := by rw [tab_len]; exact hi
    rw [List.getElem?_eq_getElem hl] at e4
    simp only [Option.map_some, Option.some.injEq, DataW.lit.injEq, Lit.int.injEq, true_and] at e4
    rw [e3]
    simp only [cells145, List.getElem_map, e4]
theorem cells_of_laid {W : World} (h : laidMetH Tryd.prog Rows.fnParNamesOperatorStringTableRow.laid W) : W.var? Tryd.prog "mvdan.cc/sh/v3/syntax._token_index" = some cells145 := by
  rw [MakeChecks.laidMetH_plain _ _ _ (by kernel_rfl)] at h
  obtain ⟨ps, ⟨_, _, _, _, _, _, _, _, _, _, ⟨_, _, _, _, _, _, _, _, _, _, ⟨_, _, _, _, _, _, _, _, _, _, ⟨g3, t3, cs3, f3, p3, q3, hg3, ht3, hv3, hd3, _, _⟩, _⟩, _⟩, _⟩, _, _⟩ := h
  obtain rfl := Option.some.inj (gTok.symm.trans hg3)
  obtain rfl := Option.some.inj (tTok.symm.trans ht3)
  rw [laid_tok] at hd3
  rw [← cells_of_trod hd3]
  exact hv3
theorem tok_of_var {W : World} (h : W.var? Tryd.prog "mvdan.cc/sh/v3/syntax._token_index" = some cells145) : Tok W := by
  intro j hj
  rw [World.var?_cell gTok h j]
  have hl : j < tab.length := by rw [tab_len]; exact hj
  simp only [cells145, List.getElem?_toArray, List.getElem?_map, List.getElem?_eq_getElem hl, Option.map_some, List.getD_eq_getElem?_getD, Option.getD_some]
theorem reads_table {H : Type} (enc : TypeId × Value → H) (W : World) (sp : Nat → Bool) : DataW.trod enc Tryd.prog W 0 sp true 3 34 cells145.toList = some (tableH, []) := by kernel_rfl
theorem door_met (os : Os) (args : Array Value) : laidMetH Tryd.prog Rows.fnParNamesOperatorStringTableRow.laid ((World.doorLaid Tryd.prog 400 os).forCall (fun _ _ => 0) ⟨#[], args, []⟩).memory :=
  laidMetH_of_parts3 (fuel := 8) (laidMet_of_run' 8 (by kernel_rfl) (by kernel_rfl)) (by kernel_rfl) (by kernel_rfl)
end Go.Proofs.YtlhhddmclacjgaaDoor
