/- token.String at each token that the five operator tables name, given the two cells of the index table; and each law's walk at every value. -/
import Derived.Test.YtlhhddmclacjgaaDoorRows
import Derived.WalkKit
import Derived.WalkLawsBesides
import Derived.RegionTactic
namespace Go.Proofs.YtlhhddmclacjgaaDoor
open Go.RowKit
set_option maxRecDepth 100000
set_option linter.unusedVariables false

def tab : List Int := match (Rows.laid_mvdan_cc_sh_v3_syntax_token_index : DataW Unit) with
  | .agg l => l.map fun d => match d with
    | .lit (.int _ z) => z
    | _ => 0
  | _ => []
def Tok (w : World) : Prop := ∀ j, j < 145 → w.cell? ⟨0, j, none⟩ = some (.int .u16 (tab.getD j 0))
theorem tok_11 (w : World) (h1 : w.cell? ⟨0, 11, none⟩ = some (.int .u16 56)) (h2 : w.cell? ⟨0, 12, none⟩ = some (.int .u16 58)) : Calls Tryd.prog 14 #[.int .u32 11] w fun e w' => e = .returned (.string ⟨#[38, 38]⟩) ∧ w.drew = w' := by
  go_enter Tryd.func14, Tryd.ntmps14
  go_wp2
  go_region
  all_goals go_wp2
  all_goals go_ret
  all_goals exact ⟨rfl, rfl⟩
theorem tok_12 (w : World) (h1 : w.cell? ⟨0, 12, none⟩ = some (.int .u16 58)) (h2 : w.cell? ⟨0, 13, none⟩ = some (.int .u16 60)) : Calls Tryd.prog 14 #[.int .u32 12] w fun e w' => e = .returned (.string ⟨#[124, 124]⟩) ∧ w.drew = w' := by
  go_enter Tryd.func14, Tryd.ntmps14
  go_wp2
  go_region
  all_goals go_wp2
  all_goals go_ret
  all_goals exact ⟨rfl, rfl⟩
theorem tok_13 (w : World) (h1 : w.cell? ⟨0, 13, none⟩ = some (.int .u16 60)) (h2 : w.cell? ⟨0, 14, none⟩ = some (.int .u16 61)) : Calls Tryd.prog 14 #[.int .u32 13] w fun e w' => e = .returned (.string ⟨#[124]⟩) ∧ w.drew = w' := by
  go_enter Tryd.func14, Tryd.ntmps14
  go_wp2
  go_region
  all_goals go_wp2
  all_goals go_ret
  all_goals exact ⟨rfl, rfl⟩
theorem tok_14 (w : World) (h1 : w.cell? ⟨0, 14, none⟩ = some (.int .u16 61)) (h2 : w.cell? ⟨0, 15, none⟩ = some (.int .u16 63)) : Calls Tryd.prog 14 #[.int .u32 14] w fun e w' => e = .returned (.string ⟨#[124, 38]⟩) ∧ w.drew = w' := by
  go_enter Tryd.func14, Tryd.ntmps14
  go_wp2
  go_region
  all_goals go_wp2
  all_goals go_ret
  all_goals exact ⟨rfl, rfl⟩
theorem tok_35 (w : World) (h1 : w.cell? ⟨0, 35, none⟩ = some (.int .u16 96)) (h2 : w.cell? ⟨0, 36, none⟩ = some (.int .u16 98)) : Calls Tryd.prog 14 #[.int .u32 35] w fun e w' => e = .returned (.string ⟨#[59, 59]⟩) ∧ w.drew = w' := by
  go_enter Tryd.func14, Tryd.ntmps14
  go_wp2
  go_region
  all_goals go_wp2
  all_goals go_ret
  all_goals exact ⟨rfl, rfl⟩
theorem tok_36 (w : World) (h1 : w.cell? ⟨0, 36, none⟩ = some (.int .u16 98)) (h2 : w.cell? ⟨0, 37, none⟩ = some (.int .u16 100)) : Calls Tryd.prog 14 #[.int .u32 36] w fun e w' => e = .returned (.string ⟨#[59, 38]⟩) ∧ w.drew = w' := by
  go_enter Tryd.func14, Tryd.ntmps14
  go_wp2
  go_region
  all_goals go_wp2
  all_goals go_ret
  all_goals exact ⟨rfl, rfl⟩
theorem tok_37 (w : World) (h1 : w.cell? ⟨0, 37, none⟩ = some (.int .u16 100)) (h2 : w.cell? ⟨0, 38, none⟩ = some (.int .u16 103)) : Calls Tryd.prog 14 #[.int .u32 37] w fun e w' => e = .returned (.string ⟨#[59, 59, 38]⟩) ∧ w.drew = w' := by
  go_enter Tryd.func14, Tryd.ntmps14
  go_wp2
  go_region
  all_goals go_wp2
  all_goals go_ret
  all_goals exact ⟨rfl, rfl⟩
theorem tok_38 (w : World) (h1 : w.cell? ⟨0, 38, none⟩ = some (.int .u16 103)) (h2 : w.cell? ⟨0, 39, none⟩ = some (.int .u16 105)) : Calls Tryd.prog 14 #[.int .u32 38] w fun e w' => e = .returned (.string ⟨#[59, 124]⟩) ∧ w.drew = w' := by
  go_enter Tryd.func14, Tryd.ntmps14
  go_wp2
  go_region
  all_goals go_wp2
  all_goals go_ret
  all_goals exact ⟨rfl, rfl⟩
theorem tok_43 (w : World) (h1 : w.cell? ⟨0, 43, none⟩ = some (.int .u16 111)) (h2 : w.cell? ⟨0, 44, none⟩ = some (.int .u16 112)) : Calls Tryd.prog 14 #[.int .u32 43] w fun e w' => e = .returned (.string ⟨#[42]⟩) ∧ w.drew = w' := by
  go_enter Tryd.func14, Tryd.ntmps14
  go_wp2
  go_region
  all_goals go_wp2
  all_goals go_ret
  all_goals exact ⟨rfl, rfl⟩
theorem tok_78 (w : World) (h1 : w.cell? ⟨0, 78, none⟩ = some (.int .u16 191)) (h2 : w.cell? ⟨0, 79, none⟩ = some (.int .u16 193)) : Calls Tryd.prog 14 #[.int .u32 78] w fun e w' => e = .returned (.string ⟨#[60, 40]⟩) ∧ w.drew = w' := by
  go_enter Tryd.func14, Tryd.ntmps14
  go_wp2
  go_region
  all_goals go_wp2
  all_goals go_ret
  all_goals exact ⟨rfl, rfl⟩
theorem tok_79 (w : World) (h1 : w.cell? ⟨0, 79, none⟩ = some (.int .u16 193)) (h2 : w.cell? ⟨0, 80, none⟩ = some (.int .u16 195)) : Calls Tryd.prog 14 #[.int .u32 79] w fun e w' => e = .returned (.string ⟨#[61, 40]⟩) ∧ w.drew = w' := by
  go_enter Tryd.func14, Tryd.ntmps14
  go_wp2
  go_region
  all_goals go_wp2
  all_goals go_ret
  all_goals exact ⟨rfl, rfl⟩
theorem tok_80 (w : World) (h1 : w.cell? ⟨0, 80, none⟩ = some (.int .u16 195)) (h2 : w.cell? ⟨0, 81, none⟩ = some (.int .u16 197)) : Calls Tryd.prog 14 #[.int .u32 80] w fun e w' => e = .returned (.string ⟨#[62, 40]⟩) ∧ w.drew = w' := by
  go_enter Tryd.func14, Tryd.ntmps14
  go_wp2
  go_region
  all_goals go_wp2
  all_goals go_ret
  all_goals exact ⟨rfl, rfl⟩
theorem tok_81 (w : World) (h1 : w.cell? ⟨0, 81, none⟩ = some (.int .u16 197)) (h2 : w.cell? ⟨0, 82, none⟩ = some (.int .u16 198)) : Calls Tryd.prog 14 #[.int .u32 81] w fun e w' => e = .returned (.string ⟨#[43]⟩) ∧ w.drew = w' := by
  go_enter Tryd.func14, Tryd.ntmps14
  go_wp2
  go_region
  all_goals go_wp2
  all_goals go_ret
  all_goals exact ⟨rfl, rfl⟩
theorem tok_82 (w : World) (h1 : w.cell? ⟨0, 82, none⟩ = some (.int .u16 198)) (h2 : w.cell? ⟨0, 83, none⟩ = some (.int .u16 200)) : Calls Tryd.prog 14 #[.int .u32 82] w fun e w' => e = .returned (.string ⟨#[58, 43]⟩) ∧ w.drew = w' := by
  go_enter Tryd.func14, Tryd.ntmps14
  go_wp2
  go_region
  all_goals go_wp2
  all_goals go_ret
  all_goals exact ⟨rfl, rfl⟩
theorem tok_83 (w : World) (h1 : w.cell? ⟨0, 83, none⟩ = some (.int .u16 200)) (h2 : w.cell? ⟨0, 84, none⟩ = some (.int .u16 201)) : Calls Tryd.prog 14 #[.int .u32 83] w fun e w' => e = .returned (.string ⟨#[45]⟩) ∧ w.drew = w' := by
  go_enter Tryd.func14, Tryd.ntmps14
  go_wp2
  go_region
  all_goals go_wp2
  all_goals go_ret
  all_goals exact ⟨rfl, rfl⟩
theorem tok_84 (w : World) (h1 : w.cell? ⟨0, 84, none⟩ = some (.int .u16 201)) (h2 : w.cell? ⟨0, 85, none⟩ = some (.int .u16 203)) : Calls Tryd.prog 14 #[.int .u32 84] w fun e w' => e = .returned (.string ⟨#[58, 45]⟩) ∧ w.drew = w' := by
  go_enter Tryd.func14, Tryd.ntmps14
  go_wp2
  go_region
  all_goals go_wp2
  all_goals go_ret
  all_goals exact ⟨rfl, rfl⟩
theorem tok_85 (w : World) (h1 : w.cell? ⟨0, 85, none⟩ = some (.int .u16 203)) (h2 : w.cell? ⟨0, 86, none⟩ = some (.int .u16 204)) : Calls Tryd.prog 14 #[.int .u32 85] w fun e w' => e = .returned (.string ⟨#[63]⟩) ∧ w.drew = w' := by
  go_enter Tryd.func14, Tryd.ntmps14
  go_wp2
  go_region
  all_goals go_wp2
  all_goals go_ret
  all_goals exact ⟨rfl, rfl⟩
theorem tok_86 (w : World) (h1 : w.cell? ⟨0, 86, none⟩ = some (.int .u16 204)) (h2 : w.cell? ⟨0, 87, none⟩ = some (.int .u16 206)) : Calls Tryd.prog 14 #[.int .u32 86] w fun e w' => e = .returned (.string ⟨#[58, 63]⟩) ∧ w.drew = w' := by
  go_enter Tryd.func14, Tryd.ntmps14
  go_wp2
  go_region
  all_goals go_wp2
  all_goals go_ret
  all_goals exact ⟨rfl, rfl⟩
theorem tok_87 (w : World) (h1 : w.cell? ⟨0, 87, none⟩ = some (.int .u16 206)) (h2 : w.cell? ⟨0, 88, none⟩ = some (.int .u16 207)) : Calls Tryd.prog 14 #[.int .u32 87] w fun e w' => e = .returned (.string ⟨#[61]⟩) ∧ w.drew = w' := by
  go_enter Tryd.func14, Tryd.ntmps14
  go_wp2
  go_region
  all_goals go_wp2
  all_goals go_ret
  all_goals exact ⟨rfl, rfl⟩
theorem tok_88 (w : World) (h1 : w.cell? ⟨0, 88, none⟩ = some (.int .u16 207)) (h2 : w.cell? ⟨0, 89, none⟩ = some (.int .u16 209)) : Calls Tryd.prog 14 #[.int .u32 88] w fun e w' => e = .returned (.string ⟨#[58, 61]⟩) ∧ w.drew = w' := by
  go_enter Tryd.func14, Tryd.ntmps14
  go_wp2
  go_region
  all_goals go_wp2
  all_goals go_ret
  all_goals exact ⟨rfl, rfl⟩
theorem tok_89 (w : World) (h1 : w.cell? ⟨0, 89, none⟩ = some (.int .u16 209)) (h2 : w.cell? ⟨0, 90, none⟩ = some (.int .u16 210)) : Calls Tryd.prog 14 #[.int .u32 89] w fun e w' => e = .returned (.string ⟨#[37]⟩) ∧ w.drew = w' := by
  go_enter Tryd.func14, Tryd.ntmps14
  go_wp2
  go_region
  all_goals go_wp2
  all_goals go_ret
  all_goals exact ⟨rfl, rfl⟩
theorem tok_90 (w : World) (h1 : w.cell? ⟨0, 90, none⟩ = some (.int .u16 210)) (h2 : w.cell? ⟨0, 91, none⟩ = some (.int .u16 212)) : Calls Tryd.prog 14 #[.int .u32 90] w fun e w' => e = .returned (.string ⟨#[37, 37]⟩) ∧ w.drew = w' := by
  go_enter Tryd.func14, Tryd.ntmps14
  go_wp2
  go_region
  all_goals go_wp2
  all_goals go_ret
  all_goals exact ⟨rfl, rfl⟩
theorem tok_91 (w : World) (h1 : w.cell? ⟨0, 91, none⟩ = some (.int .u16 212)) (h2 : w.cell? ⟨0, 92, none⟩ = some (.int .u16 213)) : Calls Tryd.prog 14 #[.int .u32 91] w fun e w' => e = .returned (.string ⟨#[35]⟩) ∧ w.drew = w' := by
  go_enter Tryd.func14, Tryd.ntmps14
  go_wp2
  go_region
  all_goals go_wp2
  all_goals go_ret
  all_goals exact ⟨rfl, rfl⟩
theorem tok_92 (w : World) (h1 : w.cell? ⟨0, 92, none⟩ = some (.int .u16 213)) (h2 : w.cell? ⟨0, 93, none⟩ = some (.int .u16 215)) : Calls Tryd.prog 14 #[.int .u32 92] w fun e w' => e = .returned (.string ⟨#[35, 35]⟩) ∧ w.drew = w' := by
  go_enter Tryd.func14, Tryd.ntmps14
  go_wp2
  go_region
  all_goals go_wp2
  all_goals go_ret
  all_goals exact ⟨rfl, rfl⟩
theorem tok_93 (w : World) (h1 : w.cell? ⟨0, 93, none⟩ = some (.int .u16 215)) (h2 : w.cell? ⟨0, 94, none⟩ = some (.int .u16 217)) : Calls Tryd.prog 14 #[.int .u32 93] w fun e w' => e = .returned (.string ⟨#[58, 35]⟩) ∧ w.drew = w' := by
  go_enter Tryd.func14, Tryd.ntmps14
  go_wp2
  go_region
  all_goals go_wp2
  all_goals go_ret
  all_goals exact ⟨rfl, rfl⟩
theorem tok_94 (w : World) (h1 : w.cell? ⟨0, 94, none⟩ = some (.int .u16 217)) (h2 : w.cell? ⟨0, 95, none⟩ = some (.int .u16 219)) : Calls Tryd.prog 14 #[.int .u32 94] w fun e w' => e = .returned (.string ⟨#[58, 124]⟩) ∧ w.drew = w' := by
  go_enter Tryd.func14, Tryd.ntmps14
  go_wp2
  go_region
  all_goals go_wp2
  all_goals go_ret
  all_goals exact ⟨rfl, rfl⟩
theorem tok_95 (w : World) (h1 : w.cell? ⟨0, 95, none⟩ = some (.int .u16 219)) (h2 : w.cell? ⟨0, 96, none⟩ = some (.int .u16 221)) : Calls Tryd.prog 14 #[.int .u32 95] w fun e w' => e = .returned (.string ⟨#[58, 42]⟩) ∧ w.drew = w' := by
  go_enter Tryd.func14, Tryd.ntmps14
  go_wp2
  go_region
  all_goals go_wp2
  all_goals go_ret
  all_goals exact ⟨rfl, rfl⟩
theorem tok_96 (w : World) (h1 : w.cell? ⟨0, 96, none⟩ = some (.int .u16 221)) (h2 : w.cell? ⟨0, 97, none⟩ = some (.int .u16 222)) : Calls Tryd.prog 14 #[.int .u32 96] w fun e w' => e = .returned (.string ⟨#[94]⟩) ∧ w.drew = w' := by
  go_enter Tryd.func14, Tryd.ntmps14
  go_wp2
  go_region
  all_goals go_wp2
  all_goals go_ret
  all_goals exact ⟨rfl, rfl⟩
theorem tok_97 (w : World) (h1 : w.cell? ⟨0, 97, none⟩ = some (.int .u16 222)) (h2 : w.cell? ⟨0, 98, none⟩ = some (.int .u16 224)) : Calls Tryd.prog 14 #[.int .u32 97] w fun e w' => e = .returned (.string ⟨#[94, 94]⟩) ∧ w.drew = w' := by
  go_enter Tryd.func14, Tryd.ntmps14
  go_wp2
  go_region
  all_goals go_wp2
  all_goals go_ret
  all_goals exact ⟨rfl, rfl⟩
theorem tok_98 (w : World) (h1 : w.cell? ⟨0, 98, none⟩ = some (.int .u16 224)) (h2 : w.cell? ⟨0, 99, none⟩ = some (.int .u16 225)) : Calls Tryd.prog 14 #[.int .u32 98] w fun e w' => e = .returned (.string ⟨#[44]⟩) ∧ w.drew = w' := by
  go_enter Tryd.func14, Tryd.ntmps14
  go_wp2
  go_region
  all_goals go_wp2
  all_goals go_ret
  all_goals exact ⟨rfl, rfl⟩
theorem tok_99 (w : World) (h1 : w.cell? ⟨0, 99, none⟩ = some (.int .u16 225)) (h2 : w.cell? ⟨0, 100, none⟩ = some (.int .u16 227)) : Calls Tryd.prog 14 #[.int .u32 99] w fun e w' => e = .returned (.string ⟨#[44, 44]⟩) ∧ w.drew = w' := by
  go_enter Tryd.func14, Tryd.ntmps14
  go_wp2
  go_region
  all_goals go_wp2
  all_goals go_ret
  all_goals exact ⟨rfl, rfl⟩
theorem tok_100 (w : World) (h1 : w.cell? ⟨0, 100, none⟩ = some (.int .u16 227)) (h2 : w.cell? ⟨0, 101, none⟩ = some (.int .u16 228)) : Calls Tryd.prog 14 #[.int .u32 100] w fun e w' => e = .returned (.string ⟨#[64]⟩) ∧ w.drew = w' := by
  go_enter Tryd.func14, Tryd.ntmps14
  go_wp2
  go_region
  all_goals go_wp2
  all_goals go_ret
  all_goals exact ⟨rfl, rfl⟩
theorem l3_43 (w : World) (h1 : w.cell? ⟨0, 43, none⟩ = some (.int .u16 111)) (h2 : w.cell? ⟨0, 44, none⟩ = some (.int .u16 112)) : Calls Tryd.prog 3 #[.int .u32 43] w fun e w' => e = .returned (.bool true) ∧ w.drew = w' := by
  go_enter Tryd.func3, Tryd.ntmps3
  go_wp2_with (first | (go_at_call 14; refine (tok_43 w h1 h2).mono ?_; rintro e w' ⟨rfl, rfl⟩) | go_in)
  go_ret
  exact ⟨rfl, rfl⟩
theorem l3_100 (w : World) (h1 : w.cell? ⟨0, 100, none⟩ = some (.int .u16 227)) (h2 : w.cell? ⟨0, 101, none⟩ = some (.int .u16 228)) : Calls Tryd.prog 3 #[.int .u32 100] w fun e w' => e = .returned (.bool true) ∧ w.drew = w' := by
  go_enter Tryd.func3, Tryd.ntmps3
  go_wp2_with (first | (go_at_call 14; refine (tok_100 w h1 h2).mono ?_; rintro e w' ⟨rfl, rfl⟩) | go_in)
  go_ret
  exact ⟨rfl, rfl⟩
theorem l3_out (x : Int) (w : World) (ha : (x != 43) = true) (hb : (x != 100) = true) : Calls Tryd.prog 3 #[.int .u32 x] w fun e w' => e = .returned (.bool true) ∧ w = w' := by
  go_enter Tryd.func3, Tryd.ntmps3
  go_wp2
  go_ret
  exact ⟨rfl, rfl⟩
theorem l3 (x : Int) (w : World) (h0 : 0 ≤ x) (T : Tok w) : Calls Tryd.prog 3 #[.int .u32 x] w fun e w' => e = .returned (.bool true) ∧ w'.Alike w := by
  by_cases a : x = 43
  · subst a; exact (l3_43 w (T 43 (by decide)) (T 44 (by decide))).mono fun e w' h => ⟨h.1, h.2 ▸ ⟨rfl, rfl, rfl⟩⟩
  by_cases b : x = 100
  · subst b; exact (l3_100 w (T 100 (by decide)) (T 101 (by decide))).mono fun e w' h => ⟨h.1, h.2 ▸ ⟨rfl, rfl, rfl⟩⟩
  exact (l3_out x w (by simpa using a) (by simpa using b)).mono fun e w' h => ⟨h.1, h.2 ▸ ⟨rfl, rfl, rfl⟩⟩
theorem l4_78 (w : World) (h1 : w.cell? ⟨0, 78, none⟩ = some (.int .u16 191)) (h2 : w.cell? ⟨0, 79, none⟩ = some (.int .u16 193)) : Calls Tryd.prog 4 #[.int .u32 78] w fun e w' => e = .returned (.bool true) ∧ w.drew = w' := by
  go_enter Tryd.func4, Tryd.ntmps4
  go_wp2_with (first | (go_at_call 14; refine (tok_78 w h1 h2).mono ?_; rintro e w' ⟨rfl, rfl⟩) | go_in)
  go_ret
  exact ⟨rfl, rfl⟩
theorem l4_79 (w : World) (h1 : w.cell? ⟨0, 79, none⟩ = some (.int .u16 193)) (h2 : w.cell? ⟨0, 80, none⟩ = some (.int .u16 195)) : Calls Tryd.prog 4 #[.int .u32 79] w fun e w' => e = .returned (.bool true) ∧ w.drew = w' := by
  go_enter Tryd.func4, Tryd.ntmps4
  go_wp2_with (first | (go_at_call 14; refine (tok_79 w h1 h2).mono ?_; rintro e w' ⟨rfl, rfl⟩) | go_in)
  go_ret
  exact ⟨rfl, rfl⟩
theorem l4_80 (w : World) (h1 : w.cell? ⟨0, 80, none⟩ = some (.int .u16 195)) (h2 : w.cell? ⟨0, 81, none⟩ = some (.int .u16 197)) : Calls Tryd.prog 4 #[.int .u32 80] w fun e w' => e = .returned (.bool true) ∧ w.drew = w' := by
  go_enter Tryd.func4, Tryd.ntmps4
  go_wp2_with (first | (go_at_call 14; refine (tok_80 w h1 h2).mono ?_; rintro e w' ⟨rfl, rfl⟩) | go_in)
  go_ret
  exact ⟨rfl, rfl⟩
theorem l4_low (x : Int) (w : World) (h0 : 0 ≤ x) (h : x < 78) : Calls Tryd.prog 4 #[.int .u32 x] w fun e w' => e = .returned (.bool true) ∧ w = w' := by
  go_enter Tryd.func4, Tryd.ntmps4
  go_wp2
  go_ret
  exact ⟨rfl, rfl⟩
theorem l4_high (x : Int) (w : World) (h : 80 < x) (hn : ¬ x < 78) : Calls Tryd.prog 4 #[.int .u32 x] w fun e w' => e = .returned (.bool true) ∧ w = w' := by
  go_enter Tryd.func4, Tryd.ntmps4
  go_wp2
  go_ret
  exact ⟨rfl, rfl⟩
theorem l4 (x : Int) (w : World) (h0 : 0 ≤ x) (T : Tok w) : Calls Tryd.prog 4 #[.int .u32 x] w fun e w' => e = .returned (.bool true) ∧ w'.Alike w := by
  by_cases a : x < 78
  · exact (l4_low x w h0 a).mono fun e w' h => ⟨h.1, h.2 ▸ ⟨rfl, rfl, rfl⟩⟩
  by_cases b : 80 < x
  · exact (l4_high x w b a).mono fun e w' h => ⟨h.1, h.2 ▸ ⟨rfl, rfl, rfl⟩⟩
  have c : x = 78 ∨ x = 79 ∨ x = 80 := by omega
  rcases c with rfl | rfl | rfl
  · exact (l4_78 w (T 78 (by decide)) (T 79 (by decide))).mono fun e w' h => ⟨h.1, h.2 ▸ ⟨rfl, rfl, rfl⟩⟩
  · exact (l4_79 w (T 79 (by decide)) (T 80 (by decide))).mono fun e w' h => ⟨h.1, h.2 ▸ ⟨rfl, rfl, rfl⟩⟩
  · exact (l4_80 w (T 80 (by decide)) (T 81 (by decide))).mono fun e w' h => ⟨h.1, h.2 ▸ ⟨rfl, rfl, rfl⟩⟩
theorem l5_81 (w : World) (h1 : w.cell? ⟨0, 81, none⟩ = some (.int .u16 197)) (h2 : w.cell? ⟨0, 82, none⟩ = some (.int .u16 198)) : Calls Tryd.prog 5 #[.int .u32 81] w fun e w' => e = .returned (.bool true) ∧ w.drew = w' := by
  go_enter Tryd.func5, Tryd.ntmps5
  go_wp2_with (first | (go_at_call 14; refine (tok_81 w h1 h2).mono ?_; rintro e w' ⟨rfl, rfl⟩) | go_in)
  go_ret
  exact ⟨rfl, rfl⟩
theorem l5_82 (w : World) (h1 : w.cell? ⟨0, 82, none⟩ = some (.int .u16 198)) (h2 : w.cell? ⟨0, 83, none⟩ = some (.int .u16 200)) : Calls Tryd.prog 5 #[.int .u32 82] w fun e w' => e = .returned (.bool true) ∧ w.drew = w' := by
  go_enter Tryd.func5, Tryd.ntmps5
  go_wp2_with (first | (go_at_call 14; refine (tok_82 w h1 h2).mono ?_; rintro e w' ⟨rfl, rfl⟩) | go_in)
  go_ret
  exact ⟨rfl, rfl⟩
theorem l5_83 (w : World) (h1 : w.cell? ⟨0, 83, none⟩ = some (.int .u16 200)) (h2 : w.cell? ⟨0, 84, none⟩ = some (.int .u16 201)) : Calls Tryd.prog 5 #[.int .u32 83] w fun e w' => e = .returned (.bool true) ∧ w.drew = w' := by
  go_enter Tryd.func5, Tryd.ntmps5
  go_wp2_with (first | (go_at_call 14; refine (tok_83 w h1 h2).mono ?_; rintro e w' ⟨rfl, rfl⟩) | go_in)
  go_ret
  exact ⟨rfl, rfl⟩
theorem l5_84 (w : World) (h1 : w.cell? ⟨0, 84, none⟩ = some (.int .u16 201)) (h2 : w.cell? ⟨0, 85, none⟩ = some (.int .u16 203)) : Calls Tryd.prog 5 #[.int .u32 84] w fun e w' => e = .returned (.bool true) ∧ w.drew = w' := by
  go_enter Tryd.func5, Tryd.ntmps5
  go_wp2_with (first | (go_at_call 14; refine (tok_84 w h1 h2).mono ?_; rintro e w' ⟨rfl, rfl⟩) | go_in)
  go_ret
  exact ⟨rfl, rfl⟩
theorem l5_85 (w : World) (h1 : w.cell? ⟨0, 85, none⟩ = some (.int .u16 203)) (h2 : w.cell? ⟨0, 86, none⟩ = some (.int .u16 204)) : Calls Tryd.prog 5 #[.int .u32 85] w fun e w' => e = .returned (.bool true) ∧ w.drew = w' := by
  go_enter Tryd.func5, Tryd.ntmps5
  go_wp2_with (first | (go_at_call 14; refine (tok_85 w h1 h2).mono ?_; rintro e w' ⟨rfl, rfl⟩) | go_in)
  go_ret
  exact ⟨rfl, rfl⟩
theorem l5_86 (w : World) (h1 : w.cell? ⟨0, 86, none⟩ = some (.int .u16 204)) (h2 : w.cell? ⟨0, 87, none⟩ = some (.int .u16 206)) : Calls Tryd.prog 5 #[.int .u32 86] w fun e w' => e = .returned (.bool true) ∧ w.drew = w' := by
  go_enter Tryd.func5, Tryd.ntmps5
  go_wp2_with (first | (go_at_call 14; refine (tok_86 w h1 h2).mono ?_; rintro e w' ⟨rfl, rfl⟩) | go_in)
  go_ret
  exact ⟨rfl, rfl⟩
theorem l5_87 (w : World) (h1 : w.cell? ⟨0, 87, none⟩ = some (.int .u16 206)) (h2 : w.cell? ⟨0, 88, none⟩ = some (.int .u16 207)) : Calls Tryd.prog 5 #[.int .u32 87] w fun e w' => e = .returned (.bool true) ∧ w.drew = w' := by
  go_enter Tryd.func5, Tryd.ntmps5
  go_wp2_with (first | (go_at_call 14; refine (tok_87 w h1 h2).mono ?_; rintro e w' ⟨rfl, rfl⟩) | go_in)
  go_ret
  exact ⟨rfl, rfl⟩
theorem l5_88 (w : World) (h1 : w.cell? ⟨0, 88, none⟩ = some (.int .u16 207)) (h2 : w.cell? ⟨0, 89, none⟩ = some (.int .u16 209)) : Calls Tryd.prog 5 #[.int .u32 88] w fun e w' => e = .returned (.bool true) ∧ w.drew = w' := by
  go_enter Tryd.func5, Tryd.ntmps5
  go_wp2_with (first | (go_at_call 14; refine (tok_88 w h1 h2).mono ?_; rintro e w' ⟨rfl, rfl⟩) | go_in)
  go_ret
  exact ⟨rfl, rfl⟩
theorem l5_89 (w : World) (h1 : w.cell? ⟨0, 89, none⟩ = some (.int .u16 209)) (h2 : w.cell? ⟨0, 90, none⟩ = some (.int .u16 210)) : Calls Tryd.prog 5 #[.int .u32 89] w fun e w' => e = .returned (.bool true) ∧ w.drew = w' := by
  go_enter Tryd.func5, Tryd.ntmps5
  go_wp2_with (first | (go_at_call 14; refine (tok_89 w h1 h2).mono ?_; rintro e w' ⟨rfl, rfl⟩) | go_in)
  go_ret
  exact ⟨rfl, rfl⟩
theorem l5_90 (w : World) (h1 : w.cell? ⟨0, 90, none⟩ = some (.int .u16 210)) (h2 : w.cell? ⟨0, 91, none⟩ = some (.int .u16 212)) : Calls Tryd.prog 5 #[.int .u32 90] w fun e w' => e = .returned (.bool true) ∧ w.drew = w' := by
  go_enter Tryd.func5, Tryd.ntmps5
  go_wp2_with (first | (go_at_call 14; refine (tok_90 w h1 h2).mono ?_; rintro e w' ⟨rfl, rfl⟩) | go_in)
  go_ret
  exact ⟨rfl, rfl⟩
theorem l5_91 (w : World) (h1 : w.cell? ⟨0, 91, none⟩ = some (.int .u16 212)) (h2 : w.cell? ⟨0, 92, none⟩ = some (.int .u16 213)) : Calls Tryd.prog 5 #[.int .u32 91] w fun e w' => e = .returned (.bool true) ∧ w.drew = w' := by
  go_enter Tryd.func5, Tryd.ntmps5
  go_wp2_with (first | (go_at_call 14; refine (tok_91 w h1 h2).mono ?_; rintro e w' ⟨rfl, rfl⟩) | go_in)
  go_ret
  exact ⟨rfl, rfl⟩
theorem l5_92 (w : World) (h1 : w.cell? ⟨0, 92, none⟩ = some (.int .u16 213)) (h2 : w.cell? ⟨0, 93, none⟩ = some (.int .u16 215)) : Calls Tryd.prog 5 #[.int .u32 92] w fun e w' => e = .returned (.bool true) ∧ w.drew = w' := by
  go_enter Tryd.func5, Tryd.ntmps5
  go_wp2_with (first | (go_at_call 14; refine (tok_92 w h1 h2).mono ?_; rintro e w' ⟨rfl, rfl⟩) | go_in)
  go_ret
  exact ⟨rfl, rfl⟩
theorem l5_93 (w : World) (h1 : w.cell? ⟨0, 93, none⟩ = some (.int .u16 215)) (h2 : w.cell? ⟨0, 94, none⟩ = some (.int .u16 217)) : Calls Tryd.prog 5 #[.int .u32 93] w fun e w' => e = .returned (.bool true) ∧ w.drew = w' := by
  go_enter Tryd.func5, Tryd.ntmps5
  go_wp2_with (first | (go_at_call 14; refine (tok_93 w h1 h2).mono ?_; rintro e w' ⟨rfl, rfl⟩) | go_in)
  go_ret
  exact ⟨rfl, rfl⟩
theorem l5_94 (w : World) (h1 : w.cell? ⟨0, 94, none⟩ = some (.int .u16 217)) (h2 : w.cell? ⟨0, 95, none⟩ = some (.int .u16 219)) : Calls Tryd.prog 5 #[.int .u32 94] w fun e w' => e = .returned (.bool true) ∧ w.drew = w' := by
  go_enter Tryd.func5, Tryd.ntmps5
  go_wp2_with (first | (go_at_call 14; refine (tok_94 w h1 h2).mono ?_; rintro e w' ⟨rfl, rfl⟩) | go_in)
  go_ret
  exact ⟨rfl, rfl⟩
theorem l5_95 (w : World) (h1 : w.cell? ⟨0, 95, none⟩ = some (.int .u16 219)) (h2 : w.cell? ⟨0, 96, none⟩ = some (.int .u16 221)) : Calls Tryd.prog 5 #[.int .u32 95] w fun e w' => e = .returned (.bool true) ∧ w.drew = w' := by
  go_enter Tryd.func5, Tryd.ntmps5
  go_wp2_with (first | (go_at_call 14; refine (tok_95 w h1 h2).mono ?_; rintro e w' ⟨rfl, rfl⟩) | go_in)
  go_ret
  exact ⟨rfl, rfl⟩
theorem l5_96 (w : World) (h1 : w.cell? ⟨0, 96, none⟩ = some (.int .u16 221)) (h2 : w.cell? ⟨0, 97, none⟩ = some (.int .u16 222)) : Calls Tryd.prog 5 #[.int .u32 96] w fun e w' => e = .returned (.bool true) ∧ w.drew = w' := by
  go_enter Tryd.func5, Tryd.ntmps5
  go_wp2_with (first | (go_at_call 14; refine (tok_96 w h1 h2).mono ?_; rintro e w' ⟨rfl, rfl⟩) | go_in)
  go_ret
  exact ⟨rfl, rfl⟩
theorem l5_97 (w : World) (h1 : w.cell? ⟨0, 97, none⟩ = some (.int .u16 222)) (h2 : w.cell? ⟨0, 98, none⟩ = some (.int .u16 224)) : Calls Tryd.prog 5 #[.int .u32 97] w fun e w' => e = .returned (.bool true) ∧ w.drew = w' := by
  go_enter Tryd.func5, Tryd.ntmps5
  go_wp2_with (first | (go_at_call 14; refine (tok_97 w h1 h2).mono ?_; rintro e w' ⟨rfl, rfl⟩) | go_in)
  go_ret
  exact ⟨rfl, rfl⟩
theorem l5_98 (w : World) (h1 : w.cell? ⟨0, 98, none⟩ = some (.int .u16 224)) (h2 : w.cell? ⟨0, 99, none⟩ = some (.int .u16 225)) : Calls Tryd.prog 5 #[.int .u32 98] w fun e w' => e = .returned (.bool true) ∧ w.drew = w' := by
  go_enter Tryd.func5, Tryd.ntmps5
  go_wp2_with (first | (go_at_call 14; refine (tok_98 w h1 h2).mono ?_; rintro e w' ⟨rfl, rfl⟩) | go_in)
  go_ret
  exact ⟨rfl, rfl⟩
theorem l5_99 (w : World) (h1 : w.cell? ⟨0, 99, none⟩ = some (.int .u16 225)) (h2 : w.cell? ⟨0, 100, none⟩ = some (.int .u16 227)) : Calls Tryd.prog 5 #[.int .u32 99] w fun e w' => e = .returned (.bool true) ∧ w.drew = w' := by
  go_enter Tryd.func5, Tryd.ntmps5
  go_wp2_with (first | (go_at_call 14; refine (tok_99 w h1 h2).mono ?_; rintro e w' ⟨rfl, rfl⟩) | go_in)
  go_ret
  exact ⟨rfl, rfl⟩
theorem l5_100 (w : World) (h1 : w.cell? ⟨0, 100, none⟩ = some (.int .u16 227)) (h2 : w.cell? ⟨0, 101, none⟩ = some (.int .u16 228)) : Calls Tryd.prog 5 #[.int .u32 100] w fun e w' => e = .returned (.bool true) ∧ w.drew = w' := by
  go_enter Tryd.func5, Tryd.ntmps5
  go_wp2_with (first | (go_at_call 14; refine (tok_100 w h1 h2).mono ?_; rintro e w' ⟨rfl, rfl⟩) | go_in)
  go_ret
  exact ⟨rfl, rfl⟩
theorem l5_low (x : Int) (w : World) (h0 : 0 ≤ x) (h : x < 81) : Calls Tryd.prog 5 #[.int .u32 x] w fun e w' => e = .returned (.bool true) ∧ w = w' := by
  go_enter Tryd.func5, Tryd.ntmps5
  go_wp2
  go_ret
  exact ⟨rfl, rfl⟩
theorem l5_high (x : Int) (w : World) (h : 100 < x) (hn : ¬ x < 81) : Calls Tryd.prog 5 #[.int .u32 x] w fun e w' => e = .returned (.bool true) ∧ w = w' := by
  go_enter Tryd.func5, Tryd.ntmps5
  go_wp2
  go_ret
  exact ⟨rfl, rfl⟩
theorem l5 (x : Int) (w : World) (h0 : 0 ≤ x) (T : Tok w) : Calls Tryd.prog 5 #[.int .u32 x] w fun e w' => e = .returned (.bool true) ∧ w'.Alike w := by
  by_cases a : x < 81
  · exact (l5_low x w h0 a).mono fun e w' h => ⟨h.1, h.2 ▸ ⟨rfl, rfl, rfl⟩⟩
  by_cases b : 100 < x
  · exact (l5_high x w b a).mono fun e w' h => ⟨h.1, h.2 ▸ ⟨rfl, rfl, rfl⟩⟩
  have c : x = 81 ∨ x = 82 ∨ x = 83 ∨ x = 84 ∨ x = 85 ∨ x = 86 ∨ x = 87 ∨ x = 88 ∨ x = 89 ∨ x = 90 ∨ x = 91 ∨ x = 92 ∨ x = 93 ∨ x = 94 ∨ x = 95 ∨ x = 96 ∨ x = 97 ∨ x = 98 ∨ x = 99 ∨ x = 100 := by omega
  rcases c with rfl | rfl | rfl | rfl | rfl | rfl | rfl | rfl | rfl | rfl | rfl | rfl | rfl | rfl | rfl | rfl | rfl | rfl | rfl | rfl
  · exact (l5_81 w (T 81 (by decide)) (T 82 (by decide))).mono fun e w' h => ⟨h.1, h.2 ▸ ⟨rfl, rfl, rfl⟩⟩
  · exact (l5_82 w (T 82 (by decide)) (T 83 (by decide))).mono fun e w' h => ⟨h.1, h.2 ▸ ⟨rfl, rfl, rfl⟩⟩
  · exact (l5_83 w (T 83 (by decide)) (T 84 (by decide))).mono fun e w' h => ⟨h.1, h.2 ▸ ⟨rfl, rfl, rfl⟩⟩
  · exact (l5_84 w (T 84 (by decide)) (T 85 (by decide))).mono fun e w' h => ⟨h.1, h.2 ▸ ⟨rfl, rfl, rfl⟩⟩
  · exact (l5_85 w (T 85 (by decide)) (T 86 (by decide))).mono fun e w' h => ⟨h.1, h.2 ▸ ⟨rfl, rfl, rfl⟩⟩
  · exact (l5_86 w (T 86 (by decide)) (T 87 (by decide))).mono fun e w' h => ⟨h.1, h.2 ▸ ⟨rfl, rfl, rfl⟩⟩
  · exact (l5_87 w (T 87 (by decide)) (T 88 (by decide))).mono fun e w' h => ⟨h.1, h.2 ▸ ⟨rfl, rfl, rfl⟩⟩
  · exact (l5_88 w (T 88 (by decide)) (T 89 (by decide))).mono fun e w' h => ⟨h.1, h.2 ▸ ⟨rfl, rfl, rfl⟩⟩
  · exact (l5_89 w (T 89 (by decide)) (T 90 (by decide))).mono fun e w' h => ⟨h.1, h.2 ▸ ⟨rfl, rfl, rfl⟩⟩
  · exact (l5_90 w (T 90 (by decide)) (T 91 (by decide))).mono fun e w' h => ⟨h.1, h.2 ▸ ⟨rfl, rfl, rfl⟩⟩
  · exact (l5_91 w (T 91 (by decide)) (T 92 (by decide))).mono fun e w' h => ⟨h.1, h.2 ▸ ⟨rfl, rfl, rfl⟩⟩
  · exact (l5_92 w (T 92 (by decide)) (T 93 (by decide))).mono fun e w' h => ⟨h.1, h.2 ▸ ⟨rfl, rfl, rfl⟩⟩
  · exact (l5_93 w (T 93 (by decide)) (T 94 (by decide))).mono fun e w' h => ⟨h.1, h.2 ▸ ⟨rfl, rfl, rfl⟩⟩
  · exact (l5_94 w (T 94 (by decide)) (T 95 (by decide))).mono fun e w' h => ⟨h.1, h.2 ▸ ⟨rfl, rfl, rfl⟩⟩
  · exact (l5_95 w (T 95 (by decide)) (T 96 (by decide))).mono fun e w' h => ⟨h.1, h.2 ▸ ⟨rfl, rfl, rfl⟩⟩
  · exact (l5_96 w (T 96 (by decide)) (T 97 (by decide))).mono fun e w' h => ⟨h.1, h.2 ▸ ⟨rfl, rfl, rfl⟩⟩
  · exact (l5_97 w (T 97 (by decide)) (T 98 (by decide))).mono fun e w' h => ⟨h.1, h.2 ▸ ⟨rfl, rfl, rfl⟩⟩
  · exact (l5_98 w (T 98 (by decide)) (T 99 (by decide))).mono fun e w' h => ⟨h.1, h.2 ▸ ⟨rfl, rfl, rfl⟩⟩
  · exact (l5_99 w (T 99 (by decide)) (T 100 (by decide))).mono fun e w' h => ⟨h.1, h.2 ▸ ⟨rfl, rfl, rfl⟩⟩
  · exact (l5_100 w (T 100 (by decide)) (T 101 (by decide))).mono fun e w' h => ⟨h.1, h.2 ▸ ⟨rfl, rfl, rfl⟩⟩
theorem l6_11 (w : World) (h1 : w.cell? ⟨0, 11, none⟩ = some (.int .u16 56)) (h2 : w.cell? ⟨0, 12, none⟩ = some (.int .u16 58)) : Calls Tryd.prog 6 #[.int .u32 11] w fun e w' => e = .returned (.bool true) ∧ w.drew = w' := by
  go_enter Tryd.func6, Tryd.ntmps6
  go_wp2_with (first | (go_at_call 14; refine (tok_11 w h1 h2).mono ?_; rintro e w' ⟨rfl, rfl⟩) | go_in)
  go_ret
  exact ⟨rfl, rfl⟩
theorem l6_12 (w : World) (h1 : w.cell? ⟨0, 12, none⟩ = some (.int .u16 58)) (h2 : w.cell? ⟨0, 13, none⟩ = some (.int .u16 60)) : Calls Tryd.prog 6 #[.int .u32 12] w fun e w' => e = .returned (.bool true) ∧ w.drew = w' := by
  go_enter Tryd.func6, Tryd.ntmps6
  go_wp2_with (first | (go_at_call 14; refine (tok_12 w h1 h2).mono ?_; rintro e w' ⟨rfl, rfl⟩) | go_in)
  go_ret
  exact ⟨rfl, rfl⟩
theorem l6_13 (w : World) (h1 : w.cell? ⟨0, 13, none⟩ = some (.int .u16 60)) (h2 : w.cell? ⟨0, 14, none⟩ = some (.int .u16 61)) : Calls Tryd.prog 6 #[.int .u32 13] w fun e w' => e = .returned (.bool true) ∧ w.drew = w' := by
  go_enter Tryd.func6, Tryd.ntmps6
  go_wp2_with (first | (go_at_call 14; refine (tok_13 w h1 h2).mono ?_; rintro e w' ⟨rfl, rfl⟩) | go_in)
  go_ret
  exact ⟨rfl, rfl⟩
theorem l6_14 (w : World) (h1 : w.cell? ⟨0, 14, none⟩ = some (.int .u16 61)) (h2 : w.cell? ⟨0, 15, none⟩ = some (.int .u16 63)) : Calls Tryd.prog 6 #[.int .u32 14] w fun e w' => e = .returned (.bool true) ∧ w.drew = w' := by
  go_enter Tryd.func6, Tryd.ntmps6
  go_wp2_with (first | (go_at_call 14; refine (tok_14 w h1 h2).mono ?_; rintro e w' ⟨rfl, rfl⟩) | go_in)
  go_ret
  exact ⟨rfl, rfl⟩
theorem l6_low (x : Int) (w : World) (h0 : 0 ≤ x) (h : x < 11) : Calls Tryd.prog 6 #[.int .u32 x] w fun e w' => e = .returned (.bool true) ∧ w = w' := by
  go_enter Tryd.func6, Tryd.ntmps6
  go_wp2
  go_ret
  exact ⟨rfl, rfl⟩
theorem l6_high (x : Int) (w : World) (h : 14 < x) (hn : ¬ x < 11) : Calls Tryd.prog 6 #[.int .u32 x] w fun e w' => e = .returned (.bool true) ∧ w = w' := by
  go_enter Tryd.func6, Tryd.ntmps6
  go_wp2
  go_ret
  exact ⟨rfl, rfl⟩
theorem l6 (x : Int) (w : World) (h0 : 0 ≤ x) (T : Tok w) : Calls Tryd.prog 6 #[.int .u32 x] w fun e w' => e = .returned (.bool true) ∧ w'.Alike w := by
  by_cases a : x < 11
  · exact (l6_low x w h0 a).mono fun e w' h => ⟨h.1, h.2 ▸ ⟨rfl, rfl, rfl⟩⟩
  by_cases b : 14 < x
  · exact (l6_high x w b a).mono fun e w' h => ⟨h.1, h.2 ▸ ⟨rfl, rfl, rfl⟩⟩
  have c : x = 11 ∨ x = 12 ∨ x = 13 ∨ x = 14 := by omega
  rcases c with rfl | rfl | rfl | rfl
  · exact (l6_11 w (T 11 (by decide)) (T 12 (by decide))).mono fun e w' h => ⟨h.1, h.2 ▸ ⟨rfl, rfl, rfl⟩⟩
  · exact (l6_12 w (T 12 (by decide)) (T 13 (by decide))).mono fun e w' h => ⟨h.1, h.2 ▸ ⟨rfl, rfl, rfl⟩⟩
  · exact (l6_13 w (T 13 (by decide)) (T 14 (by decide))).mono fun e w' h => ⟨h.1, h.2 ▸ ⟨rfl, rfl, rfl⟩⟩
  · exact (l6_14 w (T 14 (by decide)) (T 15 (by decide))).mono fun e w' h => ⟨h.1, h.2 ▸ ⟨rfl, rfl, rfl⟩⟩
theorem l7_35 (w : World) (h1 : w.cell? ⟨0, 35, none⟩ = some (.int .u16 96)) (h2 : w.cell? ⟨0, 36, none⟩ = some (.int .u16 98)) : Calls Tryd.prog 7 #[.int .u32 35] w fun e w' => e = .returned (.bool true) ∧ w.drew = w' := by
  go_enter Tryd.func7, Tryd.ntmps7
  go_wp2_with (first | (go_at_call 14; refine (tok_35 w h1 h2).mono ?_; rintro e w' ⟨rfl, rfl⟩) | go_in)
  go_ret
  exact ⟨rfl, rfl⟩
theorem l7_36 (w : World) (h1 : w.cell? ⟨0, 36, none⟩ = some (.int .u16 98)) (h2 : w.cell? ⟨0, 37, none⟩ = some (.int .u16 100)) : Calls Tryd.prog 7 #[.int .u32 36] w fun e w' => e = .returned (.bool true) ∧ w.drew = w' := by
  go_enter Tryd.func7, Tryd.ntmps7
  go_wp2_with (first | (go_at_call 14; refine (tok_36 w h1 h2).mono ?_; rintro e w' ⟨rfl, rfl⟩) | go_in)
  go_ret
  exact ⟨rfl, rfl⟩
theorem l7_37 (w : World) (h1 : w.cell? ⟨0, 37, none⟩ = some (.int .u16 100)) (h2 : w.cell? ⟨0, 38, none⟩ = some (.int .u16 103)) : Calls Tryd.prog 7 #[.int .u32 37] w fun e w' => e = .returned (.bool true) ∧ w.drew = w' := by
  go_enter Tryd.func7, Tryd.ntmps7
  go_wp2_with (first | (go_at_call 14; refine (tok_37 w h1 h2).mono ?_; rintro e w' ⟨rfl, rfl⟩) | go_in)
  go_ret
  exact ⟨rfl, rfl⟩
theorem l7_38 (w : World) (h1 : w.cell? ⟨0, 38, none⟩ = some (.int .u16 103)) (h2 : w.cell? ⟨0, 39, none⟩ = some (.int .u16 105)) : Calls Tryd.prog 7 #[.int .u32 38] w fun e w' => e = .returned (.bool true) ∧ w.drew = w' := by
  go_enter Tryd.func7, Tryd.ntmps7
  go_wp2_with (first | (go_at_call 14; refine (tok_38 w h1 h2).mono ?_; rintro e w' ⟨rfl, rfl⟩) | go_in)
  go_ret
  exact ⟨rfl, rfl⟩
theorem l7_low (x : Int) (w : World) (h0 : 0 ≤ x) (h : x < 35) : Calls Tryd.prog 7 #[.int .u32 x] w fun e w' => e = .returned (.bool true) ∧ w = w' := by
  go_enter Tryd.func7, Tryd.ntmps7
  go_wp2
  go_ret
  exact ⟨rfl, rfl⟩
theorem l7_high (x : Int) (w : World) (h : 38 < x) (hn : ¬ x < 35) : Calls Tryd.prog 7 #[.int .u32 x] w fun e w' => e = .returned (.bool true) ∧ w = w' := by
  go_enter Tryd.func7, Tryd.ntmps7
  go_wp2
  go_ret
  exact ⟨rfl, rfl⟩
theorem l7 (x : Int) (w : World) (h0 : 0 ≤ x) (T : Tok w) : Calls Tryd.prog 7 #[.int .u32 x] w fun e w' => e = .returned (.bool true) ∧ w'.Alike w := by
  by_cases a : x < 35
  · exact (l7_low x w h0 a).mono fun e w' h => ⟨h.1, h.2 ▸ ⟨rfl, rfl, rfl⟩⟩
  by_cases b : 38 < x
  · exact (l7_high x w b a).mono fun e w' h => ⟨h.1, h.2 ▸ ⟨rfl, rfl, rfl⟩⟩
  have c : x = 35 ∨ x = 36 ∨ x = 37 ∨ x = 38 := by omega
  rcases c with rfl | rfl | rfl | rfl
  · exact (l7_35 w (T 35 (by decide)) (T 36 (by decide))).mono fun e w' h => ⟨h.1, h.2 ▸ ⟨rfl, rfl, rfl⟩⟩
  · exact (l7_36 w (T 36 (by decide)) (T 37 (by decide))).mono fun e w' h => ⟨h.1, h.2 ▸ ⟨rfl, rfl, rfl⟩⟩
  · exact (l7_37 w (T 37 (by decide)) (T 38 (by decide))).mono fun e w' h => ⟨h.1, h.2 ▸ ⟨rfl, rfl, rfl⟩⟩
  · exact (l7_38 w (T 38 (by decide)) (T 39 (by decide))).mono fun e w' h => ⟨h.1, h.2 ▸ ⟨rfl, rfl, rfl⟩⟩
end Go.Proofs.YtlhhddmclacjgaaDoor
