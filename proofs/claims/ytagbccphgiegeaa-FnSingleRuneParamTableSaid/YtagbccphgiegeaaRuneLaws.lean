/- The walks of the three rune laws (FnParamNameRuneTable, FnParamNameStartRuneTable, FnSingleRuneParamTable): each returns true at every int32 rune, and leaves the world alone. -/
import Derived.Test.YtagbccphgiegeaaRunes
import Derived.OpenShut
namespace Go.Proofs.Ytagbccphgiegeaa
open Go.RowKit

theorem set11 (x : Int) : setB [48, 49, 50, 51, 52, 53, 54, 55, 56, 57, 95] x = (digB x || x == 95) := by
  rw [Bool.eq_iff_iff]; simp [setB, digB]; omega
theorem set18 (x : Int) : (letB x || setB [64, 42, 35, 36, 63, 33, 45, 95, 48, 49, 50, 51, 52, 53, 54, 55, 56, 57] x) = startB x := by
  rw [Bool.eq_iff_iff]; simp [setB, digB, letB, startB, oneB, specB, nameB]; omega
theorem set17 (x : Int) : setB [64, 42, 35, 36, 63, 33, 45, 48, 49, 50, 51, 52, 53, 54, 55, 56, 57] x = oneB x := by
  rw [Bool.eq_iff_iff]; simp [setB, digB, oneB, specB]; omega

theorem name_law (x : Int) (w : World) (h0 : -2147483648 ≤ x) (h1 : x ≤ 2147483647) :
    Calls Try.prog 3 #[.int .i32 x] w fun e w' => e = .returned (.bool true) ∧ w = w' := by
  have E1 := Lib.hid (show nameB x = (letB x || setB [48, 49, 50, 51, 52, 53, 54, 55, 56, 57, 95] x) by rw [set11, ← Bool.or_assoc]; rfl)
  cases ha : letB x
  · go_enter Try.func3, Try.ntmps3
    go_wp2_with (first | (go_at_call 9; refine (model_any _ _ h0 h1).mono ?_; rintro e w' ⟨rfl, rfl⟩) | (go_at_call 10; refine (inSet_any _ _ _ (by decide)).mono ?_; rintro e w' ⟨rfl, rfl⟩) | (go_at_call 20; refine (name_any _ _).mono ?_; rintro e w' ⟨rfl, rfl⟩) | (go_at_call 21; refine (start_any _ _).mono ?_; rintro e w' ⟨rfl, rfl⟩) | (go_at_call 22; refine (one_any _ _).mono ?_; rintro e w' ⟨rfl, rfl⟩) | go_in)
    go_ret
    exact ⟨ret_bool (by rw [E1.out, ha]; simp), rfl⟩
  · go_enter Try.func3, Try.ntmps3
    go_wp2_with (first | (go_at_call 9; refine (model_any _ _ h0 h1).mono ?_; rintro e w' ⟨rfl, rfl⟩) | (go_at_call 10; refine (inSet_any _ _ _ (by decide)).mono ?_; rintro e w' ⟨rfl, rfl⟩) | (go_at_call 20; refine (name_any _ _).mono ?_; rintro e w' ⟨rfl, rfl⟩) | (go_at_call 21; refine (start_any _ _).mono ?_; rintro e w' ⟨rfl, rfl⟩) | (go_at_call 22; refine (one_any _ _).mono ?_; rintro e w' ⟨rfl, rfl⟩) | go_in)
    go_ret
    exact ⟨ret_bool (by rw [E1.out, ha]; simp), rfl⟩

theorem start_law (x : Int) (w : World) (h0 : -2147483648 ≤ x) (h1 : x ≤ 2147483647) :
    Calls Try.prog 4 #[.int .i32 x] w fun e w' => e = .returned (.bool true) ∧ w = w' := by
  have E1 := Lib.hid (set18 x)
  cases ha : letB x
  · go_enter Try.func4, Try.ntmps4
    go_wp2_with (first | (go_at_call 9; refine (model_any _ _ h0 h1).mono ?_; rintro e w' ⟨rfl, rfl⟩) | (go_at_call 10; refine (inSet_any _ _ _ (by decide)).mono ?_; rintro e w' ⟨rfl, rfl⟩) | (go_at_call 20; refine (name_any _ _).mono ?_; rintro e w' ⟨rfl, rfl⟩) | (go_at_call 21; refine (start_any _ _).mono ?_; rintro e w' ⟨rfl, rfl⟩) | (go_at_call 22; refine (one_any _ _).mono ?_; rintro e w' ⟨rfl, rfl⟩) | go_in)
    go_ret
    exact ⟨ret_bool (by rw [← E1.out, ha]; simp), rfl⟩
  · go_enter Try.func4, Try.ntmps4
    go_wp2_with (first | (go_at_call 9; refine (model_any _ _ h0 h1).mono ?_; rintro e w' ⟨rfl, rfl⟩) | (go_at_call 10; refine (inSet_any _ _ _ (by decide)).mono ?_; rintro e w' ⟨rfl, rfl⟩) | (go_at_call 20; refine (name_any _ _).mono ?_; rintro e w' ⟨rfl, rfl⟩) | (go_at_call 21; refine (start_any _ _).mono ?_; rintro e w' ⟨rfl, rfl⟩) | (go_at_call 22; refine (one_any _ _).mono ?_; rintro e w' ⟨rfl, rfl⟩) | go_in)
    go_ret
    exact ⟨ret_bool (by rw [← E1.out, ha]; simp), rfl⟩

theorem one_law (x : Int) (w : World) :
    Calls Try.prog 5 #[.int .i32 x] w fun e w' => e = .returned (.bool true) ∧ w = w' := by
  have E1 := Lib.hid (set17 x)
  go_enter Try.func5, Try.ntmps5
  go_wp2_with (first | (go_at_call 10; refine (inSet_any _ _ _ (by decide)).mono ?_; rintro e w' ⟨rfl, rfl⟩) | (go_at_call 22; refine (one_any _ _).mono ?_; rintro e w' ⟨rfl, rfl⟩) | go_in)
  go_ret
  exact ⟨ret_bool (by rw [← E1.out]; simp), rfl⟩
end Go.Proofs.Ytagbccphgiegeaa
