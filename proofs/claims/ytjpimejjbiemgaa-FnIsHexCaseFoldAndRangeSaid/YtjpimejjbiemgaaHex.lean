/- The walk of the law FnIsHexCaseFoldAndRange: it returns true at every int32. -/
import Derived.Test.YtjpimejjbiemgaaProg
import Derived.WalkKit
import Derived.WalkLawsBesides
import Derived.Lib.Hide
import Derived.OpenShut
namespace Go.Proofs.Ytjpimejjbiemgaa
open Go.RowKit

theorem ret_bool {a b : Bool} (h : a = b) : Ending.returned (.bool a) = .returned (.bool b) := by rw [h]
def hexB (r : Int) : Bool := decide ((48 ≤ r ∧ r ≤ 57) ∨ (97 ≤ r ∧ r ≤ 102) ∨ (65 ≤ r ∧ r ≤ 70))
theorem hex0 (r : Int) (w : World) (d : r ≤ 47) : Calls Try.prog 14 #[.int .i32 r] w fun e w' => e = .returned (.bool false) ∧ w = w' := by
  go_enter Try.func14, Try.ntmps14
  go_wp2
  go_ret
  exact ⟨ret_bool (by first | rfl | (simp; omega)), rfl⟩
theorem hex1 (r : Int) (w : World) (c : 48 ≤ r) (d : r ≤ 57) : Calls Try.prog 14 #[.int .i32 r] w fun e w' => e = .returned (.bool true) ∧ w = w' := by
  go_enter Try.func14, Try.ntmps14
  go_wp2
  go_ret
  exact ⟨ret_bool (by first | rfl | (simp; omega)), rfl⟩
theorem hex2 (r : Int) (w : World) (c : 58 ≤ r) (d : r ≤ 64) : Calls Try.prog 14 #[.int .i32 r] w fun e w' => e = .returned (.bool false) ∧ w = w' := by
  go_enter Try.func14, Try.ntmps14
  go_wp2
  go_ret
  exact ⟨ret_bool (by first | rfl | (simp; omega)), rfl⟩
theorem hex3 (r : Int) (w : World) (c : 65 ≤ r) (d : r ≤ 70) : Calls Try.prog 14 #[.int .i32 r] w fun e w' => e = .returned (.bool true) ∧ w = w' := by
  go_enter Try.func14, Try.ntmps14
  go_wp2
  go_ret
  exact ⟨ret_bool (by first | rfl | (simp; omega)), rfl⟩
theorem hex4 (r : Int) (w : World) (c : 71 ≤ r) (d : r ≤ 96) : Calls Try.prog 14 #[.int .i32 r] w fun e w' => e = .returned (.bool false) ∧ w = w' := by
  go_enter Try.func14, Try.ntmps14
  go_wp2
  go_ret
  exact ⟨ret_bool (by first | rfl | (simp; omega)), rfl⟩
theorem hex5 (r : Int) (w : World) (c : 97 ≤ r) (d : r ≤ 102) : Calls Try.prog 14 #[.int .i32 r] w fun e w' => e = .returned (.bool true) ∧ w = w' := by
  go_enter Try.func14, Try.ntmps14
  go_wp2
  go_ret
  exact ⟨ret_bool (by first | rfl | (simp; omega)), rfl⟩
theorem hex6 (r : Int) (w : World) (c : 103 ≤ r) : Calls Try.prog 14 #[.int .i32 r] w fun e w' => e = .returned (.bool false) ∧ w = w' := by
  go_enter Try.func14, Try.ntmps14
  go_wp2
  go_ret
  exact ⟨ret_bool (by first | rfl | (simp; omega)), rfl⟩
theorem hex_t (r : Int) (w : World) (h : (48 ≤ r ∧ r ≤ 57) ∨ (97 ≤ r ∧ r ≤ 102) ∨ (65 ≤ r ∧ r ≤ 70)) : Calls Try.prog 14 #[.int .i32 r] w fun e w' => e = .returned (.bool true) ∧ w = w' := by
  rcases h with ⟨a, b⟩ | ⟨a, b⟩ | ⟨a, b⟩
  · exact hex1 r w a b
  · exact hex5 r w a b
  · exact hex3 r w a b
theorem hex_f (r : Int) (w : World) (h : r ≤ 47 ∨ (58 ≤ r ∧ r ≤ 64) ∨ (71 ≤ r ∧ r ≤ 96) ∨ 103 ≤ r) : Calls Try.prog 14 #[.int .i32 r] w fun e w' => e = .returned (.bool false) ∧ w = w' := by
  rcases h with a | ⟨a, b⟩ | ⟨a, b⟩ | a
  · exact hex0 r w a
  · exact hex2 r w a b
  · exact hex4 r w a b
  · exact hex6 r w a
theorem law0 (r : Int) (w : World) (h0 : -2147483648 ≤ r) (h1 : r ≤ 2147483647) (d : r ≤ 47) : Calls Try.prog 4 #[.int .i32 r] w fun e w' => e = .returned (.bool true) ∧ w = w' := by
  go_enter Try.func4, Try.ntmps4
  go_wp2_with (first | (go_at_call 14; refine (hex_t _ _ (by omega)).mono ?_; rintro e w' ⟨rfl, rfl⟩) | (go_at_call 14; refine (hex_f _ _ (by omega)).mono ?_; rintro e w' ⟨rfl, rfl⟩))
  go_ret
  exact ⟨ret_bool (by first | rfl | (simp; omega)), rfl⟩
theorem law1 (r : Int) (w : World) (h0 : -2147483648 ≤ r) (h1 : r ≤ 2147483647) (c : 48 ≤ r) (d : r ≤ 57) : Calls Try.prog 4 #[.int .i32 r] w fun e w' => e = .returned (.bool true) ∧ w = w' := by
  go_enter Try.func4, Try.ntmps4
  go_wp2_with (first | (go_at_call 14; refine (hex_t _ _ (by omega)).mono ?_; rintro e w' ⟨rfl, rfl⟩) | (go_at_call 14; refine (hex_f _ _ (by omega)).mono ?_; rintro e w' ⟨rfl, rfl⟩))
  go_ret
  exact ⟨ret_bool (by first | rfl | (simp; omega)), rfl⟩
theorem law2 (r : Int) (w : World) (h0 : -2147483648 ≤ r) (h1 : r ≤ 2147483647) (c : 58 ≤ r) (d : r ≤ 64) : Calls Try.prog 4 #[.int .i32 r] w fun e w' => e = .returned (.bool true) ∧ w = w' := by
  go_enter Try.func4, Try.ntmps4
  go_wp2_with (first | (go_at_call 14; refine (hex_t _ _ (by omega)).mono ?_; rintro e w' ⟨rfl, rfl⟩) | (go_at_call 14; refine (hex_f _ _ (by omega)).mono ?_; rintro e w' ⟨rfl, rfl⟩))
  go_ret
  exact ⟨ret_bool (by first | rfl | (simp; omega)), rfl⟩
theorem law3 (r : Int) (w : World) (h0 : -2147483648 ≤ r) (h1 : r ≤ 2147483647) (c : 65 ≤ r) (d : r ≤ 70) : Calls Try.prog 4 #[.int .i32 r] w fun e w' => e = .returned (.bool true) ∧ w = w' := by
  go_enter Try.func4, Try.ntmps4
  go_wp2_with (first | (go_at_call 14; refine (hex_t _ _ (by omega)).mono ?_; rintro e w' ⟨rfl, rfl⟩) | (go_at_call 14; refine (hex_f _ _ (by omega)).mono ?_; rintro e w' ⟨rfl, rfl⟩))
  go_ret
  exact ⟨ret_bool (by first | rfl | (simp; omega)), rfl⟩
theorem law4 (r : Int) (w : World) (h0 : -2147483648 ≤ r) (h1 : r ≤ 2147483647) (c : 71 ≤ r) (d : r ≤ 90) : Calls Try.prog 4 #[.int .i32 r] w fun e w' => e = .returned (.bool true) ∧ w = w' := by
  go_enter Try.func4, Try.ntmps4
  go_wp2_with (first | (go_at_call 14; refine (hex_t _ _ (by omega)).mono ?_; rintro e w' ⟨rfl, rfl⟩) | (go_at_call 14; refine (hex_f _ _ (by omega)).mono ?_; rintro e w' ⟨rfl, rfl⟩))
  go_ret
  exact ⟨ret_bool (by first | rfl | (simp; omega)), rfl⟩
theorem law5 (r : Int) (w : World) (h0 : -2147483648 ≤ r) (h1 : r ≤ 2147483647) (c : 91 ≤ r) (d : r ≤ 96) : Calls Try.prog 4 #[.int .i32 r] w fun e w' => e = .returned (.bool true) ∧ w = w' := by
  go_enter Try.func4, Try.ntmps4
  go_wp2_with (first | (go_at_call 14; refine (hex_t _ _ (by omega)).mono ?_; rintro e w' ⟨rfl, rfl⟩) | (go_at_call 14; refine (hex_f _ _ (by omega)).mono ?_; rintro e w' ⟨rfl, rfl⟩))
  go_ret
  exact ⟨ret_bool (by first | rfl | (simp; omega)), rfl⟩
theorem law6 (r : Int) (w : World) (h0 : -2147483648 ≤ r) (h1 : r ≤ 2147483647) (c : 97 ≤ r) (d : r ≤ 102) : Calls Try.prog 4 #[.int .i32 r] w fun e w' => e = .returned (.bool true) ∧ w = w' := by
  go_enter Try.func4, Try.ntmps4
  go_wp2_with (first | (go_at_call 14; refine (hex_t _ _ (by omega)).mono ?_; rintro e w' ⟨rfl, rfl⟩) | (go_at_call 14; refine (hex_f _ _ (by omega)).mono ?_; rintro e w' ⟨rfl, rfl⟩))
  go_ret
  exact ⟨ret_bool (by first | rfl | (simp; omega)), rfl⟩
theorem law7 (r : Int) (w : World) (h0 : -2147483648 ≤ r) (h1 : r ≤ 2147483647) (c : 103 ≤ r) (d : r ≤ 122) : Calls Try.prog 4 #[.int .i32 r] w fun e w' => e = .returned (.bool true) ∧ w = w' := by
  go_enter Try.func4, Try.ntmps4
  go_wp2_with (first | (go_at_call 14; refine (hex_t _ _ (by omega)).mono ?_; rintro e w' ⟨rfl, rfl⟩) | (go_at_call 14; refine (hex_f _ _ (by omega)).mono ?_; rintro e w' ⟨rfl, rfl⟩))
  go_ret
  exact ⟨ret_bool (by first | rfl | (simp; omega)), rfl⟩
theorem law8 (r : Int) (w : World) (h0 : -2147483648 ≤ r) (h1 : r ≤ 2147483647) (c : 123 ≤ r) : Calls Try.prog 4 #[.int .i32 r] w fun e w' => e = .returned (.bool true) ∧ w = w' := by
  go_enter Try.func4, Try.ntmps4
  go_wp2_with (first | (go_at_call 14; refine (hex_t _ _ (by omega)).mono ?_; rintro e w' ⟨rfl, rfl⟩) | (go_at_call 14; refine (hex_f _ _ (by omega)).mono ?_; rintro e w' ⟨rfl, rfl⟩))
  go_ret
  exact ⟨ret_bool (by first | rfl | (simp; omega)), rfl⟩
theorem hex_law (r : Int) (w : World) (h0 : -2147483648 ≤ r) (h1 : r ≤ 2147483647) : Calls Try.prog 4 #[.int .i32 r] w fun e w' => e = .returned (.bool true) ∧ w = w' := by
  have c : r ≤ 47 ∨ (48 ≤ r ∧ r ≤ 57) ∨ (58 ≤ r ∧ r ≤ 64) ∨ (65 ≤ r ∧ r ≤ 70) ∨ (71 ≤ r ∧ r ≤ 90) ∨ (91 ≤ r ∧ r ≤ 96) ∨ (97 ≤ r ∧ r ≤ 102) ∨ (103 ≤ r ∧ r ≤ 122) ∨ 123 ≤ r := by omega
  rcases c with c | ⟨c, d⟩ | ⟨c, d⟩ | ⟨c, d⟩ | ⟨c, d⟩ | ⟨c, d⟩ | ⟨c, d⟩ | ⟨c, d⟩ | c
  · exact law0 r w h0 h1 c
  · exact law1 r w h0 h1 c d
  · exact law2 r w h0 h1 c d
  · exact law3 r w h0 h1 c d
  · exact law4 r w h0 h1 c d
  · exact law5 r w h0 h1 c d
  · exact law6 r w h0 h1 c d
  · exact law7 r w h0 h1 c d
  · exact law8 r w h0 h1 c
end Go.Proofs.Ytjpimejjbiemgaa
