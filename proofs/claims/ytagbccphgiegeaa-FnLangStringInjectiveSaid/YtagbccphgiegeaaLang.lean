/- The contract of LangVariant.String, and the walk of the law FnLangStringInjective: it returns true at every pair of ints. -/
import Derived.Test.YtagbccphgiegeaaRunes
import Derived.WalkLawsBesides
namespace Go.Proofs.Ytagbccphgiegeaa
open Go.RowKit

def nm (x : Int) : ByteArray :=
  if x == 0 || x == 1 then ⟨#[98, 97, 115, 104]⟩ else if x == 2 then ⟨#[112, 111, 115, 105, 120]⟩ else if x == 4 then ⟨#[109, 107, 115, 104]⟩
  else if x == 8 then ⟨#[98, 97, 116, 115]⟩ else if x == 16 then ⟨#[122, 115, 104]⟩ else if x == 32 then ⟨#[97, 117, 116, 111]⟩
  else ⟨#[117, 110, 107, 110, 111, 119, 110, 32, 115, 104, 101, 108, 108, 32, 108, 97, 110, 103, 117, 97, 103, 101, 32, 118, 97, 114, 105, 97, 110, 116]⟩

theorem ret_string {a b : ByteArray} (h : a = b) : Ending.returned (.string a) = .returned (.string b) := by rw [h]

theorem lang_any (x : Int) (w : World) : Calls Try.prog 19 #[.int .i64 x] w fun e w' => e = .returned (.string (nm x)) ∧ w = w' := by
  go_enter Try.func19, Try.ntmps19
  go_wp2
  all_goals
    go_ret
    refine ⟨ret_string ?_, rfl⟩
    unfold nm
    simp [*]

def code (x : Int) : Nat := if x == 0 || x == 1 then 1 else if x == 2 then 2 else if x == 4 then 3 else if x == 8 then 4 else if x == 16 then 5 else if x == 32 then 6 else 0
def codeL (l : List UInt8) : Nat := if l = [98, 97, 115, 104] then 1 else if l = [112, 111, 115, 105, 120] then 2 else if l = [109, 107, 115, 104] then 3 else if l = [98, 97, 116, 115] then 4 else if l = [122, 115, 104] then 5 else if l = [97, 117, 116, 111] then 6 else 0
theorem codeL_nm (x : Int) : codeL (nm x).toList = code x := by
  unfold nm code
  by_cases h0 : (x == 0 || x == 1) = true
  · simp only [h0, if_true]; decide +kernel
  · by_cases h2 : (x == 2) = true
    · simp only [h0, h2, if_true]; decide +kernel
    · by_cases h4 : (x == 4) = true
      · simp only [h0, h2, h4, if_true]; decide +kernel
      · by_cases h8 : (x == 8) = true
        · simp only [h0, h2, h4, h8, if_true]; decide +kernel
        · by_cases h16 : (x == 16) = true
          · simp only [h0, h2, h4, h8, h16, if_true]; decide +kernel
          · by_cases h32 : (x == 32) = true
            · simp only [h0, h2, h4, h8, h16, h32, if_true]; decide +kernel
            · simp only [h0, h2, h4, h8, h16, h32]; decide +kernel
theorem nm_unknown (x : Int) (h : code x = 0) : ((nm x).toList == [117, 110, 107, 110, 111, 119, 110, 32, 115, 104, 101, 108, 108, 32, 108, 97, 110, 103, 117, 97, 103, 101, 32, 118, 97, 114, 105, 97, 110, 116]) = true := by
  unfold code at h
  unfold nm
  by_cases h0 : (x == 0 || x == 1) = true
  · simp [h0] at h
  · by_cases h2 : (x == 2) = true
    · simp [h0, h2] at h
    · by_cases h4 : (x == 4) = true
      · simp [h0, h2, h4] at h
      · by_cases h8 : (x == 8) = true
        · simp [h0, h2, h4, h8] at h
        · by_cases h16 : (x == 16) = true
          · simp [h0, h2, h4, h8, h16] at h
          · by_cases h32 : (x == 32) = true
            · simp [h0, h2, h4, h8, h16, h32] at h
            · simp only [h0, h2, h4, h8, h16, h32]; decide +kernel
theorem code_inj (a b : Int) (h : code a = code b) (hb : code b ≠ 0) : a = b ∨ ((a = 0 ∨ a = 1) ∧ (b = 0 ∨ b = 1)) := by
  unfold code at h hb
  simp only [Bool.or_eq_true, beq_iff_eq] at h hb
  split at hb
  all_goals repeat' split at h
  all_goals first | omega | (repeat' split at hb) <;> omega
theorem nm_inj (a b : Int) (h : (nm a).toList = (nm b).toList) (hb : ((nm b).toList == [117, 110, 107, 110, 111, 119, 110, 32, 115, 104, 101, 108, 108, 32, 108, 97, 110, 103, 117, 97, 103, 101, 32, 118, 97, 114, 105, 97, 110, 116]) = false) : a = b ∨ ((a = 0 ∨ a = 1) ∧ (b = 0 ∨ b = 1)) := by
  have e : code a = code b := by rw [← codeL_nm, ← codeL_nm, h]
  exact code_inj a b e (fun hz => by rw [nm_unknown b hz] at hb; cases hb)

theorem lang_law (a b : Int) (w : World) : Calls Try.prog 8 #[.int .i64 a, .int .i64 b] w fun e w' => e = .returned (.bool true) ∧ w = w' := by
  have K := Lib.hid (nm_inj a b)
  go_enter Try.func8, Try.ntmps8
  go_wp2_with (go_at_call 19; refine (lang_any _ _).mono ?_; rintro e w' ⟨rfl, rfl⟩)
  all_goals
    go_ret
    refine ⟨ret_bool ?_, rfl⟩
    first
      | rfl
      | (rcases K.out (by assumption) (by assumption) with h | h
         · simp_all
         · simp only [beq_eq_false_iff_ne] at *
           first | (simp; omega) | (exfalso; omega))
end Go.Proofs.Ytagbccphgiegeaa
