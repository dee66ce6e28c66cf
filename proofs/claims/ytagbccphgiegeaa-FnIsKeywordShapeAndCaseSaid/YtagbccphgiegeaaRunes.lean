/- Contracts of the rune predicates of package syntax (asciiLetter, asciiDigit, paramNameRune, positionalRuneParam, singleRuneParam, paramNameStartRune) and of the law file's asciiLetterModel and inSet: each returns what a plain Bool function of the rune says, and leaves the world alone. Conditions: the rune is an int32; the set's length fits an int. -/
import Derived.Test.YtagbccphgiegeaaProg
import Derived.WalkKit
import Derived.Laws.BitsAll
import Derived.Lib.Hide
namespace Go.Proofs.Ytagbccphgiegeaa
open Go.RowKit

theorem or32 (n : Nat) : n ||| 32 = n + (if n / 32 % 2 = 0 then 32 else 0) := by
  have h1 : n = n / 64 * 64 + (n % 64) := by omega
  have h2 : n % 64 ||| 32 = n % 64 + (if n / 32 % 2 = 0 then 32 else 0) := by
    have hm : n / 32 % 2 = n % 64 / 32 % 2 := by omega
    rw [hm]
    have hlt : n % 64 < 64 := by omega
    generalize n % 64 = m at *
    have : ∀ m : Fin 64, (m.val ||| 32) = m.val + (if m.val / 32 % 2 = 0 then 32 else 0) := by decide
    exact this ⟨m, hlt⟩
  have h3 : n / 64 * 64 ||| n % 64 = n := by
    rw [nat_join 6 (n / 64 * 64) (n % 64) (by omega) (by omega)]; omega
  have h4 : (n % 64 ||| 32) < 64 := by rw [h2]; split <;> omega
  have h5 : n ||| 32 = n / 64 * 64 ||| (n % 64 ||| 32) := by rw [← Nat.or_assoc, h3]
  rw [h5, nat_join 6 _ _ (by omega) h4, h2]; omega

theorem ret_bool {a b : Bool} (h : a = b) : Ending.returned (.bool a) = .returned (.bool b) := by rw [h]

def letB (x : Int) : Bool := decide ((97 ≤ x ∧ x ≤ 122) ∨ (65 ≤ x ∧ x ≤ 90))
def digB (x : Int) : Bool := decide (48 ≤ x ∧ x ≤ 57)
def nameB (x : Int) : Bool := letB x || digB x || x == 95
def specB (x : Int) : Bool := x == 64 || x == 42 || x == 35 || x == 36 || x == 63 || x == 33 || x == 45
def oneB (x : Int) : Bool := specB x || digB x
def startB (x : Int) : Bool := oneB x || nameB x

theorem fold_i32 (x : Int) (h0 : -2147483648 ≤ x) (h1 : x ≤ 2147483647) :
    (97 ≤ bits .or .i32 x 32 ∧ bits .or .i32 x 32 ≤ 122) ↔ ((97 ≤ x ∧ x ≤ 122) ∨ (65 ≤ x ∧ x ≤ 90)) := by
  have hb : bits .or .i32 x 32 = IntKind.i32.wrap (((x % 4294967296).toNat ||| 32 : Nat) : Int) := by
    show IntKind.i32.wrap ((BitVec.ofInt 32 x ||| BitVec.ofInt 32 32).toNat : Int) = _
    rw [BitVec.toNat_or, BitVec.toNat_ofInt]; rfl
  rw [hb, or32, IntKind.wrap_i32]
  split <;> omega

theorem model_any (x : Int) (w : World) (h0 : -2147483648 ≤ x) (h1 : x ≤ 2147483647) :
    Calls Try.prog 9 #[.int .i32 x] w fun e w' => e = .returned (.bool (letB x)) ∧ w = w' := by
  have hf := fold_i32 x h0 h1
  have e1 : letB x = decide (97 ≤ bits .or .i32 x 32 ∧ bits .or .i32 x 32 ≤ 122) := by unfold letB; rw [Bool.eq_iff_iff]; simp [hf]
  have E1 := Lib.hid e1
  clear e1 hf
  by_cases a : 97 ≤ bits .or .i32 x 32
  · by_cases b : bits .or .i32 x 32 ≤ 122
    · go_enter Try.func9, Try.ntmps9
      go_wp2
      go_ret
      exact ⟨by rw [E1.out]; simp [a, b], rfl⟩
    · go_enter Try.func9, Try.ntmps9
      go_wp2
      go_ret
      exact ⟨by rw [E1.out]; simp [b], rfl⟩
  · go_enter Try.func9, Try.ntmps9
    go_wp2
    go_ret
    exact ⟨ret_bool (by rw [E1.out]; symm; first | (rw [decide_eq_false_iff_not]; omega) | (rw [decide_eq_decide]; omega)), rfl⟩

theorem dig_any (x : Int) (w : World) : Calls Try.prog 26 #[.int .i32 x] w fun e w' => e = .returned (.bool (digB x)) ∧ w = w' := by
  have E1 := Lib.hid (show digB x = decide (48 ≤ x ∧ x ≤ 57) from rfl)
  by_cases a : 48 ≤ x <;> by_cases b : x ≤ 57 <;>
  · go_enter Try.func26, Try.ntmps26
    go_wp2
    go_ret
    exact ⟨by rw [E1.out]; simp [a, b], rfl⟩

theorem let_any (x : Int) (w : World) : Calls Try.prog 25 #[.int .i32 x] w fun e w' => e = .returned (.bool (letB x)) ∧ w = w' := by
  have E1 := Lib.hid (show letB x = decide ((97 ≤ x ∧ x ≤ 122) ∨ (65 ≤ x ∧ x ≤ 90)) from rfl)
  by_cases a : 97 ≤ x
  · by_cases b : x ≤ 122
    · go_enter Try.func25, Try.ntmps25
      go_wp2
      go_ret
      exact ⟨ret_bool (by rw [E1.out]; symm; rw [decide_eq_true_iff]; omega), rfl⟩
    · go_enter Try.func25, Try.ntmps25
      go_wp2
      go_ret
      exact ⟨ret_bool (by rw [E1.out]; symm; first | (rw [decide_eq_false_iff_not]; omega) | (rw [decide_eq_decide]; omega)), rfl⟩
  · by_cases c : 65 ≤ x
    · by_cases d : x ≤ 90
      · go_enter Try.func25, Try.ntmps25
        go_wp2
        go_ret
        exact ⟨ret_bool (by rw [E1.out]; symm; rw [decide_eq_true_iff]; omega), rfl⟩
      · go_enter Try.func25, Try.ntmps25
        go_wp2
        go_ret
        exact ⟨ret_bool (by rw [E1.out]; symm; first | (rw [decide_eq_false_iff_not]; omega) | (rw [decide_eq_decide]; omega)), rfl⟩
    · go_enter Try.func25, Try.ntmps25
      go_wp2
      go_ret
      exact ⟨ret_bool (by rw [E1.out]; symm; first | (rw [decide_eq_false_iff_not]; omega) | (rw [decide_eq_decide]; omega)), rfl⟩

theorem name_any (x : Int) (w : World) : Calls Try.prog 20 #[.int .i32 x] w fun e w' => e = .returned (.bool (nameB x)) ∧ w = w' := by
  have E1 := Lib.hid (show nameB x = (letB x || digB x || x == 95) from rfl)
  cases ha : letB x
  · cases hb : digB x
    · go_enter Try.func20, Try.ntmps20
      go_wp2_with (first | (go_at_call 25; refine (let_any _ _).mono ?_; rintro e w' ⟨rfl, rfl⟩) | (go_at_call 26; refine (dig_any _ _).mono ?_; rintro e w' ⟨rfl, rfl⟩))
      go_ret
      exact ⟨by rw [E1.out, ha, hb]; simp, rfl⟩
    · go_enter Try.func20, Try.ntmps20
      go_wp2_with (first | (go_at_call 25; refine (let_any _ _).mono ?_; rintro e w' ⟨rfl, rfl⟩) | (go_at_call 26; refine (dig_any _ _).mono ?_; rintro e w' ⟨rfl, rfl⟩))
      go_ret
      exact ⟨by rw [E1.out, ha, hb]; simp, rfl⟩
  · go_enter Try.func20, Try.ntmps20
    go_wp2_with (first | (go_at_call 25; refine (let_any _ _).mono ?_; rintro e w' ⟨rfl, rfl⟩) | (go_at_call 26; refine (dig_any _ _).mono ?_; rintro e w' ⟨rfl, rfl⟩))
    go_ret
    exact ⟨by rw [E1.out, ha]; simp, rfl⟩

theorem pos_any (x : Int) (w : World) : Calls Try.prog 27 #[.int .i32 x] w fun e w' => e = .returned (.bool (digB x)) ∧ w = w' := by
  have E1 := Lib.hid (show digB x = decide (48 ≤ x ∧ x ≤ 57) from rfl)
  go_enter Try.func27, Try.ntmps27
  go_wp2
  all_goals
    go_ret
    refine ⟨ret_bool ?_, rfl⟩
    rw [E1.out]
    simp only [beq_iff_eq, beq_eq_false_iff_ne] at *
    symm
    first | (rw [decide_eq_true_iff]; omega) | (rw [decide_eq_false_iff_not]; omega)

theorem one_any (x : Int) (w : World) : Calls Try.prog 22 #[.int .i32 x] w fun e w' => e = .returned (.bool (oneB x)) ∧ w = w' := by
  have E1 := Lib.hid (show oneB x = (specB x || digB x) from rfl)
  go_enter Try.func22, Try.ntmps22
  go_wp2_with (go_at_call 27; refine (pos_any _ _).mono ?_; rintro e w' ⟨rfl, rfl⟩)
  all_goals
    go_ret
    refine ⟨ret_bool ?_, rfl⟩
    rw [E1.out]
    unfold specB
    simp [*]

theorem start_any (x : Int) (w : World) : Calls Try.prog 21 #[.int .i32 x] w fun e w' => e = .returned (.bool (startB x)) ∧ w = w' := by
  have E1 := Lib.hid (show startB x = (oneB x || nameB x) from rfl)
  cases ha : oneB x
  · go_enter Try.func21, Try.ntmps21
    go_wp2_with (first | (go_at_call 22; refine (one_any _ _).mono ?_; rintro e w' ⟨rfl, rfl⟩) | (go_at_call 20; refine (name_any _ _).mono ?_; rintro e w' ⟨rfl, rfl⟩))
    go_ret
    exact ⟨by rw [E1.out, ha]; simp, rfl⟩
  · go_enter Try.func21, Try.ntmps21
    go_wp2_with (first | (go_at_call 22; refine (one_any _ _).mono ?_; rintro e w' ⟨rfl, rfl⟩) | (go_at_call 20; refine (name_any _ _).mono ?_; rintro e w' ⟨rfl, rfl⟩))
    go_ret
    exact ⟨by rw [E1.out, ha]; simp, rfl⟩

def setB (l : List UInt8) (x : Int) : Bool := l.any fun c => (c.toNat : Int) == x
theorem setB_snoc (l : List UInt8) (c : UInt8) (x : Int) : setB (l ++ [c]) x = (setB l x || ((c.toNat : Int) == x)) := by simp [setB]
theorem take_snoc (s : ByteArray) (k : Nat) (h : k < s.size) : s.data.toList.take (k + 1) = s.data.toList.take k ++ [s[k]] := by
  rw [List.take_succ_eq_append_getElem (by simpa using h)]; rfl
theorem setB_hit (s : ByteArray) (k : Nat) (h : k < s.size) (x : Int) (e : ((s[k].toNat : Int) == x) = true) : setB s.data.toList x = true := by
  simp only [setB, List.any_eq_true]
  exact ⟨s[k], by show s.data[k] ∈ _; simp, e⟩

theorem wrap32_byte (c : UInt8) : wrap32 (c.toNat : Int) = c.toNat := by
  have := c.toNat_lt; unfold wrap32; omega

theorem inSet_any (s : ByteArray) (x : Int) (w : World) (hs : s.size ≤ maxLen) :
    Calls Try.prog 10 #[.string s, .int .i32 x] w fun e w' => e = .returned (.bool (setB s.data.toList x)) ∧ w = w' := by
  unfold maxLen at hs
  go_enter Try.func10, Try.ntmps10
  go_wp2
  go_loop [5] (fun i => ∃ k : Nat, k ≤ s.size ∧ i = .int .i64 k ∧ setB (s.data.toList.take k) x = false) (fun i => s.size - (intOf i).toNat)
  case atStart => exact ⟨0, Nat.zero_le _, rfl, rfl⟩
  case round =>
    obtain ⟨k, hk, rfl, hn⟩ := hrel
    have HN := Lib.hid hn
    clear hn
    by_cases hlt : k < s.size
    · go_wp2
      · have ht : (wrap32 (s[k].toNat : Int) == x) = true := by assumption
        rw [wrap32_byte] at ht
        go_ret
        exact ⟨ret_bool (setB_hit s k hlt x ht).symm, rfl⟩
      · have hf : (wrap32 (s[k].toNat : Int) == x) = false := by assumption
        rw [wrap32_byte] at hf
        go_round
        case rel => exact ⟨k + 1, by omega, by go_num, by rw [take_snoc s k hlt, setB_snoc, HN.out, hf]; rfl⟩
        case measure => simp [intOf]; omega
    · go_wp2
      go_ret
      exact ⟨ret_bool (by rw [← HN.out, List.take_of_length_le (by simp; omega)]), rfl⟩
end Go.Proofs.Ytagbccphgiegeaa
