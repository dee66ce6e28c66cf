/- The contracts of numberLiteral[string], asciiDigit[rune] and positionalRuneParam. -/
import Derived.Test.YtjpimejjbiemgaaAdv
import Derived.Laws.RangeAny
import Derived.Laws.BytesString
namespace Go.Proofs.Ytjpimejjbiemgaa
open Go.RowKit
set_option linter.unusedVariables false

def dig (n : Int) : Bool := decide (48 ≤ n ∧ n ≤ 57)
theorem dig_iff {n : Int} (a : 48 ≤ n) (b : n ≤ 57) : dig n = true := by simp [dig, a, b]
theorem dig_not {n : Int} (a : ¬ (48 ≤ n ∧ n ≤ 57)) : dig n = false := by simp [dig]; omega
/-- every byte below 'pos' is a digit -/
def digs (s : ByteArray) (pos : Nat) : Prop := ∀ i (h : i < s.size), i < pos → dig (s[i]'h).toNat = true
def numB (s : ByteArray) : Bool := decide (s.size ≠ 0) && s.data.toList.all fun c => dig c.toNat

theorem numB_true (s : ByteArray) (h0 : s.size ≠ 0) (h : digs s s.size) : numB s = true := by
  unfold numB
  simp only [Bool.and_eq_true, decide_eq_true_eq, List.all_eq_true]
  refine ⟨h0, fun c hc => ?_⟩
  obtain ⟨i, hi, rfl⟩ := List.getElem_of_mem hc
  exact h i (by simpa using hi) (by simpa using hi)
theorem numB_false (s : ByteArray) (i : Nat) (hi : i < s.size) (h : dig (s[i]'hi).toNat = false) : numB s = false := by
  unfold numB
  rw [Bool.and_eq_false_iff]
  right
  rw [List.all_eq_false]
  exact ⟨s[i]'hi, List.getElem_mem (by simpa using hi), by rw [h]; simp⟩
theorem numB_empty (s : ByteArray) (h : s.size = 0) : numB s = false := by simp [numB, h]

theorem aDigit (r : Int) (w : World) : Calls Try.prog 49 #[.int .i32 r] w fun e w' => e = .returned (.bool (dig r)) ∧ w = w' := by
  by_cases h1 : 48 ≤ r
  · by_cases h2 : r ≤ 57
    · go_enter Try.func49, Try.ntmps49
      go_wp2
      go_ret
      exact ⟨ret_bool' (by simp [dig, h1, h2]), rfl⟩
    · go_enter Try.func49, Try.ntmps49
      go_wp2
      go_ret
      exact ⟨ret_bool' (by simp [dig, h1, h2]), rfl⟩
  · go_enter Try.func49, Try.ntmps49
    go_wp2
    go_ret
    exact ⟨ret_bool' (by rw [dig_not (by omega)]), rfl⟩
theorem numLit_empty (s : ByteArray) (w : World) (h0 : s.size = 0) : Calls Try.prog 36 #[.string s] w fun e w' => e = .returned (.bool (numB s)) ∧ Below w.heap.size w w' := by
  rw [numB_empty s h0]
  go_enter Try.func36, Try.ntmps36
  go_wp2
  go_ret
  exact ⟨rfl, Below.refl _ _⟩
theorem below_iter (w : World) (s : ByteArray) (p : Nat) : Below w.heap.size w (w.iter s p) := (Below.refl _ _).alloc (Nat.le_refl _) _
theorem numLit_some (s : ByteArray) (w : World) (h0 : s.size ≠ 0) : Calls Try.prog 36 #[.string s] w fun e w' => e = .returned (.bool (numB s)) ∧ Below w.heap.size w w' := by
  go_enter Try.func36, Try.ntmps36
  go_wp2
  have e0 : ((s.size : Int) == 0) = false := beq_eq_false_iff_ne.2 (by omega)
  rw [e0]
  clear e0
  go_loopw [4] (fun _ w' => ∃ pos, w' = w.iter s pos ∧ digs s pos ∧ pos ≤ s.size) (fun _ w' => s.size - w'.iterPos w.heap.size)
  case atStart => exact ⟨0, rfl, fun i _ h => absurd h (Nat.not_lt_zero _), Nat.zero_le _⟩
  case round =>
    obtain ⟨pos, rfl, hd, hps⟩ := hrel
    have HD := Lib.hid hd
    clear hd
    by_cases hp : pos < s.size
    · by_cases hg : dig (s[pos]'hp).toNat = true
      · have hlt : (s[pos]'hp).toNat < 128 := by
          unfold dig at hg
          have := of_decide_eq_true hg
          omega
        have hnx : ∀ ty, (Instr.next (.pointer (some ⟨w.heap.size, 0, none⟩)) true ty).run Try.prog (w.iter s pos) = _ := fun ty => run_next_ascii w s pos ty hp hlt
        obtain ⟨x, hx⟩ : ∃ x, x = (s[pos]'hp).toNat := ⟨_, rfl⟩
        rw [← hx] at hg hnx
        have HX := Lib.hid hx
        clear hx hlt
        go_wp2_with (go_at_call 49; refine (aDigit _ _).mono ?_; rintro e w1 ⟨rfl, rfl⟩)
        go_roundw
        case rel =>
          refine ⟨pos + 1, rfl, fun i hi hip => ?_, hp⟩
          by_cases hie : i = pos
          · subst hie; rw [← HX.out]; exact hg
          · exact HD.out i hi (by omega)
        case measure => simp; omega
      · have hg' : dig (Utf8.decode s pos).1 = false := by
          by_cases ha : (s[pos]'hp).toNat < 128
          · rw [decode_ascii s pos hp ha]; simpa using hg
          · exact dig_not (by have := (decode_high s pos hp (by omega)).1; omega)
        have hnx : ∀ ty, (Instr.next (.pointer (some ⟨w.heap.size, 0, none⟩)) true ty).run Try.prog (w.iter s pos) = _ := fun ty => run_next_any w s pos ty hp
        have EE := Lib.hid (numB_false s pos hp (by simpa using hg))
        clear hg
        obtain ⟨x, hx⟩ : ∃ x, x = Utf8.decode s pos := ⟨_, rfl⟩
        rw [← hx] at hg' hnx
        obtain ⟨x1, x2⟩ := x
        clear hx
        go_wp2_with (go_at_call 49; refine (aDigit _ _).mono ?_; rintro e w1 ⟨rfl, rfl⟩)
        go_ret
        exact ⟨ret_bool' (by rw [EE.out]), below_iter _ _ _⟩
    · have hnx : ∀ ty, (Instr.next (.pointer (some ⟨w.heap.size, 0, none⟩)) true ty).run Try.prog (w.iter s pos) = _ := fun ty => run_next_end w s pos ty hp
      have EE := Lib.hid (numB_true s h0 (by rw [show s.size = pos by omega]; exact HD.out))
      go_wp2
      go_ret
      exact ⟨ret_bool' (by rw [EE.out]), below_iter _ _ _⟩
theorem numLit (s : ByteArray) (w : World) : Calls Try.prog 36 #[.string s] w fun e w' => e = .returned (.bool (numB s)) ∧ Below w.heap.size w w' := by
  by_cases h0 : s.size = 0
  · exact numLit_empty s w h0
  · exact numLit_some s w h0
theorem numLitE (s : ByteArray) (w : World) : Calls Try.prog 9 #[.string s] w fun e w' => e = .returned (.bool (numB s)) ∧ Below w.heap.size w w' := by
  go_enter Try.func9, Try.ntmps9
  go_wp2_with (go_at_call 36; refine (numLit _ _).mono ?_; rintro e w1 ⟨rfl, hb⟩)
  go_ret
  exact ⟨rfl, hb⟩
theorem posByte (b : Int) (w : World) : Calls Try.prog 10 #[.int .u8 b] w fun e w' => e = .returned (.bool (dig b)) ∧ w = w' := by
  by_cases h : 48 ≤ b ∧ b ≤ 57
  · rcases (show b = 48 ∨ b = 49 ∨ b = 50 ∨ b = 51 ∨ b = 52 ∨ b = 53 ∨ b = 54 ∨ b = 55 ∨ b = 56 ∨ b = 57 by omega) with rfl | rfl | rfl | rfl | rfl | rfl | rfl | rfl | rfl | rfl
    all_goals
      go_enter Try.func10, Try.ntmps10
      go_wp2_with (go_at_call 37; go_in)
      go_ret
      exact ⟨rfl, rfl⟩
  · have EE := Lib.hid (dig_not h)
    go_enter Try.func10, Try.ntmps10
    go_wp2_with (go_at_call 37; go_in)
    all_goals first | (go_ret; exact ⟨ret_bool' (by rw [EE.out]), rfl⟩) | (exfalso; simp_all; omega)
theorem posRune (b : Int) (w : World) : Calls Try.prog 13 #[.int .i32 b] w fun e w' => e = .returned (.bool (dig b)) ∧ w = w' := by
  by_cases h : 48 ≤ b ∧ b ≤ 57
  · rcases (show b = 48 ∨ b = 49 ∨ b = 50 ∨ b = 51 ∨ b = 52 ∨ b = 53 ∨ b = 54 ∨ b = 55 ∨ b = 56 ∨ b = 57 by omega) with rfl | rfl | rfl | rfl | rfl | rfl | rfl | rfl | rfl | rfl
    all_goals
      go_enter Try.func13, Try.ntmps13
      go_wp2_with (go_at_call 38; go_in)
      go_ret
      exact ⟨rfl, rfl⟩
  · have EE := Lib.hid (dig_not h)
    go_enter Try.func13, Try.ntmps13
    go_wp2_with (go_at_call 38; go_in)
    all_goals first | (go_ret; exact ⟨ret_bool' (by rw [EE.out]), rfl⟩) | (exfalso; simp_all; omega)
end Go.Proofs.Ytjpimejjbiemgaa
