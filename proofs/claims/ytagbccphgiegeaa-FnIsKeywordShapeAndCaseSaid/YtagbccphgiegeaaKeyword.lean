/- Contract of IsKeyword, and the walk of the law FnIsKeywordShapeAndCase: it returns true at every string. -/
import Derived.Test.YtagbccphgiegeaaRunes
import Derived.WalkLawsBesides
import Derived.Laws.IdiomStrings
namespace Go.Proofs.Ytagbccphgiegeaa
open Go.RowKit

theorem low_any (c : Int) (w : World) : Calls Try.prog 18 #[.int .u8 c] w fun e w' => e = .returned (.bool (decide (97 ≤ c ∧ c ≤ 122))) ∧ w = w' := by
  by_cases a : 97 ≤ c <;> by_cases b : c ≤ 122 <;>
  · go_enter Try.func18, Try.ntmps18
    go_wp2
    go_ret
    exact ⟨ret_bool (by simp [a, b]), rfl⟩

def kwB (l : List UInt8) : Bool := l == [33] || l == [91, 91] || l == [93, 93] || l == [99, 97, 115, 101] || l == [99, 111, 112, 114, 111, 99] || l == [100, 111] || l == [100, 111, 110, 101] || l == [101, 108, 115, 101] || l == [101, 115, 97, 99] || l == [102, 105] || l == [102, 111, 114] || l == [102, 117, 110, 99, 116, 105, 111, 110] || l == [105, 102] || l == [105, 110] || l == [115, 101, 108, 101, 99, 116] || l == [116, 104, 101, 110] || l == [116, 105, 109, 101] || l == [117, 110, 116, 105, 108] || l == [119, 104, 105, 108, 101] || l == [123] || l == [125]

theorem kw_any (s : ByteArray) (w : World) : Calls Try.prog 17 #[.string s] w fun e w' => e = .returned (.bool (kwB s.toList)) ∧ w = w' := by
  have E1 := Lib.hid (show kwB s.toList = (s.toList == [33] || s.toList == [91, 91] || s.toList == [93, 93] || s.toList == [99, 97, 115, 101] || s.toList == [99, 111, 112, 114, 111, 99] || s.toList == [100, 111] || s.toList == [100, 111, 110, 101] || s.toList == [101, 108, 115, 101] || s.toList == [101, 115, 97, 99] || s.toList == [102, 105] || s.toList == [102, 111, 114] || s.toList == [102, 117, 110, 99, 116, 105, 111, 110] || s.toList == [105, 102] || s.toList == [105, 110] || s.toList == [115, 101, 108, 101, 99, 116] || s.toList == [116, 104, 101, 110] || s.toList == [116, 105, 109, 101] || s.toList == [117, 110, 116, 105, 108] || s.toList == [119, 104, 105, 108, 101] || s.toList == [123] || s.toList == [125]) from rfl)
  go_enter Try.func17, Try.ntmps17
  go_wp2
  all_goals
    go_ret
    refine ⟨ret_bool ?_, rfl⟩
    rw [E1.out]
    first | (simp [*]; done) | (simp_all; done)


theorem conv_back (w : World) (l : List UInt8) : (convert 30 9 (.slice (some ⟨w.heap.size, 0, none⟩) l.length l.length)).run Try.prog (w.alloc (.cells (l.map fun b => .int .u8 (b.toNat : Int)).toArray 5)) =
    .ok (.string ⟨l.toArray⟩) (w.alloc (.cells (l.map fun b => .int .u8 (b.toNat : Int)).toArray 5)) := by
  refine run_convert_bytes_back _ 30 9 5 _ _ l Try.underlying30 Try.underlying5 Try.underlying9 fun j hj => ?_
  have e : (⟨w.heap.size, 0, none⟩ : Addr).add j = ⟨w.heap.size, j, none⟩ := by unfold Addr.add; split <;> simp_all
  rw [e]
  simp [List.getElem?_eq_getElem hj]

theorem kw_bang (w : World) : Calls Try.prog 7 #[.string ⟨#[33]⟩] w fun e w' => e = .returned (.bool true) ∧ Below w.heap.size w w' := by
  have k1 : kwB [33] = true := by decide
  have b0 : (⟨#[33]⟩ : ByteArray)[0].toNat = 33 := rfl
  go_enter Try.func7, Try.ntmps7
  go_wp2_with (first | (go_at_call 17; refine (kw_any _ _).mono ?_; rintro e w' ⟨rfl, rfl⟩) | go_in)
  refine wp_loop_rounds 2 ?_
  iterate 2 (rw [rounds_succ]; go_wp2_with (first | (go_at_call 17; refine (kw_any _ _).mono ?_; rintro e w' ⟨rfl, rfl⟩) | go_in))
  go_ret
  exact ⟨rfl, Below.refl _ _⟩

theorem kw_lbr (w : World) : Calls Try.prog 7 #[.string ⟨#[91, 91]⟩] w fun e w' => e = .returned (.bool true) ∧ Below w.heap.size w w' := by
  have k1 : kwB [91, 91] = true := by decide
  have b0 : (⟨#[91, 91]⟩ : ByteArray)[0].toNat = 91 := rfl
  have b1 : (⟨#[91, 91]⟩ : ByteArray)[1].toNat = 91 := rfl
  go_enter Try.func7, Try.ntmps7
  go_wp2_with (first | (go_at_call 17; refine (kw_any _ _).mono ?_; rintro e w' ⟨rfl, rfl⟩) | go_in)
  refine wp_loop_rounds 3 ?_
  iterate 3 (rw [rounds_succ]; go_wp2_with (first | (go_at_call 17; refine (kw_any _ _).mono ?_; rintro e w' ⟨rfl, rfl⟩) | go_in))
  go_ret
  exact ⟨rfl, Below.refl _ _⟩

theorem kw_rbr (w : World) : Calls Try.prog 7 #[.string ⟨#[93, 93]⟩] w fun e w' => e = .returned (.bool true) ∧ Below w.heap.size w w' := by
  have k1 : kwB [93, 93] = true := by decide
  have b0 : (⟨#[93, 93]⟩ : ByteArray)[0].toNat = 93 := rfl
  have b1 : (⟨#[93, 93]⟩ : ByteArray)[1].toNat = 93 := rfl
  go_enter Try.func7, Try.ntmps7
  go_wp2_with (first | (go_at_call 17; refine (kw_any _ _).mono ?_; rintro e w' ⟨rfl, rfl⟩) | go_in)
  refine wp_loop_rounds 3 ?_
  iterate 3 (rw [rounds_succ]; go_wp2_with (first | (go_at_call 17; refine (kw_any _ _).mono ?_; rintro e w' ⟨rfl, rfl⟩) | go_in))
  go_ret
  exact ⟨rfl, Below.refl _ _⟩

theorem kw_case (w : World) : Calls Try.prog 7 #[.string ⟨#[99, 97, 115, 101]⟩] w fun e w' => e = .returned (.bool true) ∧ Below w.heap.size w w' := by
  have k1 : kwB [99, 97, 115, 101] = true := by decide
  have k2 : kwB [67, 65, 83, 69] = false := by decide
  have hmk : ∀ w, (Instr.makeSlice 30 (.int .i64 4) (.int .i64 4)).run Try.prog w = .ok (.slice (some ⟨w.heap.size, 0, none⟩) 4 4) (w.alloc (.cells #[.int .u8 0, .int .u8 0, .int .u8 0, .int .u8 0] 5)) := fun _ => by kernel_rfl
  have hcv : ∀ w : World, (convert 30 9 (.slice (some ⟨w.heap.size, 0, none⟩) 4 4)).run Try.prog (w.alloc (.cells #[.int .u8 67, .int .u8 65, .int .u8 83, .int .u8 69] 5)) = .ok (.string ⟨#[67, 65, 83, 69]⟩) (w.alloc (.cells #[.int .u8 67, .int .u8 65, .int .u8 83, .int .u8 69] 5)) := fun w => conv_back w [67, 65, 83, 69]
  have b0 : (⟨#[99, 97, 115, 101]⟩ : ByteArray)[0].toNat = 99 := rfl
  have b1 : (⟨#[99, 97, 115, 101]⟩ : ByteArray)[1].toNat = 97 := rfl
  have b2 : (⟨#[99, 97, 115, 101]⟩ : ByteArray)[2].toNat = 115 := rfl
  have b3 : (⟨#[99, 97, 115, 101]⟩ : ByteArray)[3].toNat = 101 := rfl
  go_enter Try.func7, Try.ntmps7
  go_wp2_with (first | (go_at_call 17; refine (kw_any _ _).mono ?_; rintro e w' ⟨rfl, rfl⟩) | go_in)
  refine wp_loop_rounds 5 ?_
  iterate 5 (rw [rounds_succ]; go_wp2_with (first | (go_at_call 17; refine (kw_any _ _).mono ?_; rintro e w' ⟨rfl, rfl⟩) | go_in))
  refine wp_loop_rounds 5 ?_
  iterate 5 (rw [rounds_succ]; go_wp2_with (first | (go_at_call 17; refine (kw_any _ _).mono ?_; rintro e w' ⟨rfl, rfl⟩) | go_in))
  go_ret
  exact ⟨rfl, (Below.refl _ _).alloc (Nat.le_refl _) _⟩

theorem kw_coproc (w : World) : Calls Try.prog 7 #[.string ⟨#[99, 111, 112, 114, 111, 99]⟩] w fun e w' => e = .returned (.bool true) ∧ Below w.heap.size w w' := by
  have k1 : kwB [99, 111, 112, 114, 111, 99] = true := by decide
  have k2 : kwB [67, 79, 80, 82, 79, 67] = false := by decide
  have hmk : ∀ w, (Instr.makeSlice 30 (.int .i64 6) (.int .i64 6)).run Try.prog w = .ok (.slice (some ⟨w.heap.size, 0, none⟩) 6 6) (w.alloc (.cells #[.int .u8 0, .int .u8 0, .int .u8 0, .int .u8 0, .int .u8 0, .int .u8 0] 5)) := fun _ => by kernel_rfl
  have hcv : ∀ w : World, (convert 30 9 (.slice (some ⟨w.heap.size, 0, none⟩) 6 6)).run Try.prog (w.alloc (.cells #[.int .u8 67, .int .u8 79, .int .u8 80, .int .u8 82, .int .u8 79, .int .u8 67] 5)) = .ok (.string ⟨#[67, 79, 80, 82, 79, 67]⟩) (w.alloc (.cells #[.int .u8 67, .int .u8 79, .int .u8 80, .int .u8 82, .int .u8 79, .int .u8 67] 5)) := fun w => conv_back w [67, 79, 80, 82, 79, 67]
  have b0 : (⟨#[99, 111, 112, 114, 111, 99]⟩ : ByteArray)[0].toNat = 99 := rfl
  have b1 : (⟨#[99, 111, 112, 114, 111, 99]⟩ : ByteArray)[1].toNat = 111 := rfl
  have b2 : (⟨#[99, 111, 112, 114, 111, 99]⟩ : ByteArray)[2].toNat = 112 := rfl
  have b3 : (⟨#[99, 111, 112, 114, 111, 99]⟩ : ByteArray)[3].toNat = 114 := rfl
  have b4 : (⟨#[99, 111, 112, 114, 111, 99]⟩ : ByteArray)[4].toNat = 111 := rfl
  have b5 : (⟨#[99, 111, 112, 114, 111, 99]⟩ : ByteArray)[5].toNat = 99 := rfl
  go_enter Try.func7, Try.ntmps7
  go_wp2_with (first | (go_at_call 17; refine (kw_any _ _).mono ?_; rintro e w' ⟨rfl, rfl⟩) | go_in)
  refine wp_loop_rounds 7 ?_
  iterate 7 (rw [rounds_succ]; go_wp2_with (first | (go_at_call 17; refine (kw_any _ _).mono ?_; rintro e w' ⟨rfl, rfl⟩) | go_in))
  refine wp_loop_rounds 7 ?_
  iterate 7 (rw [rounds_succ]; go_wp2_with (first | (go_at_call 17; refine (kw_any _ _).mono ?_; rintro e w' ⟨rfl, rfl⟩) | go_in))
  go_ret
  exact ⟨rfl, (Below.refl _ _).alloc (Nat.le_refl _) _⟩

theorem kw_do (w : World) : Calls Try.prog 7 #[.string ⟨#[100, 111]⟩] w fun e w' => e = .returned (.bool true) ∧ Below w.heap.size w w' := by
  have k1 : kwB [100, 111] = true := by decide
  have k2 : kwB [68, 79] = false := by decide
  have hmk : ∀ w, (Instr.makeSlice 30 (.int .i64 2) (.int .i64 2)).run Try.prog w = .ok (.slice (some ⟨w.heap.size, 0, none⟩) 2 2) (w.alloc (.cells #[.int .u8 0, .int .u8 0] 5)) := fun _ => by kernel_rfl
  have hcv : ∀ w : World, (convert 30 9 (.slice (some ⟨w.heap.size, 0, none⟩) 2 2)).run Try.prog (w.alloc (.cells #[.int .u8 68, .int .u8 79] 5)) = .ok (.string ⟨#[68, 79]⟩) (w.alloc (.cells #[.int .u8 68, .int .u8 79] 5)) := fun w => conv_back w [68, 79]
  have b0 : (⟨#[100, 111]⟩ : ByteArray)[0].toNat = 100 := rfl
  have b1 : (⟨#[100, 111]⟩ : ByteArray)[1].toNat = 111 := rfl
  go_enter Try.func7, Try.ntmps7
  go_wp2_with (first | (go_at_call 17; refine (kw_any _ _).mono ?_; rintro e w' ⟨rfl, rfl⟩) | go_in)
  refine wp_loop_rounds 3 ?_
  iterate 3 (rw [rounds_succ]; go_wp2_with (first | (go_at_call 17; refine (kw_any _ _).mono ?_; rintro e w' ⟨rfl, rfl⟩) | go_in))
  refine wp_loop_rounds 3 ?_
  iterate 3 (rw [rounds_succ]; go_wp2_with (first | (go_at_call 17; refine (kw_any _ _).mono ?_; rintro e w' ⟨rfl, rfl⟩) | go_in))
  go_ret
  exact ⟨rfl, (Below.refl _ _).alloc (Nat.le_refl _) _⟩

theorem kw_done (w : World) : Calls Try.prog 7 #[.string ⟨#[100, 111, 110, 101]⟩] w fun e w' => e = .returned (.bool true) ∧ Below w.heap.size w w' := by
  have k1 : kwB [100, 111, 110, 101] = true := by decide
  have k2 : kwB [68, 79, 78, 69] = false := by decide
  have hmk : ∀ w, (Instr.makeSlice 30 (.int .i64 4) (.int .i64 4)).run Try.prog w = .ok (.slice (some ⟨w.heap.size, 0, none⟩) 4 4) (w.alloc (.cells #[.int .u8 0, .int .u8 0, .int .u8 0, .int .u8 0] 5)) := fun _ => by kernel_rfl
  have hcv : ∀ w : World, (convert 30 9 (.slice (some ⟨w.heap.size, 0, none⟩) 4 4)).run Try.prog (w.alloc (.cells #[.int .u8 68, .int .u8 79, .int .u8 78, .int .u8 69] 5)) = .ok (.string ⟨#[68, 79, 78, 69]⟩) (w.alloc (.cells #[.int .u8 68, .int .u8 79, .int .u8 78, .int .u8 69] 5)) := fun w => conv_back w [68, 79, 78, 69]
  have b0 : (⟨#[100, 111, 110, 101]⟩ : ByteArray)[0].toNat = 100 := rfl
  have b1 : (⟨#[100, 111, 110, 101]⟩ : ByteArray)[1].toNat = 111 := rfl
  have b2 : (⟨#[100, 111, 110, 101]⟩ : ByteArray)[2].toNat = 110 := rfl
  have b3 : (⟨#[100, 111, 110, 101]⟩ : ByteArray)[3].toNat = 101 := rfl
  go_enter Try.func7, Try.ntmps7
  go_wp2_with (first | (go_at_call 17; refine (kw_any _ _).mono ?_; rintro e w' ⟨rfl, rfl⟩) | go_in)
  refine wp_loop_rounds 5 ?_
  iterate 5 (rw [rounds_succ]; go_wp2_with (first | (go_at_call 17; refine (kw_any _ _).mono ?_; rintro e w' ⟨rfl, rfl⟩) | go_in))
  refine wp_loop_rounds 5 ?_
  iterate 5 (rw [rounds_succ]; go_wp2_with (first | (go_at_call 17; refine (kw_any _ _).mono ?_; rintro e w' ⟨rfl, rfl⟩) | go_in))
  go_ret
  exact ⟨rfl, (Below.refl _ _).alloc (Nat.le_refl _) _⟩

theorem kw_else (w : World) : Calls Try.prog 7 #[.string ⟨#[101, 108, 115, 101]⟩] w fun e w' => e = .returned (.bool true) ∧ Below w.heap.size w w' := by
  have k1 : kwB [101, 108, 115, 101] = true := by decide
  have k2 : kwB [69, 76, 83, 69] = false := by decide
  have hmk : ∀ w, (Instr.makeSlice 30 (.int .i64 4) (.int .i64 4)).run Try.prog w = .ok (.slice (some ⟨w.heap.size, 0, none⟩) 4 4) (w.alloc (.cells #[.int .u8 0, .int .u8 0, .int .u8 0, .int .u8 0] 5)) := fun _ => by kernel_rfl
  have hcv : ∀ w : World, (convert 30 9 (.slice (some ⟨w.heap.size, 0, none⟩) 4 4)).run Try.prog (w.alloc (.cells #[.int .u8 69, .int .u8 76, .int .u8 83, .int .u8 69] 5)) = .ok (.string ⟨#[69, 76, 83, 69]⟩) (w.alloc (.cells #[.int .u8 69, .int .u8 76, .int .u8 83, .int .u8 69] 5)) := fun w => conv_back w [69, 76, 83, 69]
  have b0 : (⟨#[101, 108, 115, 101]⟩ : ByteArray)[0].toNat = 101 := rfl
  have b1 : (⟨#[101, 108, 115, 101]⟩ : ByteArray)[1].toNat = 108 := rfl
  have b2 : (⟨#[101, 108, 115, 101]⟩ : ByteArray)[2].toNat = 115 := rfl
  have b3 : (⟨#[101, 108, 115, 101]⟩ : ByteArray)[3].toNat = 101 := rfl
  go_enter Try.func7, Try.ntmps7
  go_wp2_with (first | (go_at_call 17; refine (kw_any _ _).mono ?_; rintro e w' ⟨rfl, rfl⟩) | go_in)
  refine wp_loop_rounds 5 ?_
  iterate 5 (rw [rounds_succ]; go_wp2_with (first | (go_at_call 17; refine (kw_any _ _).mono ?_; rintro e w' ⟨rfl, rfl⟩) | go_in))
  refine wp_loop_rounds 5 ?_
  iterate 5 (rw [rounds_succ]; go_wp2_with (first | (go_at_call 17; refine (kw_any _ _).mono ?_; rintro e w' ⟨rfl, rfl⟩) | go_in))
  go_ret
  exact ⟨rfl, (Below.refl _ _).alloc (Nat.le_refl _) _⟩

theorem kw_esac (w : World) : Calls Try.prog 7 #[.string ⟨#[101, 115, 97, 99]⟩] w fun e w' => e = .returned (.bool true) ∧ Below w.heap.size w w' := by
  have k1 : kwB [101, 115, 97, 99] = true := by decide
  have k2 : kwB [69, 83, 65, 67] = false := by decide
  have hmk : ∀ w, (Instr.makeSlice 30 (.int .i64 4) (.int .i64 4)).run Try.prog w = .ok (.slice (some ⟨w.heap.size, 0, none⟩) 4 4) (w.alloc (.cells #[.int .u8 0, .int .u8 0, .int .u8 0, .int .u8 0] 5)) := fun _ => by kernel_rfl
  have hcv : ∀ w : World, (convert 30 9 (.slice (some ⟨w.heap.size, 0, none⟩) 4 4)).run Try.prog (w.alloc (.cells #[.int .u8 69, .int .u8 83, .int .u8 65, .int .u8 67] 5)) = .ok (.string ⟨#[69, 83, 65, 67]⟩) (w.alloc (.cells #[.int .u8 69, .int .u8 83, .int .u8 65, .int .u8 67] 5)) := fun w => conv_back w [69, 83, 65, 67]
  have b0 : (⟨#[101, 115, 97, 99]⟩ : ByteArray)[0].toNat = 101 := rfl
  have b1 : (⟨#[101, 115, 97, 99]⟩ : ByteArray)[1].toNat = 115 := rfl
  have b2 : (⟨#[101, 115, 97, 99]⟩ : ByteArray)[2].toNat = 97 := rfl
  have b3 : (⟨#[101, 115, 97, 99]⟩ : ByteArray)[3].toNat = 99 := rfl
  go_enter Try.func7, Try.ntmps7
  go_wp2_with (first | (go_at_call 17; refine (kw_any _ _).mono ?_; rintro e w' ⟨rfl, rfl⟩) | go_in)
  refine wp_loop_rounds 5 ?_
  iterate 5 (rw [rounds_succ]; go_wp2_with (first | (go_at_call 17; refine (kw_any _ _).mono ?_; rintro e w' ⟨rfl, rfl⟩) | go_in))
  refine wp_loop_rounds 5 ?_
  iterate 5 (rw [rounds_succ]; go_wp2_with (first | (go_at_call 17; refine (kw_any _ _).mono ?_; rintro e w' ⟨rfl, rfl⟩) | go_in))
  go_ret
  exact ⟨rfl, (Below.refl _ _).alloc (Nat.le_refl _) _⟩

theorem kw_fi (w : World) : Calls Try.prog 7 #[.string ⟨#[102, 105]⟩] w fun e w' => e = .returned (.bool true) ∧ Below w.heap.size w w' := by
  have k1 : kwB [102, 105] = true := by decide
  have k2 : kwB [70, 73] = false := by decide
  have hmk : ∀ w, (Instr.makeSlice 30 (.int .i64 2) (.int .i64 2)).run Try.prog w = .ok (.slice (some ⟨w.heap.size, 0, none⟩) 2 2) (w.alloc (.cells #[.int .u8 0, .int .u8 0] 5)) := fun _ => by kernel_rfl
  have hcv : ∀ w : World, (convert 30 9 (.slice (some ⟨w.heap.size, 0, none⟩) 2 2)).run Try.prog (w.alloc (.cells #[.int .u8 70, .int .u8 73] 5)) = .ok (.string ⟨#[70, 73]⟩) (w.alloc (.cells #[.int .u8 70, .int .u8 73] 5)) := fun w => conv_back w [70, 73]
  have b0 : (⟨#[102, 105]⟩ : ByteArray)[0].toNat = 102 := rfl
  have b1 : (⟨#[102, 105]⟩ : ByteArray)[1].toNat = 105 := rfl
  go_enter Try.func7, Try.ntmps7
  go_wp2_with (first | (go_at_call 17; refine (kw_any _ _).mono ?_; rintro e w' ⟨rfl, rfl⟩) | go_in)
  refine wp_loop_rounds 3 ?_
  iterate 3 (rw [rounds_succ]; go_wp2_with (first | (go_at_call 17; refine (kw_any _ _).mono ?_; rintro e w' ⟨rfl, rfl⟩) | go_in))
  refine wp_loop_rounds 3 ?_
  iterate 3 (rw [rounds_succ]; go_wp2_with (first | (go_at_call 17; refine (kw_any _ _).mono ?_; rintro e w' ⟨rfl, rfl⟩) | go_in))
  go_ret
  exact ⟨rfl, (Below.refl _ _).alloc (Nat.le_refl _) _⟩

theorem kw_for (w : World) : Calls Try.prog 7 #[.string ⟨#[102, 111, 114]⟩] w fun e w' => e = .returned (.bool true) ∧ Below w.heap.size w w' := by
  have k1 : kwB [102, 111, 114] = true := by decide
  have k2 : kwB [70, 79, 82] = false := by decide
  have hmk : ∀ w, (Instr.makeSlice 30 (.int .i64 3) (.int .i64 3)).run Try.prog w = .ok (.slice (some ⟨w.heap.size, 0, none⟩) 3 3) (w.alloc (.cells #[.int .u8 0, .int .u8 0, .int .u8 0] 5)) := fun _ => by kernel_rfl
  have hcv : ∀ w : World, (convert 30 9 (.slice (some ⟨w.heap.size, 0, none⟩) 3 3)).run Try.prog (w.alloc (.cells #[.int .u8 70, .int .u8 79, .int .u8 82] 5)) = .ok (.string ⟨#[70, 79, 82]⟩) (w.alloc (.cells #[.int .u8 70, .int .u8 79, .int .u8 82] 5)) := fun w => conv_back w [70, 79, 82]
  have b0 : (⟨#[102, 111, 114]⟩ : ByteArray)[0].toNat = 102 := rfl
  have b1 : (⟨#[102, 111, 114]⟩ : ByteArray)[1].toNat = 111 := rfl
  have b2 : (⟨#[102, 111, 114]⟩ : ByteArray)[2].toNat = 114 := rfl
  go_enter Try.func7, Try.ntmps7
  go_wp2_with (first | (go_at_call 17; refine (kw_any _ _).mono ?_; rintro e w' ⟨rfl, rfl⟩) | go_in)
  refine wp_loop_rounds 4 ?_
  iterate 4 (rw [rounds_succ]; go_wp2_with (first | (go_at_call 17; refine (kw_any _ _).mono ?_; rintro e w' ⟨rfl, rfl⟩) | go_in))
  refine wp_loop_rounds 4 ?_
  iterate 4 (rw [rounds_succ]; go_wp2_with (first | (go_at_call 17; refine (kw_any _ _).mono ?_; rintro e w' ⟨rfl, rfl⟩) | go_in))
  go_ret
  exact ⟨rfl, (Below.refl _ _).alloc (Nat.le_refl _) _⟩

theorem kw_function (w : World) : Calls Try.prog 7 #[.string ⟨#[102, 117, 110, 99, 116, 105, 111, 110]⟩] w fun e w' => e = .returned (.bool true) ∧ Below w.heap.size w w' := by
  have k1 : kwB [102, 117, 110, 99, 116, 105, 111, 110] = true := by decide
  have k2 : kwB [70, 85, 78, 67, 84, 73, 79, 78] = false := by decide
  have hmk : ∀ w, (Instr.makeSlice 30 (.int .i64 8) (.int .i64 8)).run Try.prog w = .ok (.slice (some ⟨w.heap.size, 0, none⟩) 8 8) (w.alloc (.cells #[.int .u8 0, .int .u8 0, .int .u8 0, .int .u8 0, .int .u8 0, .int .u8 0, .int .u8 0, .int .u8 0] 5)) := fun _ => by kernel_rfl
  have hcv : ∀ w : World, (convert 30 9 (.slice (some ⟨w.heap.size, 0, none⟩) 8 8)).run Try.prog (w.alloc (.cells #[.int .u8 70, .int .u8 85, .int .u8 78, .int .u8 67, .int .u8 84, .int .u8 73, .int .u8 79, .int .u8 78] 5)) = .ok (.string ⟨#[70, 85, 78, 67, 84, 73, 79, 78]⟩) (w.alloc (.cells #[.int .u8 70, .int .u8 85, .int .u8 78, .int .u8 67, .int .u8 84, .int .u8 73, .int .u8 79, .int .u8 78] 5)) := fun w => conv_back w [70, 85, 78, 67, 84, 73, 79, 78]
  have b0 : (⟨#[102, 117, 110, 99, 116, 105, 111, 110]⟩ : ByteArray)[0].toNat = 102 := rfl
  have b1 : (⟨#[102, 117, 110, 99, 116, 105, 111, 110]⟩ : ByteArray)[1].toNat = 117 := rfl
  have b2 : (⟨#[102, 117, 110, 99, 116, 105, 111, 110]⟩ : ByteArray)[2].toNat = 110 := rfl
  have b3 : (⟨#[102, 117, 110, 99, 116, 105, 111, 110]⟩ : ByteArray)[3].toNat = 99 := rfl
  have b4 : (⟨#[102, 117, 110, 99, 116, 105, 111, 110]⟩ : ByteArray)[4].toNat = 116 := rfl
  have b5 : (⟨#[102, 117, 110, 99, 116, 105, 111, 110]⟩ : ByteArray)[5].toNat = 105 := rfl
  have b6 : (⟨#[102, 117, 110, 99, 116, 105, 111, 110]⟩ : ByteArray)[6].toNat = 111 := rfl
  have b7 : (⟨#[102, 117, 110, 99, 116, 105, 111, 110]⟩ : ByteArray)[7].toNat = 110 := rfl
  go_enter Try.func7, Try.ntmps7
  go_wp2_with (first | (go_at_call 17; refine (kw_any _ _).mono ?_; rintro e w' ⟨rfl, rfl⟩) | go_in)
  refine wp_loop_rounds 9 ?_
  iterate 9 (rw [rounds_succ]; go_wp2_with (first | (go_at_call 17; refine (kw_any _ _).mono ?_; rintro e w' ⟨rfl, rfl⟩) | go_in))
  refine wp_loop_rounds 9 ?_
  iterate 9 (rw [rounds_succ]; go_wp2_with (first | (go_at_call 17; refine (kw_any _ _).mono ?_; rintro e w' ⟨rfl, rfl⟩) | go_in))
  go_ret
  exact ⟨rfl, (Below.refl _ _).alloc (Nat.le_refl _) _⟩

theorem kw_if (w : World) : Calls Try.prog 7 #[.string ⟨#[105, 102]⟩] w fun e w' => e = .returned (.bool true) ∧ Below w.heap.size w w' := by
  have k1 : kwB [105, 102] = true := by decide
  have k2 : kwB [73, 70] = false := by decide
  have hmk : ∀ w, (Instr.makeSlice 30 (.int .i64 2) (.int .i64 2)).run Try.prog w = .ok (.slice (some ⟨w.heap.size, 0, none⟩) 2 2) (w.alloc (.cells #[.int .u8 0, .int .u8 0] 5)) := fun _ => by kernel_rfl
  have hcv : ∀ w : World, (convert 30 9 (.slice (some ⟨w.heap.size, 0, none⟩) 2 2)).run Try.prog (w.alloc (.cells #[.int .u8 73, .int .u8 70] 5)) = .ok (.string ⟨#[73, 70]⟩) (w.alloc (.cells #[.int .u8 73, .int .u8 70] 5)) := fun w => conv_back w [73, 70]
  have b0 : (⟨#[105, 102]⟩ : ByteArray)[0].toNat = 105 := rfl
  have b1 : (⟨#[105, 102]⟩ : ByteArray)[1].toNat = 102 := rfl
  go_enter Try.func7, Try.ntmps7
  go_wp2_with (first | (go_at_call 17; refine (kw_any _ _).mono ?_; rintro e w' ⟨rfl, rfl⟩) | go_in)
  refine wp_loop_rounds 3 ?_
  iterate 3 (rw [rounds_succ]; go_wp2_with (first | (go_at_call 17; refine (kw_any _ _).mono ?_; rintro e w' ⟨rfl, rfl⟩) | go_in))
  refine wp_loop_rounds 3 ?_
  iterate 3 (rw [rounds_succ]; go_wp2_with (first | (go_at_call 17; refine (kw_any _ _).mono ?_; rintro e w' ⟨rfl, rfl⟩) | go_in))
  go_ret
  exact ⟨rfl, (Below.refl _ _).alloc (Nat.le_refl _) _⟩

theorem kw_in (w : World) : Calls Try.prog 7 #[.string ⟨#[105, 110]⟩] w fun e w' => e = .returned (.bool true) ∧ Below w.heap.size w w' := by
  have k1 : kwB [105, 110] = true := by decide
  have k2 : kwB [73, 78] = false := by decide
  have hmk : ∀ w, (Instr.makeSlice 30 (.int .i64 2) (.int .i64 2)).run Try.prog w = .ok (.slice (some ⟨w.heap.size, 0, none⟩) 2 2) (w.alloc (.cells #[.int .u8 0, .int .u8 0] 5)) := fun _ => by kernel_rfl
  have hcv : ∀ w : World, (convert 30 9 (.slice (some ⟨w.heap.size, 0, none⟩) 2 2)).run Try.prog (w.alloc (.cells #[.int .u8 73, .int .u8 78] 5)) = .ok (.string ⟨#[73, 78]⟩) (w.alloc (.cells #[.int .u8 73, .int .u8 78] 5)) := fun w => conv_back w [73, 78]
  have b0 : (⟨#[105, 110]⟩ : ByteArray)[0].toNat = 105 := rfl
  have b1 : (⟨#[105, 110]⟩ : ByteArray)[1].toNat = 110 := rfl
  go_enter Try.func7, Try.ntmps7
  go_wp2_with (first | (go_at_call 17; refine (kw_any _ _).mono ?_; rintro e w' ⟨rfl, rfl⟩) | go_in)
  refine wp_loop_rounds 3 ?_
  iterate 3 (rw [rounds_succ]; go_wp2_with (first | (go_at_call 17; refine (kw_any _ _).mono ?_; rintro e w' ⟨rfl, rfl⟩) | go_in))
  refine wp_loop_rounds 3 ?_
  iterate 3 (rw [rounds_succ]; go_wp2_with (first | (go_at_call 17; refine (kw_any _ _).mono ?_; rintro e w' ⟨rfl, rfl⟩) | go_in))
  go_ret
  exact ⟨rfl, (Below.refl _ _).alloc (Nat.le_refl _) _⟩

theorem kw_select (w : World) : Calls Try.prog 7 #[.string ⟨#[115, 101, 108, 101, 99, 116]⟩] w fun e w' => e = .returned (.bool true) ∧ Below w.heap.size w w' := by
  have k1 : kwB [115, 101, 108, 101, 99, 116] = true := by decide
  have k2 : kwB [83, 69, 76, 69, 67, 84] = false := by decide
  have hmk : ∀ w, (Instr.makeSlice 30 (.int .i64 6) (.int .i64 6)).run Try.prog w = .ok (.slice (some ⟨w.heap.size, 0, none⟩) 6 6) (w.alloc (.cells #[.int .u8 0, .int .u8 0, .int .u8 0, .int .u8 0, .int .u8 0, .int .u8 0] 5)) := fun _ => by kernel_rfl
  have hcv : ∀ w : World, (convert 30 9 (.slice (some ⟨w.heap.size, 0, none⟩) 6 6)).run Try.prog (w.alloc (.cells #[.int .u8 83, .int .u8 69, .int .u8 76, .int .u8 69, .int .u8 67, .int .u8 84] 5)) = .ok (.string ⟨#[83, 69, 76, 69, 67, 84]⟩) (w.alloc (.cells #[.int .u8 83, .int .u8 69, .int .u8 76, .int .u8 69, .int .u8 67, .int .u8 84] 5)) := fun w => conv_back w [83, 69, 76, 69, 67, 84]
  have b0 : (⟨#[115, 101, 108, 101, 99, 116]⟩ : ByteArray)[0].toNat = 115 := rfl
  have b1 : (⟨#[115, 101, 108, 101, 99, 116]⟩ : ByteArray)[1].toNat = 101 := rfl
  have b2 : (⟨#[115, 101, 108, 101, 99, 116]⟩ : ByteArray)[2].toNat = 108 := rfl
  have b3 : (⟨#[115, 101, 108, 101, 99, 116]⟩ : ByteArray)[3].toNat = 101 := rfl
  have b4 : (⟨#[115, 101, 108, 101, 99, 116]⟩ : ByteArray)[4].toNat = 99 := rfl
  have b5 : (⟨#[115, 101, 108, 101, 99, 116]⟩ : ByteArray)[5].toNat = 116 := rfl
  go_enter Try.func7, Try.ntmps7
  go_wp2_with (first | (go_at_call 17; refine (kw_any _ _).mono ?_; rintro e w' ⟨rfl, rfl⟩) | go_in)
  refine wp_loop_rounds 7 ?_
  iterate 7 (rw [rounds_succ]; go_wp2_with (first | (go_at_call 17; refine (kw_any _ _).mono ?_; rintro e w' ⟨rfl, rfl⟩) | go_in))
  refine wp_loop_rounds 7 ?_
  iterate 7 (rw [rounds_succ]; go_wp2_with (first | (go_at_call 17; refine (kw_any _ _).mono ?_; rintro e w' ⟨rfl, rfl⟩) | go_in))
  go_ret
  exact ⟨rfl, (Below.refl _ _).alloc (Nat.le_refl _) _⟩

theorem kw_then (w : World) : Calls Try.prog 7 #[.string ⟨#[116, 104, 101, 110]⟩] w fun e w' => e = .returned (.bool true) ∧ Below w.heap.size w w' := by
  have k1 : kwB [116, 104, 101, 110] = true := by decide
  have k2 : kwB [84, 72, 69, 78] = false := by decide
  have hmk : ∀ w, (Instr.makeSlice 30 (.int .i64 4) (.int .i64 4)).run Try.prog w = .ok (.slice (some ⟨w.heap.size, 0, none⟩) 4 4) (w.alloc (.cells #[.int .u8 0, .int .u8 0, .int .u8 0, .int .u8 0] 5)) := fun _ => by kernel_rfl
  have hcv : ∀ w : World, (convert 30 9 (.slice (some ⟨w.heap.size, 0, none⟩) 4 4)).run Try.prog (w.alloc (.cells #[.int .u8 84, .int .u8 72, .int .u8 69, .int .u8 78] 5)) = .ok (.string ⟨#[84, 72, 69, 78]⟩) (w.alloc (.cells #[.int .u8 84, .int .u8 72, .int .u8 69, .int .u8 78] 5)) := fun w => conv_back w [84, 72, 69, 78]
  have b0 : (⟨#[116, 104, 101, 110]⟩ : ByteArray)[0].toNat = 116 := rfl
  have b1 : (⟨#[116, 104, 101, 110]⟩ : ByteArray)[1].toNat = 104 := rfl
  have b2 : (⟨#[116, 104, 101, 110]⟩ : ByteArray)[2].toNat = 101 := rfl
  have b3 : (⟨#[116, 104, 101, 110]⟩ : ByteArray)[3].toNat = 110 := rfl
  go_enter Try.func7, Try.ntmps7
  go_wp2_with (first | (go_at_call 17; refine (kw_any _ _).mono ?_; rintro e w' ⟨rfl, rfl⟩) | go_in)
  refine wp_loop_rounds 5 ?_
  iterate 5 (rw [rounds_succ]; go_wp2_with (first | (go_at_call 17; refine (kw_any _ _).mono ?_; rintro e w' ⟨rfl, rfl⟩) | go_in))
  refine wp_loop_rounds 5 ?_
  iterate 5 (rw [rounds_succ]; go_wp2_with (first | (go_at_call 17; refine (kw_any _ _).mono ?_; rintro e w' ⟨rfl, rfl⟩) | go_in))
  go_ret
  exact ⟨rfl, (Below.refl _ _).alloc (Nat.le_refl _) _⟩

theorem kw_time (w : World) : Calls Try.prog 7 #[.string ⟨#[116, 105, 109, 101]⟩] w fun e w' => e = .returned (.bool true) ∧ Below w.heap.size w w' := by
  have k1 : kwB [116, 105, 109, 101] = true := by decide
  have k2 : kwB [84, 73, 77, 69] = false := by decide
  have hmk : ∀ w, (Instr.makeSlice 30 (.int .i64 4) (.int .i64 4)).run Try.prog w = .ok (.slice (some ⟨w.heap.size, 0, none⟩) 4 4) (w.alloc (.cells #[.int .u8 0, .int .u8 0, .int .u8 0, .int .u8 0] 5)) := fun _ => by kernel_rfl
  have hcv : ∀ w : World, (convert 30 9 (.slice (some ⟨w.heap.size, 0, none⟩) 4 4)).run Try.prog (w.alloc (.cells #[.int .u8 84, .int .u8 73, .int .u8 77, .int .u8 69] 5)) = .ok (.string ⟨#[84, 73, 77, 69]⟩) (w.alloc (.cells #[.int .u8 84, .int .u8 73, .int .u8 77, .int .u8 69] 5)) := fun w => conv_back w [84, 73, 77, 69]
  have b0 : (⟨#[116, 105, 109, 101]⟩ : ByteArray)[0].toNat = 116 := rfl
  have b1 : (⟨#[116, 105, 109, 101]⟩ : ByteArray)[1].toNat = 105 := rfl
  have b2 : (⟨#[116, 105, 109, 101]⟩ : ByteArray)[2].toNat = 109 := rfl
  have b3 : (⟨#[116, 105, 109, 101]⟩ : ByteArray)[3].toNat = 101 := rfl
  go_enter Try.func7, Try.ntmps7
  go_wp2_with (first | (go_at_call 17; refine (kw_any _ _).mono ?_; rintro e w' ⟨rfl, rfl⟩) | go_in)
  refine wp_loop_rounds 5 ?_
  iterate 5 (rw [rounds_succ]; go_wp2_with (first | (go_at_call 17; refine (kw_any _ _).mono ?_; rintro e w' ⟨rfl, rfl⟩) | go_in))
  refine wp_loop_rounds 5 ?_
  iterate 5 (rw [rounds_succ]; go_wp2_with (first | (go_at_call 17; refine (kw_any _ _).mono ?_; rintro e w' ⟨rfl, rfl⟩) | go_in))
  go_ret
  exact ⟨rfl, (Below.refl _ _).alloc (Nat.le_refl _) _⟩

theorem kw_until (w : World) : Calls Try.prog 7 #[.string ⟨#[117, 110, 116, 105, 108]⟩] w fun e w' => e = .returned (.bool true) ∧ Below w.heap.size w w' := by
  have k1 : kwB [117, 110, 116, 105, 108] = true := by decide
  have k2 : kwB [85, 78, 84, 73, 76] = false := by decide
  have hmk : ∀ w, (Instr.makeSlice 30 (.int .i64 5) (.int .i64 5)).run Try.prog w = .ok (.slice (some ⟨w.heap.size, 0, none⟩) 5 5) (w.alloc (.cells #[.int .u8 0, .int .u8 0, .int .u8 0, .int .u8 0, .int .u8 0] 5)) := fun _ => by kernel_rfl
  have hcv : ∀ w : World, (convert 30 9 (.slice (some ⟨w.heap.size, 0, none⟩) 5 5)).run Try.prog (w.alloc (.cells #[.int .u8 85, .int .u8 78, .int .u8 84, .int .u8 73, .int .u8 76] 5)) = .ok (.string ⟨#[85, 78, 84, 73, 76]⟩) (w.alloc (.cells #[.int .u8 85, .int .u8 78, .int .u8 84, .int .u8 73, .int .u8 76] 5)) := fun w => conv_back w [85, 78, 84, 73, 76]
  have b0 : (⟨#[117, 110, 116, 105, 108]⟩ : ByteArray)[0].toNat = 117 := rfl
  have b1 : (⟨#[117, 110, 116, 105, 108]⟩ : ByteArray)[1].toNat = 110 := rfl
  have b2 : (⟨#[117, 110, 116, 105, 108]⟩ : ByteArray)[2].toNat = 116 := rfl
  have b3 : (⟨#[117, 110, 116, 105, 108]⟩ : ByteArray)[3].toNat = 105 := rfl
  have b4 : (⟨#[117, 110, 116, 105, 108]⟩ : ByteArray)[4].toNat = 108 := rfl
  go_enter Try.func7, Try.ntmps7
  go_wp2_with (first | (go_at_call 17; refine (kw_any _ _).mono ?_; rintro e w' ⟨rfl, rfl⟩) | go_in)
  refine wp_loop_rounds 6 ?_
  iterate 6 (rw [rounds_succ]; go_wp2_with (first | (go_at_call 17; refine (kw_any _ _).mono ?_; rintro e w' ⟨rfl, rfl⟩) | go_in))
  refine wp_loop_rounds 6 ?_
  iterate 6 (rw [rounds_succ]; go_wp2_with (first | (go_at_call 17; refine (kw_any _ _).mono ?_; rintro e w' ⟨rfl, rfl⟩) | go_in))
  go_ret
  exact ⟨rfl, (Below.refl _ _).alloc (Nat.le_refl _) _⟩

theorem kw_while (w : World) : Calls Try.prog 7 #[.string ⟨#[119, 104, 105, 108, 101]⟩] w fun e w' => e = .returned (.bool true) ∧ Below w.heap.size w w' := by
  have k1 : kwB [119, 104, 105, 108, 101] = true := by decide
  have k2 : kwB [87, 72, 73, 76, 69] = false := by decide
  have hmk : ∀ w, (Instr.makeSlice 30 (.int .i64 5) (.int .i64 5)).run Try.prog w = .ok (.slice (some ⟨w.heap.size, 0, none⟩) 5 5) (w.alloc (.cells #[.int .u8 0, .int .u8 0, .int .u8 0, .int .u8 0, .int .u8 0] 5)) := fun _ => by kernel_rfl
  have hcv : ∀ w : World, (convert 30 9 (.slice (some ⟨w.heap.size, 0, none⟩) 5 5)).run Try.prog (w.alloc (.cells #[.int .u8 87, .int .u8 72, .int .u8 73, .int .u8 76, .int .u8 69] 5)) = .ok (.string ⟨#[87, 72, 73, 76, 69]⟩) (w.alloc (.cells #[.int .u8 87, .int .u8 72, .int .u8 73, .int .u8 76, .int .u8 69] 5)) := fun w => conv_back w [87, 72, 73, 76, 69]
  have b0 : (⟨#[119, 104, 105, 108, 101]⟩ : ByteArray)[0].toNat = 119 := rfl
  have b1 : (⟨#[119, 104, 105, 108, 101]⟩ : ByteArray)[1].toNat = 104 := rfl
  have b2 : (⟨#[119, 104, 105, 108, 101]⟩ : ByteArray)[2].toNat = 105 := rfl
  have b3 : (⟨#[119, 104, 105, 108, 101]⟩ : ByteArray)[3].toNat = 108 := rfl
  have b4 : (⟨#[119, 104, 105, 108, 101]⟩ : ByteArray)[4].toNat = 101 := rfl
  go_enter Try.func7, Try.ntmps7
  go_wp2_with (first | (go_at_call 17; refine (kw_any _ _).mono ?_; rintro e w' ⟨rfl, rfl⟩) | go_in)
  refine wp_loop_rounds 6 ?_
  iterate 6 (rw [rounds_succ]; go_wp2_with (first | (go_at_call 17; refine (kw_any _ _).mono ?_; rintro e w' ⟨rfl, rfl⟩) | go_in))
  refine wp_loop_rounds 6 ?_
  iterate 6 (rw [rounds_succ]; go_wp2_with (first | (go_at_call 17; refine (kw_any _ _).mono ?_; rintro e w' ⟨rfl, rfl⟩) | go_in))
  go_ret
  exact ⟨rfl, (Below.refl _ _).alloc (Nat.le_refl _) _⟩

theorem kw_lcur (w : World) : Calls Try.prog 7 #[.string ⟨#[123]⟩] w fun e w' => e = .returned (.bool true) ∧ Below w.heap.size w w' := by
  have k1 : kwB [123] = true := by decide
  have b0 : (⟨#[123]⟩ : ByteArray)[0].toNat = 123 := rfl
  go_enter Try.func7, Try.ntmps7
  go_wp2_with (first | (go_at_call 17; refine (kw_any _ _).mono ?_; rintro e w' ⟨rfl, rfl⟩) | go_in)
  refine wp_loop_rounds 2 ?_
  iterate 2 (rw [rounds_succ]; go_wp2_with (first | (go_at_call 17; refine (kw_any _ _).mono ?_; rintro e w' ⟨rfl, rfl⟩) | go_in))
  go_ret
  exact ⟨rfl, Below.refl _ _⟩

theorem kw_rcur (w : World) : Calls Try.prog 7 #[.string ⟨#[125]⟩] w fun e w' => e = .returned (.bool true) ∧ Below w.heap.size w w' := by
  have k1 : kwB [125] = true := by decide
  have b0 : (⟨#[125]⟩ : ByteArray)[0].toNat = 125 := rfl
  go_enter Try.func7, Try.ntmps7
  go_wp2_with (first | (go_at_call 17; refine (kw_any _ _).mono ?_; rintro e w' ⟨rfl, rfl⟩) | go_in)
  refine wp_loop_rounds 2 ?_
  iterate 2 (rw [rounds_succ]; go_wp2_with (first | (go_at_call 17; refine (kw_any _ _).mono ?_; rintro e w' ⟨rfl, rfl⟩) | go_in))
  go_ret
  exact ⟨rfl, Below.refl _ _⟩


theorem of_toList (s : ByteArray) (l : List UInt8) (h : s.toList = l) : s = ⟨l.toArray⟩ := by
  rw [ByteArray.toList_eq] at h
  obtain ⟨⟨d⟩⟩ := s
  subst h
  rfl

theorem kw_law (s : ByteArray) (w : World) : Calls Try.prog 7 #[.string s] w fun e w' => e = .returned (.bool true) ∧ Below w.heap.size w w' := by
  cases hk : kwB s.toList
  · go_enter Try.func7, Try.ntmps7
    go_wp2_with (first | (go_at_call 17; refine (kw_any _ _).mono ?_; rintro e w' ⟨rfl, rfl⟩) | go_in)
    all_goals
      go_ret
      exact ⟨rfl, Below.refl _ _⟩
  · simp only [kwB, Bool.or_eq_true, beq_iff_eq] at hk
    rcases hk with ((((((((((((((((((((h | h) | h) | h) | h) | h) | h) | h) | h) | h) | h) | h) | h) | h) | h) | h) | h) | h) | h) | h) | h)
    · rw [of_toList s _ h]; exact kw_bang w
    · rw [of_toList s _ h]; exact kw_lbr w
    · rw [of_toList s _ h]; exact kw_rbr w
    · rw [of_toList s _ h]; exact kw_case w
    · rw [of_toList s _ h]; exact kw_coproc w
    · rw [of_toList s _ h]; exact kw_do w
    · rw [of_toList s _ h]; exact kw_done w
    · rw [of_toList s _ h]; exact kw_else w
    · rw [of_toList s _ h]; exact kw_esac w
    · rw [of_toList s _ h]; exact kw_fi w
    · rw [of_toList s _ h]; exact kw_for w
    · rw [of_toList s _ h]; exact kw_function w
    · rw [of_toList s _ h]; exact kw_if w
    · rw [of_toList s _ h]; exact kw_in w
    · rw [of_toList s _ h]; exact kw_select w
    · rw [of_toList s _ h]; exact kw_then w
    · rw [of_toList s _ h]; exact kw_time w
    · rw [of_toList s _ h]; exact kw_until w
    · rw [of_toList s _ h]; exact kw_while w
    · rw [of_toList s _ h]; exact kw_lcur w
    · rw [of_toList s _ h]; exact kw_rcur w
end Go.Proofs.Ytagbccphgiegeaa
