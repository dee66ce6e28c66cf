/- The walk of the law FnFlagsArithmParenRoundTrip: it returns true at every input. -/
import Derived.Test.YtjpodhmjmohblaaPos
namespace Go.Proofs.Ytjpodhmjmohblaa
open Go.RowKit
set_option linter.unusedVariables false

theorem mkR (o l : Int) (w : World) : Calls Try.prog 26 #[.int .u32 o, .int .u32 l] w fun e w' => e = .returned (P2 o l) ∧ w.alloc (C2 o l) = w' := by
  go_enter Try.func26, Try.ntmps26
  go_wp2
  exact bodyPost_ret (v := P2 o l) (by simp [results, Try.results26, go_sem]) rfl ⟨rfl, rfl⟩

theorem litPos (b : Nat) (o l : Int) (w : World) (h0 : w.cell? ⟨b, 0, none⟩ = some (.int .u32 o)) (h1 : w.cell? ⟨b, 1, none⟩ = some (.int .u32 l)) :
    Calls Try.prog 55 #[.pointer (some ⟨b, 0, none⟩)] w fun e w' => e = .returned (P2 o l) ∧ w.alloc (C2 o l) = w' := by
  have g0 := later h0
  have g1 := later h1
  go_enter Try.func55, Try.ntmps55
  go_wp2
  exact bodyPost_ret (v := P2 o l) (by simp [results, Try.results55, go_sem]) rfl ⟨rfl, rfl⟩

theorem parEndR_ok (b : Nat) (o l : Int) (w : World) (hv : validB o l = true) (o0 : 0 ≤ o) (l0 : 0 ≤ l) (l1 : l < 4294967296) (h0 : w.cell? ⟨b, 2, none⟩ = some (.int .u32 o)) (h1 : w.cell? ⟨b, 3, none⟩ = some (.int .u32 l)) :
    Calls Try.prog 31 #[.pointer (some ⟨b, 0, none⟩)] w fun e w' => e = .returned (P2 (addO o l 1) (addL o l 1)) ∧ ((((w.alloc (C2 (addO o l 1) (addL o l 1))).alloc (C2 (addO o l 1) (addL o l 1))).alloc (C2 (addO o l 1) (addL o l 1))).alloc (C2 o l)).alloc (C2 o l) = w' := by
  have g0 := later h0
  have g1 := later h1
  go_enter Try.func31, Try.ntmps31
  go_wp2_with fail
  refine (add_ok _ _ _ _ hv o0 l0 l1 (by omega) (by omega)).mono ?_
  rintro e w1 ⟨rfl, rfl⟩
  clear g0 g1 h0 h1
  go_wp2
  exact bodyPost_ret (v := P2 (addO o l 1) (addL o l 1)) (by simp [results, Try.results31, go_sem]) rfl ⟨rfl, rfl⟩

theorem parEndR_bad (b : Nat) (o l : Int) (w : World) (hv : validB o l = false) (h0 : w.cell? ⟨b, 2, none⟩ = some (.int .u32 o)) (h1 : w.cell? ⟨b, 3, none⟩ = some (.int .u32 l)) :
    Calls Try.prog 31 #[.pointer (some ⟨b, 0, none⟩)] w fun e w' => e = .returned (P2 o l) ∧ (((w.alloc (C2 o l)).alloc (C2 o l)).alloc (C2 o l)).alloc (C2 o l) = w' := by
  have g0 := later h0
  have g1 := later h1
  go_enter Try.func31, Try.ntmps31
  go_wp2_with fail
  refine (add_bad _ _ _ _ hv).mono ?_
  rintro e w1 ⟨rfl, rfl⟩
  clear g0 g1 h0 h1
  go_wp2
  exact bodyPost_ret (v := P2 o l) (by simp [results, Try.results31, go_sem]) rfl ⟨rfl, rfl⟩

theorem flagsPos (b p : Nat) (o l : Int) (w : World) (hv : validB o l = true) (o0 : 0 ≤ o) (l0 : 0 ≤ l) (l1 : l < 4294967296) (hp : w.cell? ⟨b, 0, none⟩ = some (.pointer (some ⟨p, 0, none⟩))) (h0 : w.cell? ⟨p, 0, none⟩ = some (.int .u32 o)) (h1 : w.cell? ⟨p, 1, none⟩ = some (.int .u32 l)) :
    Calls Try.prog 27 #[.pointer (some ⟨b, 0, none⟩)] w fun e w' => e = .returned (P2 (addO o l (-1)) (addL o l (-1))) ∧ (((((w.alloc (C2 (addO o l (-1)) (addL o l (-1)))).alloc (C2 o l)).alloc (C2 (addO o l (-1)) (addL o l (-1)))).alloc (C2 (addO o l (-1)) (addL o l (-1)))).alloc (C2 o l)).alloc (C2 o l) = w' := by
  have g := later hp
  have g0 := later h0
  have g1 := later h1
  go_enter Try.func27, Try.ntmps27
  go_wp2_with (go_at_call 55; refine (litPos _ o l _ ?_ ?_).mono ?_; (focus (go_simp; done)); (focus (go_simp; done)); rintro e w' ⟨rfl, rfl⟩)
  refine (add_ok _ _ _ _ hv o0 l0 l1 (by omega) (by omega)).mono ?_
  rintro e w1 ⟨rfl, rfl⟩
  clear g g0 g1 hp h0 h1
  go_wp2
  exact bodyPost_ret (v := P2 (addO o l (-1)) (addL o l (-1))) (by simp [results, Try.results27, go_sem]) rfl ⟨rfl, rfl⟩

theorem round_facts (fo fl : Int) (f0 : 1 ≤ fo) (f1 : fo ≤ 4294967284) (l0 : 0 ≤ fl) (h : 2 ≤ fl % 16384) :
    validB fo fl = true ∧ addO fo fl (-1) = fo - 1 ∧ addL fo fl (-1) = fl - 1 ∧ validB (fo - 1) (fl - 1) = true ∧ addO (fo - 1) (fl - 1) 1 = fo ∧ addL (fo - 1) (fl - 1) 1 = fl ∧ offI (fo - 1) = fo - 1 ∧ (fl - 1) / 16384 = fl / 16384 ∧ (fl - 1) % 16384 = fl % 16384 - 1 := by
  have hv : validB fo fl = true := by simp [validB]; omega
  have hv2 : validB (fo - 1) (fl - 1) = true := by simp [validB]; omega
  have c1 : colI fl (-1) = fl % 16384 - 1 := by unfold colI; rw [if_neg (by omega)]; omega
  have c2 : colI (fl - 1) 1 = fl % 16384 := by unfold colI; rw [if_neg (by omega)]; omega
  refine ⟨hv, ?_, ?_, hv2, ?_, ?_, ?_, by omega, by omega⟩
  · unfold addO; rw [if_pos hv]; omega
  · unfold addL; rw [if_pos hv, c1]; omega
  · unfold addO; rw [if_pos hv2]; omega
  · unfold addL; rw [if_pos hv2, c2]; omega
  · unfold offI; rw [if_neg (by omega)]


set_option maxHeartbeats 1000000 in
theorem round_in (fo fl : Int) (w : World) (a0 : 0 ≤ fo) (a1 : fo < 4294967296) (b0 : 0 ≤ fl) (b1 : fl < 4294967296) (f0 : 1 ≤ fo) (f1 : fo ≤ 4294967284) (h : 2 ≤ fl % 16384) :
    Calls Try.prog 5 #[.int .u32 fo, .int .u32 fl] w fun e w' => e = .returned (.bool true) ∧ Below w.heap.size w w' := by
  obtain ⟨hv, e1, e2, hv2, e3, e4, e5, e6, e7⟩ := round_facts fo fl f0 f1 b0 h
  go_enter Try.func5, Try.ntmps5
  go_wp2_with (first | (go_at_call 26; refine (mkR _ _ _).mono ?_; rintro e w' ⟨rfl, rfl⟩) | (go_at_call 27; refine (flagsPos _ (w.heap.size + 1 + 1) fo fl _ hv a0 b0 b1 ?_ ?_ ?_).mono ?_; (focus (go_simp; done)); (focus (go_simp; done)); (focus (go_simp; done)); rintro e w' ⟨rfl, rfl⟩) | (go_at_call 28; refine (off_x _ _ _ ?_ ?_).mono ?_; (focus (omega)); (focus (omega)); rintro e w' ⟨rfl, rfl⟩) | (go_at_call 29; refine (line_x _ _ _ ?_ ?_).mono ?_; (focus (omega)); (focus (omega)); rintro e w' ⟨rfl, rfl⟩) | (go_at_call 30; refine (col_x _ _ _ ?_ ?_).mono ?_; (focus (omega)); (focus (omega)); rintro e w' ⟨rfl, rfl⟩) | (go_at_call 31; refine (parEndR_ok _ (fo - 1) (fl - 1) _ hv2 (by omega) (by omega) (by omega) ?_ ?_).mono ?_; (focus (go_simp; done)); (focus (go_simp; done)); rintro e w' ⟨rfl, rfl⟩) | (go_at_call 32; go_in) | (go_at_call 77; go_in) | (go_at_call 78; go_in))
  go_ret
  refine ⟨rfl, ?_⟩
  repeat (first | (with_reducible refine Below.drew ?_) | (with_reducible refine balloc ?_ _))
  exact Below.refl _ _

theorem round_law (fo fl : Int) (w : World) (a0 : 0 ≤ fo) (a1 : fo < 4294967296) (b0 : 0 ≤ fl) (b1 : fl < 4294967296) :
    Calls Try.prog 5 #[.int .u32 fo, .int .u32 fl] w fun e w' => e = .returned (.bool true) ∧ Below w.heap.size w w' := by
  by_cases f0 : 1 ≤ fo
  · by_cases f1 : fo ≤ 4294967284
    · by_cases h : 2 ≤ fl % 16384
      · exact round_in fo fl w a0 a1 b0 b1 f0 f1 h
      · go_enter Try.func5, Try.ntmps5
        go_wp2_with fail
        go_ret
        exact ⟨rfl, Below.refl _ _⟩
    · go_enter Try.func5, Try.ntmps5
      go_wp2_with fail
      go_ret
      exact ⟨rfl, Below.refl _ _⟩
  · go_enter Try.func5, Try.ntmps5
    go_wp2_with fail
    go_ret
    exact ⟨rfl, Below.refl _ _⟩
end Go.Proofs.Ytjpodhmjmohblaa
