/- The walk of the law FnCaseClausePosOrder: it returns true at every input. -/
import Derived.Test.YtjpodhmjmohblaaPos
import Derived.Deep.RegionWith
import Derived.Deep.RegionHeld3
namespace Go.Proofs.Ytjpodhmjmohblaa
open Go.RowKit
set_option linter.unusedVariables false

theorem mk46 (o l : Int) (w : World) : Calls Try.prog 34 #[.int .u32 o, .int .u32 l] w fun e w' => e = .returned (P2 o l) ∧ w.alloc (C2 o l) = w' := by
  go_enter Try.func34, Try.ntmps34
  go_wp2
  exact bodyPost_ret (v := P2 o l) (by simp [results, Try.results34, go_sem]) rfl ⟨rfl, rfl⟩

theorem casePos (b : Nat) (o l : Int) (w : World) (h0 : w.cell? ⟨b, 0, none⟩ = some (.int .u32 o)) (h1 : w.cell? ⟨b, 1, none⟩ = some (.int .u32 l)) :
    Calls Try.prog 58 #[.pointer (some ⟨b, 0, none⟩)] w fun e w' => e = .returned (P2 o l) ∧ w.alloc (C2 o l) = w' := by
  have g0 := later h0
  have g1 := later h1
  go_enter Try.func58, Try.ntmps58
  go_wp2
  exact bodyPost_ret (v := P2 o l) (by simp [results, Try.results58, go_sem]) rfl ⟨rfl, rfl⟩

theorem caseEnd_t (b : Nat) (o l : Int) (w : World) (hv : validB o l = true) (o0 : 0 ≤ o) (l0 : 0 ≤ l) (l1 : l < 4294967296) (hb : w.cell? ⟨b, 6, none⟩ = some (.bool true)) (h0 : w.cell? ⟨b, 4, none⟩ = some (.int .u32 o)) (h1 : w.cell? ⟨b, 5, none⟩ = some (.int .u32 l)) :
    Calls Try.prog 59 #[.pointer (some ⟨b, 0, none⟩)] w fun e w' => e = .returned (P2 (addO o l 1) (addL o l 1)) ∧ ((((w.alloc (C2 (addO o l 1) (addL o l 1))).alloc (C2 (addO o l 1) (addL o l 1))).alloc (C2 (addO o l 1) (addL o l 1))).alloc (C2 o l)).alloc (C2 o l) = w' := by
  have g := later hb
  have g0 := later h0
  have g1 := later h1
  go_enter Try.func59, Try.ntmps59
  go_wp2_with fail
  refine (add_ok _ _ _ _ hv o0 l0 l1 (by omega) (by omega)).mono ?_
  rintro e w1 ⟨rfl, rfl⟩
  clear g g0 g1 hb h0 h1
  go_wp2
  exact bodyPost_ret (v := P2 (addO o l 1) (addL o l 1)) (by simp [results, Try.results59, go_sem]) rfl ⟨rfl, rfl⟩

theorem caseEnd_f (b : Nat) (o l : Int) (w : World) (hv : validB o l = true) (o0 : 0 ≤ o) (l0 : 0 ≤ l) (l1 : l < 4294967296) (hb : w.cell? ⟨b, 6, none⟩ = some (.bool false)) (h0 : w.cell? ⟨b, 4, none⟩ = some (.int .u32 o)) (h1 : w.cell? ⟨b, 5, none⟩ = some (.int .u32 l)) :
    Calls Try.prog 59 #[.pointer (some ⟨b, 0, none⟩)] w fun e w' => e = .returned (P2 (addO o l 4) (addL o l 4)) ∧ ((((w.alloc (C2 (addO o l 4) (addL o l 4))).alloc (C2 (addO o l 4) (addL o l 4))).alloc (C2 (addO o l 4) (addL o l 4))).alloc (C2 o l)).alloc (C2 o l) = w' := by
  have g := later hb
  have g0 := later h0
  have g1 := later h1
  go_enter Try.func59, Try.ntmps59
  go_wp2_with fail
  refine (add_ok _ _ _ _ hv o0 l0 l1 (by omega) (by omega)).mono ?_
  rintro e w1 ⟨rfl, rfl⟩
  clear g g0 g1 hb h0 h1
  go_wp2
  exact bodyPost_ret (v := P2 (addO o l 4) (addL o l 4)) (by simp [results, Try.results59, go_sem]) rfl ⟨rfl, rfl⟩

theorem case_facts (co cl eo el n : Int) (n0 : 1 ≤ n) (n1 : n ≤ 4) (c0 : 0 ≤ eo) (d0 : 0 ≤ el) (d1 : el < 4294967296) (he : eo ≤ 4294967284) (le : (el == 0) = false) (h : co ≤ eo) :
    validB eo el = true ∧ afterB co cl (addO eo el n) = false ∧ ((el / 16384 != 0) = true ∨ el % 16384 + n ≤ 16383 → afterB (addO eo el n) (addL eo el n) co = decide (co < min (eo + n) 4294967284)) ∧
    ((el / 16384 != 0) = false → 16383 < el % 16384 + n → afterB (addO eo el n) (addL eo el n) co = false) := by
  have le' : (el != 0) = true := by simpa using le
  have hv : validB eo el = true := by unfold validB; rw [le']; simp; omega
  have ee : addO eo el n = min (eo + n) 4294967284 := by unfold addO; rw [if_pos hv]; omega
  have hc := colI_bd el n
  have el' : addL eo el n = el - el % 16384 + colI el n := by unfold addL; rw [if_pos hv]
  have ln : el ≠ 0 := by simpa using le
  refine ⟨hv, by unfold afterB; rw [ee]; simp; omega, fun k => ?_, fun k m => ?_⟩
  · have nz : (addL eo el n != 0) = true := by
      rw [el']
      simp only [bne_iff_ne] at k ⊢
      rcases k with k | k
      · omega
      · by_cases z : el / 16384 = 0
        · have : colI el n = el % 16384 + n := by unfold colI; rw [if_neg (by omega)]
          omega
        · omega
    unfold afterB validB
    rw [nz, ee]
    simp
    omega
  · have z : (addL eo el n != 0) = false := by
      rw [el']
      simp only [bne_eq_false_iff_eq] at k ⊢
      have : colI el n = 0 := by unfold colI; rw [if_pos (by omega)]
      omega
    unfold afterB validB
    rw [z]
    simp

set_option maxHeartbeats 1000000 in
theorem case_true_L_B (co cl eo el : Int) (w : World) (a0 : 0 ≤ co) (a1 : co < 4294967296) (b0 : 0 ≤ cl) (b1 : cl < 4294967296) (c0 : 0 ≤ eo) (c1 : eo < 4294967296) (d0 : 0 ≤ el) (d1 : el < 4294967296) (hco : co ≤ 4294967284) (lc : (cl == 0) = false) (he : eo ≤ 4294967284) (le : (el == 0) = false) (h : co ≤ eo) (k : (el / 16384 != 0) = true) (q : 4294967284 < eo + 1) :
    Calls Try.prog 10 #[.int .u32 co, .int .u32 cl, .int .u32 eo, .int .u32 el, .bool true] w fun e w' => e = .returned (.bool true) ∧ Below w.heap.size w w' := by
  obtain ⟨hv, f2, f3, f4⟩ := case_facts co cl eo el 1 (by omega) (by omega) c0 d0 d1 he le h
  have af := f3 (Or.inl k)
  rw [show min (eo + 1) 4294967284 = 4294967284 by omega] at af
  clear f3 f4
  have hc : bits .and .u32 el 16383 = el % 16384 := by go_bits2
  have hd : (cl != 0) = true := by simpa using lc
  go_enter Try.func10, Try.ntmps10
  go_wp2_with (first | (go_at_call 34; refine (mk46 _ _ _).mono ?_; rintro e w' ⟨rfl, rfl⟩) | (go_at_call 58; refine (casePos _ co cl _ ?_ ?_).mono ?_; (focus (go_simp; done)); (focus (go_simp; done)); rintro e w' ⟨rfl, rfl⟩) | (go_at_call 59; refine (caseEnd_t _ eo el _ hv c0 d0 d1 ?_ ?_ ?_).mono ?_; (focus (go_simp; done)); (focus (go_simp; done)); (focus (go_simp; done)); rintro e w' ⟨rfl, rfl⟩) | (go_at_call 24; refine (after_x _ _ _ _ _).mono ?_; rintro e w' ⟨rfl, rfl⟩))
  go_region_held3 (fun w' => w'.cell? ⟨w.heap.size + 1, 0, none⟩ = some (.int .u32 co) ∧ w'.cell? ⟨w.heap.size + 1, 1, none⟩ = some (.int .u32 cl)) (first | ((refine ⟨?_, ?_⟩) <;> (go_simp; done)) | (go_split_ands; (refine ⟨blater hb ?_, blater hb ?_⟩) <;> assumption) | go_keep) (first | (go_at_call 34; refine (mk46 _ _ _).mono ?_; rintro e w' ⟨rfl, rfl⟩) | (go_at_call 58; refine (casePos _ co cl _ ?_ ?_).mono ?_; (focus (go_simp; done)); (focus (go_simp; done)); rintro e w' ⟨rfl, rfl⟩) | (go_at_call 59; refine (caseEnd_t _ eo el _ hv c0 d0 d1 ?_ ?_ ?_).mono ?_; (focus (go_simp; done)); (focus (go_simp; done)); (focus (go_simp; done)); rintro e w' ⟨rfl, rfl⟩) | (go_at_call 24; refine (after_x _ _ _ _ _).mono ?_; rintro e w' ⟨rfl, rfl⟩))
  go_wp2_with (first | (go_at_call 34; refine (mk46 _ _ _).mono ?_; rintro e w' ⟨rfl, rfl⟩) | (go_at_call 58; refine (casePos _ co cl _ ?_ ?_).mono ?_; (focus (go_simp; done)); (focus (go_simp; done)); rintro e w' ⟨rfl, rfl⟩) | (go_at_call 59; refine (caseEnd_t _ eo el _ hv c0 d0 d1 ?_ ?_ ?_).mono ?_; (focus (go_simp; done)); (focus (go_simp; done)); (focus (go_simp; done)); rintro e w' ⟨rfl, rfl⟩) | (go_at_call 24; refine (after_x _ _ _ _ _).mono ?_; rintro e w' ⟨rfl, rfl⟩))
  go_ret
  refine ⟨ret_bool (by simp), ?_⟩
  repeat (first | (with_reducible refine Below.drew ?_) | (with_reducible refine balloc ?_ _))
  exact Below.refl _ _

set_option maxHeartbeats 1000000 in
theorem case_true_L_S (co cl eo el : Int) (w : World) (a0 : 0 ≤ co) (a1 : co < 4294967296) (b0 : 0 ≤ cl) (b1 : cl < 4294967296) (c0 : 0 ≤ eo) (c1 : eo < 4294967296) (d0 : 0 ≤ el) (d1 : el < 4294967296) (hco : co ≤ 4294967284) (lc : (cl == 0) = false) (he : eo ≤ 4294967284) (le : (el == 0) = false) (h : co ≤ eo) (k : (el / 16384 != 0) = true) (q : eo + 1 ≤ 4294967284) :
    Calls Try.prog 10 #[.int .u32 co, .int .u32 cl, .int .u32 eo, .int .u32 el, .bool true] w fun e w' => e = .returned (.bool true) ∧ Below w.heap.size w w' := by
  obtain ⟨hv, f2, f3, f4⟩ := case_facts co cl eo el 1 (by omega) (by omega) c0 d0 d1 he le h
  have af := f3 (Or.inl k)
  rw [show min (eo + 1) 4294967284 = (eo + 1) by omega] at af
  clear f3 f4
  have hc : bits .and .u32 el 16383 = el % 16384 := by go_bits2
  have hd : (cl != 0) = true := by simpa using lc
  go_enter Try.func10, Try.ntmps10
  go_wp2_with (first | (go_at_call 34; refine (mk46 _ _ _).mono ?_; rintro e w' ⟨rfl, rfl⟩) | (go_at_call 58; refine (casePos _ co cl _ ?_ ?_).mono ?_; (focus (go_simp; done)); (focus (go_simp; done)); rintro e w' ⟨rfl, rfl⟩) | (go_at_call 59; refine (caseEnd_t _ eo el _ hv c0 d0 d1 ?_ ?_ ?_).mono ?_; (focus (go_simp; done)); (focus (go_simp; done)); (focus (go_simp; done)); rintro e w' ⟨rfl, rfl⟩) | (go_at_call 24; refine (after_x _ _ _ _ _).mono ?_; rintro e w' ⟨rfl, rfl⟩))
  go_region_held3 (fun w' => w'.cell? ⟨w.heap.size + 1, 0, none⟩ = some (.int .u32 co) ∧ w'.cell? ⟨w.heap.size + 1, 1, none⟩ = some (.int .u32 cl)) (first | ((refine ⟨?_, ?_⟩) <;> (go_simp; done)) | (go_split_ands; (refine ⟨blater hb ?_, blater hb ?_⟩) <;> assumption) | go_keep) (first | (go_at_call 34; refine (mk46 _ _ _).mono ?_; rintro e w' ⟨rfl, rfl⟩) | (go_at_call 58; refine (casePos _ co cl _ ?_ ?_).mono ?_; (focus (go_simp; done)); (focus (go_simp; done)); rintro e w' ⟨rfl, rfl⟩) | (go_at_call 59; refine (caseEnd_t _ eo el _ hv c0 d0 d1 ?_ ?_ ?_).mono ?_; (focus (go_simp; done)); (focus (go_simp; done)); (focus (go_simp; done)); rintro e w' ⟨rfl, rfl⟩) | (go_at_call 24; refine (after_x _ _ _ _ _).mono ?_; rintro e w' ⟨rfl, rfl⟩))
  go_wp2_with (first | (go_at_call 34; refine (mk46 _ _ _).mono ?_; rintro e w' ⟨rfl, rfl⟩) | (go_at_call 58; refine (casePos _ co cl _ ?_ ?_).mono ?_; (focus (go_simp; done)); (focus (go_simp; done)); rintro e w' ⟨rfl, rfl⟩) | (go_at_call 59; refine (caseEnd_t _ eo el _ hv c0 d0 d1 ?_ ?_ ?_).mono ?_; (focus (go_simp; done)); (focus (go_simp; done)); (focus (go_simp; done)); rintro e w' ⟨rfl, rfl⟩) | (go_at_call 24; refine (after_x _ _ _ _ _).mono ?_; rintro e w' ⟨rfl, rfl⟩))
  go_ret
  refine ⟨ret_bool (by simp), ?_⟩
  repeat (first | (with_reducible refine Below.drew ?_) | (with_reducible refine balloc ?_ _))
  exact Below.refl _ _

set_option maxHeartbeats 1000000 in
theorem case_true_C_B (co cl eo el : Int) (w : World) (a0 : 0 ≤ co) (a1 : co < 4294967296) (b0 : 0 ≤ cl) (b1 : cl < 4294967296) (c0 : 0 ≤ eo) (c1 : eo < 4294967296) (d0 : 0 ≤ el) (d1 : el < 4294967296) (hco : co ≤ 4294967284) (lc : (cl == 0) = false) (he : eo ≤ 4294967284) (le : (el == 0) = false) (h : co ≤ eo) (k : (el / 16384 != 0) = false) (m : el % 16384 + 1 ≤ 16383) (q : 4294967284 < eo + 1) :
    Calls Try.prog 10 #[.int .u32 co, .int .u32 cl, .int .u32 eo, .int .u32 el, .bool true] w fun e w' => e = .returned (.bool true) ∧ Below w.heap.size w w' := by
  obtain ⟨hv, f2, f3, f4⟩ := case_facts co cl eo el 1 (by omega) (by omega) c0 d0 d1 he le h
  have af := f3 (Or.inr m)
  rw [show min (eo + 1) 4294967284 = 4294967284 by omega] at af
  clear f3 f4
  have hc : bits .and .u32 el 16383 = el % 16384 := by go_bits2
  have hd : (cl != 0) = true := by simpa using lc
  go_enter Try.func10, Try.ntmps10
  go_wp2_with (first | (go_at_call 34; refine (mk46 _ _ _).mono ?_; rintro e w' ⟨rfl, rfl⟩) | (go_at_call 58; refine (casePos _ co cl _ ?_ ?_).mono ?_; (focus (go_simp; done)); (focus (go_simp; done)); rintro e w' ⟨rfl, rfl⟩) | (go_at_call 59; refine (caseEnd_t _ eo el _ hv c0 d0 d1 ?_ ?_ ?_).mono ?_; (focus (go_simp; done)); (focus (go_simp; done)); (focus (go_simp; done)); rintro e w' ⟨rfl, rfl⟩) | (go_at_call 24; refine (after_x _ _ _ _ _).mono ?_; rintro e w' ⟨rfl, rfl⟩))
  go_region_held3 (fun w' => w'.cell? ⟨w.heap.size + 1, 0, none⟩ = some (.int .u32 co) ∧ w'.cell? ⟨w.heap.size + 1, 1, none⟩ = some (.int .u32 cl)) (first | ((refine ⟨?_, ?_⟩) <;> (go_simp; done)) | (go_split_ands; (refine ⟨blater hb ?_, blater hb ?_⟩) <;> assumption) | go_keep) (first | (go_at_call 34; refine (mk46 _ _ _).mono ?_; rintro e w' ⟨rfl, rfl⟩) | (go_at_call 58; refine (casePos _ co cl _ ?_ ?_).mono ?_; (focus (go_simp; done)); (focus (go_simp; done)); rintro e w' ⟨rfl, rfl⟩) | (go_at_call 59; refine (caseEnd_t _ eo el _ hv c0 d0 d1 ?_ ?_ ?_).mono ?_; (focus (go_simp; done)); (focus (go_simp; done)); (focus (go_simp; done)); rintro e w' ⟨rfl, rfl⟩) | (go_at_call 24; refine (after_x _ _ _ _ _).mono ?_; rintro e w' ⟨rfl, rfl⟩))
  go_wp2_with (first | (go_at_call 34; refine (mk46 _ _ _).mono ?_; rintro e w' ⟨rfl, rfl⟩) | (go_at_call 58; refine (casePos _ co cl _ ?_ ?_).mono ?_; (focus (go_simp; done)); (focus (go_simp; done)); rintro e w' ⟨rfl, rfl⟩) | (go_at_call 59; refine (caseEnd_t _ eo el _ hv c0 d0 d1 ?_ ?_ ?_).mono ?_; (focus (go_simp; done)); (focus (go_simp; done)); (focus (go_simp; done)); rintro e w' ⟨rfl, rfl⟩) | (go_at_call 24; refine (after_x _ _ _ _ _).mono ?_; rintro e w' ⟨rfl, rfl⟩))
  go_ret
  refine ⟨ret_bool (by simp), ?_⟩
  repeat (first | (with_reducible refine Below.drew ?_) | (with_reducible refine balloc ?_ _))
  exact Below.refl _ _

set_option maxHeartbeats 1000000 in
theorem case_true_C_S (co cl eo el : Int) (w : World) (a0 : 0 ≤ co) (a1 : co < 4294967296) (b0 : 0 ≤ cl) (b1 : cl < 4294967296) (c0 : 0 ≤ eo) (c1 : eo < 4294967296) (d0 : 0 ≤ el) (d1 : el < 4294967296) (hco : co ≤ 4294967284) (lc : (cl == 0) = false) (he : eo ≤ 4294967284) (le : (el == 0) = false) (h : co ≤ eo) (k : (el / 16384 != 0) = false) (m : el % 16384 + 1 ≤ 16383) (q : eo + 1 ≤ 4294967284) :
    Calls Try.prog 10 #[.int .u32 co, .int .u32 cl, .int .u32 eo, .int .u32 el, .bool true] w fun e w' => e = .returned (.bool true) ∧ Below w.heap.size w w' := by
  obtain ⟨hv, f2, f3, f4⟩ := case_facts co cl eo el 1 (by omega) (by omega) c0 d0 d1 he le h
  have af := f3 (Or.inr m)
  rw [show min (eo + 1) 4294967284 = (eo + 1) by omega] at af
  clear f3 f4
  have hc : bits .and .u32 el 16383 = el % 16384 := by go_bits2
  have hd : (cl != 0) = true := by simpa using lc
  go_enter Try.func10, Try.ntmps10
  go_wp2_with (first | (go_at_call 34; refine (mk46 _ _ _).mono ?_; rintro e w' ⟨rfl, rfl⟩) | (go_at_call 58; refine (casePos _ co cl _ ?_ ?_).mono ?_; (focus (go_simp; done)); (focus (go_simp; done)); rintro e w' ⟨rfl, rfl⟩) | (go_at_call 59; refine (caseEnd_t _ eo el _ hv c0 d0 d1 ?_ ?_ ?_).mono ?_; (focus (go_simp; done)); (focus (go_simp; done)); (focus (go_simp; done)); rintro e w' ⟨rfl, rfl⟩) | (go_at_call 24; refine (after_x _ _ _ _ _).mono ?_; rintro e w' ⟨rfl, rfl⟩))
  go_region_held3 (fun w' => w'.cell? ⟨w.heap.size + 1, 0, none⟩ = some (.int .u32 co) ∧ w'.cell? ⟨w.heap.size + 1, 1, none⟩ = some (.int .u32 cl)) (first | ((refine ⟨?_, ?_⟩) <;> (go_simp; done)) | (go_split_ands; (refine ⟨blater hb ?_, blater hb ?_⟩) <;> assumption) | go_keep) (first | (go_at_call 34; refine (mk46 _ _ _).mono ?_; rintro e w' ⟨rfl, rfl⟩) | (go_at_call 58; refine (casePos _ co cl _ ?_ ?_).mono ?_; (focus (go_simp; done)); (focus (go_simp; done)); rintro e w' ⟨rfl, rfl⟩) | (go_at_call 59; refine (caseEnd_t _ eo el _ hv c0 d0 d1 ?_ ?_ ?_).mono ?_; (focus (go_simp; done)); (focus (go_simp; done)); (focus (go_simp; done)); rintro e w' ⟨rfl, rfl⟩) | (go_at_call 24; refine (after_x _ _ _ _ _).mono ?_; rintro e w' ⟨rfl, rfl⟩))
  go_wp2_with (first | (go_at_call 34; refine (mk46 _ _ _).mono ?_; rintro e w' ⟨rfl, rfl⟩) | (go_at_call 58; refine (casePos _ co cl _ ?_ ?_).mono ?_; (focus (go_simp; done)); (focus (go_simp; done)); rintro e w' ⟨rfl, rfl⟩) | (go_at_call 59; refine (caseEnd_t _ eo el _ hv c0 d0 d1 ?_ ?_ ?_).mono ?_; (focus (go_simp; done)); (focus (go_simp; done)); (focus (go_simp; done)); rintro e w' ⟨rfl, rfl⟩) | (go_at_call 24; refine (after_x _ _ _ _ _).mono ?_; rintro e w' ⟨rfl, rfl⟩))
  go_ret
  refine ⟨ret_bool (by simp), ?_⟩
  repeat (first | (with_reducible refine Below.drew ?_) | (with_reducible refine balloc ?_ _))
  exact Below.refl _ _

set_option maxHeartbeats 1000000 in
theorem case_true_N_B (co cl eo el : Int) (w : World) (a0 : 0 ≤ co) (a1 : co < 4294967296) (b0 : 0 ≤ cl) (b1 : cl < 4294967296) (c0 : 0 ≤ eo) (c1 : eo < 4294967296) (d0 : 0 ≤ el) (d1 : el < 4294967296) (hco : co ≤ 4294967284) (lc : (cl == 0) = false) (he : eo ≤ 4294967284) (le : (el == 0) = false) (h : co ≤ eo) (k : (el / 16384 != 0) = false) (m : 16383 < el % 16384 + 1) (q : 4294967284 < eo + 1) :
    Calls Try.prog 10 #[.int .u32 co, .int .u32 cl, .int .u32 eo, .int .u32 el, .bool true] w fun e w' => e = .returned (.bool true) ∧ Below w.heap.size w w' := by
  obtain ⟨hv, f2, f3, f4⟩ := case_facts co cl eo el 1 (by omega) (by omega) c0 d0 d1 he le h
  have af := f4 k m
  clear f3 f4
  have hc : bits .and .u32 el 16383 = el % 16384 := by go_bits2
  have hd : (cl != 0) = true := by simpa using lc
  go_enter Try.func10, Try.ntmps10
  go_wp2_with (first | (go_at_call 34; refine (mk46 _ _ _).mono ?_; rintro e w' ⟨rfl, rfl⟩) | (go_at_call 58; refine (casePos _ co cl _ ?_ ?_).mono ?_; (focus (go_simp; done)); (focus (go_simp; done)); rintro e w' ⟨rfl, rfl⟩) | (go_at_call 59; refine (caseEnd_t _ eo el _ hv c0 d0 d1 ?_ ?_ ?_).mono ?_; (focus (go_simp; done)); (focus (go_simp; done)); (focus (go_simp; done)); rintro e w' ⟨rfl, rfl⟩) | (go_at_call 24; refine (after_x _ _ _ _ _).mono ?_; rintro e w' ⟨rfl, rfl⟩))
  go_region_held3 (fun w' => w'.cell? ⟨w.heap.size + 1, 0, none⟩ = some (.int .u32 co) ∧ w'.cell? ⟨w.heap.size + 1, 1, none⟩ = some (.int .u32 cl)) (first | ((refine ⟨?_, ?_⟩) <;> (go_simp; done)) | (go_split_ands; (refine ⟨blater hb ?_, blater hb ?_⟩) <;> assumption) | go_keep) (first | (go_at_call 34; refine (mk46 _ _ _).mono ?_; rintro e w' ⟨rfl, rfl⟩) | (go_at_call 58; refine (casePos _ co cl _ ?_ ?_).mono ?_; (focus (go_simp; done)); (focus (go_simp; done)); rintro e w' ⟨rfl, rfl⟩) | (go_at_call 59; refine (caseEnd_t _ eo el _ hv c0 d0 d1 ?_ ?_ ?_).mono ?_; (focus (go_simp; done)); (focus (go_simp; done)); (focus (go_simp; done)); rintro e w' ⟨rfl, rfl⟩) | (go_at_call 24; refine (after_x _ _ _ _ _).mono ?_; rintro e w' ⟨rfl, rfl⟩))
  go_wp2_with (first | (go_at_call 34; refine (mk46 _ _ _).mono ?_; rintro e w' ⟨rfl, rfl⟩) | (go_at_call 58; refine (casePos _ co cl _ ?_ ?_).mono ?_; (focus (go_simp; done)); (focus (go_simp; done)); rintro e w' ⟨rfl, rfl⟩) | (go_at_call 59; refine (caseEnd_t _ eo el _ hv c0 d0 d1 ?_ ?_ ?_).mono ?_; (focus (go_simp; done)); (focus (go_simp; done)); (focus (go_simp; done)); rintro e w' ⟨rfl, rfl⟩) | (go_at_call 24; refine (after_x _ _ _ _ _).mono ?_; rintro e w' ⟨rfl, rfl⟩))
  go_ret
  refine ⟨ret_bool (by simp), ?_⟩
  repeat (first | (with_reducible refine Below.drew ?_) | (with_reducible refine balloc ?_ _))
  exact Below.refl _ _

set_option maxHeartbeats 1000000 in
theorem case_true_N_S (co cl eo el : Int) (w : World) (a0 : 0 ≤ co) (a1 : co < 4294967296) (b0 : 0 ≤ cl) (b1 : cl < 4294967296) (c0 : 0 ≤ eo) (c1 : eo < 4294967296) (d0 : 0 ≤ el) (d1 : el < 4294967296) (hco : co ≤ 4294967284) (lc : (cl == 0) = false) (he : eo ≤ 4294967284) (le : (el == 0) = false) (h : co ≤ eo) (k : (el / 16384 != 0) = false) (m : 16383 < el % 16384 + 1) (q : eo + 1 ≤ 4294967284) :
    Calls Try.prog 10 #[.int .u32 co, .int .u32 cl, .int .u32 eo, .int .u32 el, .bool true] w fun e w' => e = .returned (.bool true) ∧ Below w.heap.size w w' := by
  obtain ⟨hv, f2, f3, f4⟩ := case_facts co cl eo el 1 (by omega) (by omega) c0 d0 d1 he le h
  have af := f4 k m
  clear f3 f4
  have hc : bits .and .u32 el 16383 = el % 16384 := by go_bits2
  have hd : (cl != 0) = true := by simpa using lc
  go_enter Try.func10, Try.ntmps10
  go_wp2_with (first | (go_at_call 34; refine (mk46 _ _ _).mono ?_; rintro e w' ⟨rfl, rfl⟩) | (go_at_call 58; refine (casePos _ co cl _ ?_ ?_).mono ?_; (focus (go_simp; done)); (focus (go_simp; done)); rintro e w' ⟨rfl, rfl⟩) | (go_at_call 59; refine (caseEnd_t _ eo el _ hv c0 d0 d1 ?_ ?_ ?_).mono ?_; (focus (go_simp; done)); (focus (go_simp; done)); (focus (go_simp; done)); rintro e w' ⟨rfl, rfl⟩) | (go_at_call 24; refine (after_x _ _ _ _ _).mono ?_; rintro e w' ⟨rfl, rfl⟩))
  go_region_held3 (fun w' => w'.cell? ⟨w.heap.size + 1, 0, none⟩ = some (.int .u32 co) ∧ w'.cell? ⟨w.heap.size + 1, 1, none⟩ = some (.int .u32 cl)) (first | ((refine ⟨?_, ?_⟩) <;> (go_simp; done)) | (go_split_ands; (refine ⟨blater hb ?_, blater hb ?_⟩) <;> assumption) | go_keep) (first | (go_at_call 34; refine (mk46 _ _ _).mono ?_; rintro e w' ⟨rfl, rfl⟩) | (go_at_call 58; refine (casePos _ co cl _ ?_ ?_).mono ?_; (focus (go_simp; done)); (focus (go_simp; done)); rintro e w' ⟨rfl, rfl⟩) | (go_at_call 59; refine (caseEnd_t _ eo el _ hv c0 d0 d1 ?_ ?_ ?_).mono ?_; (focus (go_simp; done)); (focus (go_simp; done)); (focus (go_simp; done)); rintro e w' ⟨rfl, rfl⟩) | (go_at_call 24; refine (after_x _ _ _ _ _).mono ?_; rintro e w' ⟨rfl, rfl⟩))
  go_wp2_with (first | (go_at_call 34; refine (mk46 _ _ _).mono ?_; rintro e w' ⟨rfl, rfl⟩) | (go_at_call 58; refine (casePos _ co cl _ ?_ ?_).mono ?_; (focus (go_simp; done)); (focus (go_simp; done)); rintro e w' ⟨rfl, rfl⟩) | (go_at_call 59; refine (caseEnd_t _ eo el _ hv c0 d0 d1 ?_ ?_ ?_).mono ?_; (focus (go_simp; done)); (focus (go_simp; done)); (focus (go_simp; done)); rintro e w' ⟨rfl, rfl⟩) | (go_at_call 24; refine (after_x _ _ _ _ _).mono ?_; rintro e w' ⟨rfl, rfl⟩))
  go_ret
  refine ⟨ret_bool (by simp), ?_⟩
  repeat (first | (with_reducible refine Below.drew ?_) | (with_reducible refine balloc ?_ _))
  exact Below.refl _ _

set_option maxHeartbeats 1000000 in
theorem case_false_L_B (co cl eo el : Int) (w : World) (a0 : 0 ≤ co) (a1 : co < 4294967296) (b0 : 0 ≤ cl) (b1 : cl < 4294967296) (c0 : 0 ≤ eo) (c1 : eo < 4294967296) (d0 : 0 ≤ el) (d1 : el < 4294967296) (hco : co ≤ 4294967284) (lc : (cl == 0) = false) (he : eo ≤ 4294967284) (le : (el == 0) = false) (h : co ≤ eo) (k : (el / 16384 != 0) = true) (q : 4294967284 < eo + 4) :
    Calls Try.prog 10 #[.int .u32 co, .int .u32 cl, .int .u32 eo, .int .u32 el, .bool false] w fun e w' => e = .returned (.bool true) ∧ Below w.heap.size w w' := by
  obtain ⟨hv, f2, f3, f4⟩ := case_facts co cl eo el 4 (by omega) (by omega) c0 d0 d1 he le h
  have af := f3 (Or.inl k)
  rw [show min (eo + 4) 4294967284 = 4294967284 by omega] at af
  clear f3 f4
  have hc : bits .and .u32 el 16383 = el % 16384 := by go_bits2
  have hd : (cl != 0) = true := by simpa using lc
  go_enter Try.func10, Try.ntmps10
  go_wp2_with (first | (go_at_call 34; refine (mk46 _ _ _).mono ?_; rintro e w' ⟨rfl, rfl⟩) | (go_at_call 58; refine (casePos _ co cl _ ?_ ?_).mono ?_; (focus (go_simp; done)); (focus (go_simp; done)); rintro e w' ⟨rfl, rfl⟩) | (go_at_call 59; refine (caseEnd_f _ eo el _ hv c0 d0 d1 ?_ ?_ ?_).mono ?_; (focus (go_simp; done)); (focus (go_simp; done)); (focus (go_simp; done)); rintro e w' ⟨rfl, rfl⟩) | (go_at_call 24; refine (after_x _ _ _ _ _).mono ?_; rintro e w' ⟨rfl, rfl⟩))
  go_region_held3 (fun w' => w'.cell? ⟨w.heap.size + 1, 0, none⟩ = some (.int .u32 co) ∧ w'.cell? ⟨w.heap.size + 1, 1, none⟩ = some (.int .u32 cl)) (first | ((refine ⟨?_, ?_⟩) <;> (go_simp; done)) | (go_split_ands; (refine ⟨blater hb ?_, blater hb ?_⟩) <;> assumption) | go_keep) (first | (go_at_call 34; refine (mk46 _ _ _).mono ?_; rintro e w' ⟨rfl, rfl⟩) | (go_at_call 58; refine (casePos _ co cl _ ?_ ?_).mono ?_; (focus (go_simp; done)); (focus (go_simp; done)); rintro e w' ⟨rfl, rfl⟩) | (go_at_call 59; refine (caseEnd_f _ eo el _ hv c0 d0 d1 ?_ ?_ ?_).mono ?_; (focus (go_simp; done)); (focus (go_simp; done)); (focus (go_simp; done)); rintro e w' ⟨rfl, rfl⟩) | (go_at_call 24; refine (after_x _ _ _ _ _).mono ?_; rintro e w' ⟨rfl, rfl⟩))
  go_wp2_with (first | (go_at_call 34; refine (mk46 _ _ _).mono ?_; rintro e w' ⟨rfl, rfl⟩) | (go_at_call 58; refine (casePos _ co cl _ ?_ ?_).mono ?_; (focus (go_simp; done)); (focus (go_simp; done)); rintro e w' ⟨rfl, rfl⟩) | (go_at_call 59; refine (caseEnd_f _ eo el _ hv c0 d0 d1 ?_ ?_ ?_).mono ?_; (focus (go_simp; done)); (focus (go_simp; done)); (focus (go_simp; done)); rintro e w' ⟨rfl, rfl⟩) | (go_at_call 24; refine (after_x _ _ _ _ _).mono ?_; rintro e w' ⟨rfl, rfl⟩))
  go_ret
  refine ⟨ret_bool (by simp), ?_⟩
  repeat (first | (with_reducible refine Below.drew ?_) | (with_reducible refine balloc ?_ _))
  exact Below.refl _ _

set_option maxHeartbeats 1000000 in
theorem case_false_L_S (co cl eo el : Int) (w : World) (a0 : 0 ≤ co) (a1 : co < 4294967296) (b0 : 0 ≤ cl) (b1 : cl < 4294967296) (c0 : 0 ≤ eo) (c1 : eo < 4294967296) (d0 : 0 ≤ el) (d1 : el < 4294967296) (hco : co ≤ 4294967284) (lc : (cl == 0) = false) (he : eo ≤ 4294967284) (le : (el == 0) = false) (h : co ≤ eo) (k : (el / 16384 != 0) = true) (q : eo + 4 ≤ 4294967284) :
    Calls Try.prog 10 #[.int .u32 co, .int .u32 cl, .int .u32 eo, .int .u32 el, .bool false] w fun e w' => e = .returned (.bool true) ∧ Below w.heap.size w w' := by
  obtain ⟨hv, f2, f3, f4⟩ := case_facts co cl eo el 4 (by omega) (by omega) c0 d0 d1 he le h
  have af := f3 (Or.inl k)
  rw [show min (eo + 4) 4294967284 = (eo + 4) by omega] at af
  clear f3 f4
  have hc : bits .and .u32 el 16383 = el % 16384 := by go_bits2
  have hd : (cl != 0) = true := by simpa using lc
  go_enter Try.func10, Try.ntmps10
  go_wp2_with (first | (go_at_call 34; refine (mk46 _ _ _).mono ?_; rintro e w' ⟨rfl, rfl⟩) | (go_at_call 58; refine (casePos _ co cl _ ?_ ?_).mono ?_; (focus (go_simp; done)); (focus (go_simp; done)); rintro e w' ⟨rfl, rfl⟩) | (go_at_call 59; refine (caseEnd_f _ eo el _ hv c0 d0 d1 ?_ ?_ ?_).mono ?_; (focus (go_simp; done)); (focus (go_simp; done)); (focus (go_simp; done)); rintro e w' ⟨rfl, rfl⟩) | (go_at_call 24; refine (after_x _ _ _ _ _).mono ?_; rintro e w' ⟨rfl, rfl⟩))
  go_region_held3 (fun w' => w'.cell? ⟨w.heap.size + 1, 0, none⟩ = some (.int .u32 co) ∧ w'.cell? ⟨w.heap.size + 1, 1, none⟩ = some (.int .u32 cl)) (first | ((refine ⟨?_, ?_⟩) <;> (go_simp; done)) | (go_split_ands; (refine ⟨blater hb ?_, blater hb ?_⟩) <;> assumption) | go_keep) (first | (go_at_call 34; refine (mk46 _ _ _).mono ?_; rintro e w' ⟨rfl, rfl⟩) | (go_at_call 58; refine (casePos _ co cl _ ?_ ?_).mono ?_; (focus (go_simp; done)); (focus (go_simp; done)); rintro e w' ⟨rfl, rfl⟩) | (go_at_call 59; refine (caseEnd_f _ eo el _ hv c0 d0 d1 ?_ ?_ ?_).mono ?_; (focus (go_simp; done)); (focus (go_simp; done)); (focus (go_simp; done)); rintro e w' ⟨rfl, rfl⟩) | (go_at_call 24; refine (after_x _ _ _ _ _).mono ?_; rintro e w' ⟨rfl, rfl⟩))
  go_wp2_with (first | (go_at_call 34; refine (mk46 _ _ _).mono ?_; rintro e w' ⟨rfl, rfl⟩) | (go_at_call 58; refine (casePos _ co cl _ ?_ ?_).mono ?_; (focus (go_simp; done)); (focus (go_simp; done)); rintro e w' ⟨rfl, rfl⟩) | (go_at_call 59; refine (caseEnd_f _ eo el _ hv c0 d0 d1 ?_ ?_ ?_).mono ?_; (focus (go_simp; done)); (focus (go_simp; done)); (focus (go_simp; done)); rintro e w' ⟨rfl, rfl⟩) | (go_at_call 24; refine (after_x _ _ _ _ _).mono ?_; rintro e w' ⟨rfl, rfl⟩))
  go_ret
  refine ⟨ret_bool (by simp), ?_⟩
  repeat (first | (with_reducible refine Below.drew ?_) | (with_reducible refine balloc ?_ _))
  exact Below.refl _ _

set_option maxHeartbeats 1000000 in
theorem case_false_C_B (co cl eo el : Int) (w : World) (a0 : 0 ≤ co) (a1 : co < 4294967296) (b0 : 0 ≤ cl) (b1 : cl < 4294967296) (c0 : 0 ≤ eo) (c1 : eo < 4294967296) (d0 : 0 ≤ el) (d1 : el < 4294967296) (hco : co ≤ 4294967284) (lc : (cl == 0) = false) (he : eo ≤ 4294967284) (le : (el == 0) = false) (h : co ≤ eo) (k : (el / 16384 != 0) = false) (m : el % 16384 + 4 ≤ 16383) (q : 4294967284 < eo + 4) :
    Calls Try.prog 10 #[.int .u32 co, .int .u32 cl, .int .u32 eo, .int .u32 el, .bool false] w fun e w' => e = .returned (.bool true) ∧ Below w.heap.size w w' := by
  obtain ⟨hv, f2, f3, f4⟩ := case_facts co cl eo el 4 (by omega) (by omega) c0 d0 d1 he le h
  have af := f3 (Or.inr m)
  rw [show min (eo + 4) 4294967284 = 4294967284 by omega] at af
  clear f3 f4
  have hc : bits .and .u32 el 16383 = el % 16384 := by go_bits2
  have hd : (cl != 0) = true := by simpa using lc
  go_enter Try.func10, Try.ntmps10
  go_wp2_with (first | (go_at_call 34; refine (mk46 _ _ _).mono ?_; rintro e w' ⟨rfl, rfl⟩) | (go_at_call 58; refine (casePos _ co cl _ ?_ ?_).mono ?_; (focus (go_simp; done)); (focus (go_simp; done)); rintro e w' ⟨rfl, rfl⟩) | (go_at_call 59; refine (caseEnd_f _ eo el _ hv c0 d0 d1 ?_ ?_ ?_).mono ?_; (focus (go_simp; done)); (focus (go_simp; done)); (focus (go_simp; done)); rintro e w' ⟨rfl, rfl⟩) | (go_at_call 24; refine (after_x _ _ _ _ _).mono ?_; rintro e w' ⟨rfl, rfl⟩))
  go_region_held3 (fun w' => w'.cell? ⟨w.heap.size + 1, 0, none⟩ = some (.int .u32 co) ∧ w'.cell? ⟨w.heap.size + 1, 1, none⟩ = some (.int .u32 cl)) (first | ((refine ⟨?_, ?_⟩) <;> (go_simp; done)) | (go_split_ands; (refine ⟨blater hb ?_, blater hb ?_⟩) <;> assumption) | go_keep) (first | (go_at_call 34; refine (mk46 _ _ _).mono ?_; rintro e w' ⟨rfl, rfl⟩) | (go_at_call 58; refine (casePos _ co cl _ ?_ ?_).mono ?_; (focus (go_simp; done)); (focus (go_simp; done)); rintro e w' ⟨rfl, rfl⟩) | (go_at_call 59; refine (caseEnd_f _ eo el _ hv c0 d0 d1 ?_ ?_ ?_).mono ?_; (focus (go_simp; done)); (focus (go_simp; done)); (focus (go_simp; done)); rintro e w' ⟨rfl, rfl⟩) | (go_at_call 24; refine (after_x _ _ _ _ _).mono ?_; rintro e w' ⟨rfl, rfl⟩))
  go_wp2_with (first | (go_at_call 34; refine (mk46 _ _ _).mono ?_; rintro e w' ⟨rfl, rfl⟩) | (go_at_call 58; refine (casePos _ co cl _ ?_ ?_).mono ?_; (focus (go_simp; done)); (focus (go_simp; done)); rintro e w' ⟨rfl, rfl⟩) | (go_at_call 59; refine (caseEnd_f _ eo el _ hv c0 d0 d1 ?_ ?_ ?_).mono ?_; (focus (go_simp; done)); (focus (go_simp; done)); (focus (go_simp; done)); rintro e w' ⟨rfl, rfl⟩) | (go_at_call 24; refine (after_x _ _ _ _ _).mono ?_; rintro e w' ⟨rfl, rfl⟩))
  go_ret
  refine ⟨ret_bool (by simp), ?_⟩
  repeat (first | (with_reducible refine Below.drew ?_) | (with_reducible refine balloc ?_ _))
  exact Below.refl _ _

set_option maxHeartbeats 1000000 in
theorem case_false_C_S (co cl eo el : Int) (w : World) (a0 : 0 ≤ co) (a1 : co < 4294967296) (b0 : 0 ≤ cl) (b1 : cl < 4294967296) (c0 : 0 ≤ eo) (c1 : eo < 4294967296) (d0 : 0 ≤ el) (d1 : el < 4294967296) (hco : co ≤ 4294967284) (lc : (cl == 0) = false) (he : eo ≤ 4294967284) (le : (el == 0) = false) (h : co ≤ eo) (k : (el / 16384 != 0) = false) (m : el % 16384 + 4 ≤ 16383) (q : eo + 4 ≤ 4294967284) :
    Calls Try.prog 10 #[.int .u32 co, .int .u32 cl, .int .u32 eo, .int .u32 el, .bool false] w fun e w' => e = .returned (.bool true) ∧ Below w.heap.size w w' := by
  obtain ⟨hv, f2, f3, f4⟩ := case_facts co cl eo el 4 (by omega) (by omega) c0 d0 d1 he le h
  have af := f3 (Or.inr m)
  rw [show min (eo + 4) 4294967284 = (eo + 4) by omega] at af
  clear f3 f4
  have hc : bits .and .u32 el 16383 = el % 16384 := by go_bits2
  have hd : (cl != 0) = true := by simpa using lc
  go_enter Try.func10, Try.ntmps10
  go_wp2_with (first | (go_at_call 34; refine (mk46 _ _ _).mono ?_; rintro e w' ⟨rfl, rfl⟩) | (go_at_call 58; refine (casePos _ co cl _ ?_ ?_).mono ?_; (focus (go_simp; done)); (focus (go_simp; done)); rintro e w' ⟨rfl, rfl⟩) | (go_at_call 59; refine (caseEnd_f _ eo el _ hv c0 d0 d1 ?_ ?_ ?_).mono ?_; (focus (go_simp; done)); (focus (go_simp; done)); (focus (go_simp; done)); rintro e w' ⟨rfl, rfl⟩) | (go_at_call 24; refine (after_x _ _ _ _ _).mono ?_; rintro e w' ⟨rfl, rfl⟩))
  go_region_held3 (fun w' => w'.cell? ⟨w.heap.size + 1, 0, none⟩ = some (.int .u32 co) ∧ w'.cell? ⟨w.heap.size + 1, 1, none⟩ = some (.int .u32 cl)) (first | ((refine ⟨?_, ?_⟩) <;> (go_simp; done)) | (go_split_ands; (refine ⟨blater hb ?_, blater hb ?_⟩) <;> assumption) | go_keep) (first | (go_at_call 34; refine (mk46 _ _ _).mono ?_; rintro e w' ⟨rfl, rfl⟩) | (go_at_call 58; refine (casePos _ co cl _ ?_ ?_).mono ?_; (focus (go_simp; done)); (focus (go_simp; done)); rintro e w' ⟨rfl, rfl⟩) | (go_at_call 59; refine (caseEnd_f _ eo el _ hv c0 d0 d1 ?_ ?_ ?_).mono ?_; (focus (go_simp; done)); (focus (go_simp; done)); (focus (go_simp; done)); rintro e w' ⟨rfl, rfl⟩) | (go_at_call 24; refine (after_x _ _ _ _ _).mono ?_; rintro e w' ⟨rfl, rfl⟩))
  go_wp2_with (first | (go_at_call 34; refine (mk46 _ _ _).mono ?_; rintro e w' ⟨rfl, rfl⟩) | (go_at_call 58; refine (casePos _ co cl _ ?_ ?_).mono ?_; (focus (go_simp; done)); (focus (go_simp; done)); rintro e w' ⟨rfl, rfl⟩) | (go_at_call 59; refine (caseEnd_f _ eo el _ hv c0 d0 d1 ?_ ?_ ?_).mono ?_; (focus (go_simp; done)); (focus (go_simp; done)); (focus (go_simp; done)); rintro e w' ⟨rfl, rfl⟩) | (go_at_call 24; refine (after_x _ _ _ _ _).mono ?_; rintro e w' ⟨rfl, rfl⟩))
  go_ret
  refine ⟨ret_bool (by simp), ?_⟩
  repeat (first | (with_reducible refine Below.drew ?_) | (with_reducible refine balloc ?_ _))
  exact Below.refl _ _

set_option maxHeartbeats 1000000 in
theorem case_false_N_B (co cl eo el : Int) (w : World) (a0 : 0 ≤ co) (a1 : co < 4294967296) (b0 : 0 ≤ cl) (b1 : cl < 4294967296) (c0 : 0 ≤ eo) (c1 : eo < 4294967296) (d0 : 0 ≤ el) (d1 : el < 4294967296) (hco : co ≤ 4294967284) (lc : (cl == 0) = false) (he : eo ≤ 4294967284) (le : (el == 0) = false) (h : co ≤ eo) (k : (el / 16384 != 0) = false) (m : 16383 < el % 16384 + 4) (q : 4294967284 < eo + 4) :
    Calls Try.prog 10 #[.int .u32 co, .int .u32 cl, .int .u32 eo, .int .u32 el, .bool false] w fun e w' => e = .returned (.bool true) ∧ Below w.heap.size w w' := by
  obtain ⟨hv, f2, f3, f4⟩ := case_facts co cl eo el 4 (by omega) (by omega) c0 d0 d1 he le h
  have af := f4 k m
  clear f3 f4
  have hc : bits .and .u32 el 16383 = el % 16384 := by go_bits2
  have hd : (cl != 0) = true := by simpa using lc
  go_enter Try.func10, Try.ntmps10
  go_wp2_with (first | (go_at_call 34; refine (mk46 _ _ _).mono ?_; rintro e w' ⟨rfl, rfl⟩) | (go_at_call 58; refine (casePos _ co cl _ ?_ ?_).mono ?_; (focus (go_simp; done)); (focus (go_simp; done)); rintro e w' ⟨rfl, rfl⟩) | (go_at_call 59; refine (caseEnd_f _ eo el _ hv c0 d0 d1 ?_ ?_ ?_).mono ?_; (focus (go_simp; done)); (focus (go_simp; done)); (focus (go_simp; done)); rintro e w' ⟨rfl, rfl⟩) | (go_at_call 24; refine (after_x _ _ _ _ _).mono ?_; rintro e w' ⟨rfl, rfl⟩))
  go_region_held3 (fun w' => w'.cell? ⟨w.heap.size + 1, 0, none⟩ = some (.int .u32 co) ∧ w'.cell? ⟨w.heap.size + 1, 1, none⟩ = some (.int .u32 cl)) (first | ((refine ⟨?_, ?_⟩) <;> (go_simp; done)) | (go_split_ands; (refine ⟨blater hb ?_, blater hb ?_⟩) <;> assumption) | go_keep) (first | (go_at_call 34; refine (mk46 _ _ _).mono ?_; rintro e w' ⟨rfl, rfl⟩) | (go_at_call 58; refine (casePos _ co cl _ ?_ ?_).mono ?_; (focus (go_simp; done)); (focus (go_simp; done)); rintro e w' ⟨rfl, rfl⟩) | (go_at_call 59; refine (caseEnd_f _ eo el _ hv c0 d0 d1 ?_ ?_ ?_).mono ?_; (focus (go_simp; done)); (focus (go_simp; done)); (focus (go_simp; done)); rintro e w' ⟨rfl, rfl⟩) | (go_at_call 24; refine (after_x _ _ _ _ _).mono ?_; rintro e w' ⟨rfl, rfl⟩))
  go_wp2_with (first | (go_at_call 34; refine (mk46 _ _ _).mono ?_; rintro e w' ⟨rfl, rfl⟩) | (go_at_call 58; refine (casePos _ co cl _ ?_ ?_).mono ?_; (focus (go_simp; done)); (focus (go_simp; done)); rintro e w' ⟨rfl, rfl⟩) | (go_at_call 59; refine (caseEnd_f _ eo el _ hv c0 d0 d1 ?_ ?_ ?_).mono ?_; (focus (go_simp; done)); (focus (go_simp; done)); (focus (go_simp; done)); rintro e w' ⟨rfl, rfl⟩) | (go_at_call 24; refine (after_x _ _ _ _ _).mono ?_; rintro e w' ⟨rfl, rfl⟩))
  go_ret
  refine ⟨ret_bool (by simp), ?_⟩
  repeat (first | (with_reducible refine Below.drew ?_) | (with_reducible refine balloc ?_ _))
  exact Below.refl _ _

set_option maxHeartbeats 1000000 in
theorem case_false_N_S (co cl eo el : Int) (w : World) (a0 : 0 ≤ co) (a1 : co < 4294967296) (b0 : 0 ≤ cl) (b1 : cl < 4294967296) (c0 : 0 ≤ eo) (c1 : eo < 4294967296) (d0 : 0 ≤ el) (d1 : el < 4294967296) (hco : co ≤ 4294967284) (lc : (cl == 0) = false) (he : eo ≤ 4294967284) (le : (el == 0) = false) (h : co ≤ eo) (k : (el / 16384 != 0) = false) (m : 16383 < el % 16384 + 4) (q : eo + 4 ≤ 4294967284) :
    Calls Try.prog 10 #[.int .u32 co, .int .u32 cl, .int .u32 eo, .int .u32 el, .bool false] w fun e w' => e = .returned (.bool true) ∧ Below w.heap.size w w' := by
  obtain ⟨hv, f2, f3, f4⟩ := case_facts co cl eo el 4 (by omega) (by omega) c0 d0 d1 he le h
  have af := f4 k m
  clear f3 f4
  have hc : bits .and .u32 el 16383 = el % 16384 := by go_bits2
  have hd : (cl != 0) = true := by simpa using lc
  go_enter Try.func10, Try.ntmps10
  go_wp2_with (first | (go_at_call 34; refine (mk46 _ _ _).mono ?_; rintro e w' ⟨rfl, rfl⟩) | (go_at_call 58; refine (casePos _ co cl _ ?_ ?_).mono ?_; (focus (go_simp; done)); (focus (go_simp; done)); rintro e w' ⟨rfl, rfl⟩) | (go_at_call 59; refine (caseEnd_f _ eo el _ hv c0 d0 d1 ?_ ?_ ?_).mono ?_; (focus (go_simp; done)); (focus (go_simp; done)); (focus (go_simp; done)); rintro e w' ⟨rfl, rfl⟩) | (go_at_call 24; refine (after_x _ _ _ _ _).mono ?_; rintro e w' ⟨rfl, rfl⟩))
  go_region_held3 (fun w' => w'.cell? ⟨w.heap.size + 1, 0, none⟩ = some (.int .u32 co) ∧ w'.cell? ⟨w.heap.size + 1, 1, none⟩ = some (.int .u32 cl)) (first | ((refine ⟨?_, ?_⟩) <;> (go_simp; done)) | (go_split_ands; (refine ⟨blater hb ?_, blater hb ?_⟩) <;> assumption) | go_keep) (first | (go_at_call 34; refine (mk46 _ _ _).mono ?_; rintro e w' ⟨rfl, rfl⟩) | (go_at_call 58; refine (casePos _ co cl _ ?_ ?_).mono ?_; (focus (go_simp; done)); (focus (go_simp; done)); rintro e w' ⟨rfl, rfl⟩) | (go_at_call 59; refine (caseEnd_f _ eo el _ hv c0 d0 d1 ?_ ?_ ?_).mono ?_; (focus (go_simp; done)); (focus (go_simp; done)); (focus (go_simp; done)); rintro e w' ⟨rfl, rfl⟩) | (go_at_call 24; refine (after_x _ _ _ _ _).mono ?_; rintro e w' ⟨rfl, rfl⟩))
  go_wp2_with (first | (go_at_call 34; refine (mk46 _ _ _).mono ?_; rintro e w' ⟨rfl, rfl⟩) | (go_at_call 58; refine (casePos _ co cl _ ?_ ?_).mono ?_; (focus (go_simp; done)); (focus (go_simp; done)); rintro e w' ⟨rfl, rfl⟩) | (go_at_call 59; refine (caseEnd_f _ eo el _ hv c0 d0 d1 ?_ ?_ ?_).mono ?_; (focus (go_simp; done)); (focus (go_simp; done)); (focus (go_simp; done)); rintro e w' ⟨rfl, rfl⟩) | (go_at_call 24; refine (after_x _ _ _ _ _).mono ?_; rintro e w' ⟨rfl, rfl⟩))
  go_ret
  refine ⟨ret_bool (by simp), ?_⟩
  repeat (first | (with_reducible refine Below.drew ?_) | (with_reducible refine balloc ?_ _))
  exact Below.refl _ _

theorem case_true_in (co cl eo el : Int) (w : World) (a0 : 0 ≤ co) (a1 : co < 4294967296) (b0 : 0 ≤ cl) (b1 : cl < 4294967296) (c0 : 0 ≤ eo) (c1 : eo < 4294967296) (d0 : 0 ≤ el) (d1 : el < 4294967296) (hco : co ≤ 4294967284) (lc : (cl == 0) = false) (he : eo ≤ 4294967284) (le : (el == 0) = false) (h : co ≤ eo) :
    Calls Try.prog 10 #[.int .u32 co, .int .u32 cl, .int .u32 eo, .int .u32 el, .bool true] w fun e w' => e = .returned (.bool true) ∧ Below w.heap.size w w' := by
  rcases Int.lt_or_le 4294967284 (eo + 1) with q | q <;> cases k : (el / 16384 != 0)
  · rcases Int.lt_or_le 16383 (el % 16384 + 1) with m | m
    · exact case_true_N_B co cl eo el w a0 a1 b0 b1 c0 c1 d0 d1 hco lc he le h k m q
    · exact case_true_C_B co cl eo el w a0 a1 b0 b1 c0 c1 d0 d1 hco lc he le h k m q
  · exact case_true_L_B co cl eo el w a0 a1 b0 b1 c0 c1 d0 d1 hco lc he le h k q
  · rcases Int.lt_or_le 16383 (el % 16384 + 1) with m | m
    · exact case_true_N_S co cl eo el w a0 a1 b0 b1 c0 c1 d0 d1 hco lc he le h k m q
    · exact case_true_C_S co cl eo el w a0 a1 b0 b1 c0 c1 d0 d1 hco lc he le h k m q
  · exact case_true_L_S co cl eo el w a0 a1 b0 b1 c0 c1 d0 d1 hco lc he le h k q

theorem case_true (co cl eo el : Int) (w : World) (a0 : 0 ≤ co) (a1 : co < 4294967296) (b0 : 0 ≤ cl) (b1 : cl < 4294967296) (c0 : 0 ≤ eo) (c1 : eo < 4294967296) (d0 : 0 ≤ el) (d1 : el < 4294967296) :
    Calls Try.prog 10 #[.int .u32 co, .int .u32 cl, .int .u32 eo, .int .u32 el, .bool true] w fun e w' => e = .returned (.bool true) ∧ Below w.heap.size w w' := by
  by_cases hco : co ≤ 4294967284
  · cases lc : (cl == 0)
    · by_cases he : eo ≤ 4294967284
      · cases le : (el == 0)
        · by_cases h : co ≤ eo
          · exact case_true_in co cl eo el w a0 a1 b0 b1 c0 c1 d0 d1 hco lc he le h
          · go_enter Try.func10, Try.ntmps10
            go_wp2_with fail
            go_ret
            exact ⟨rfl, Below.refl _ _⟩
        · go_enter Try.func10, Try.ntmps10
          go_wp2_with fail
          go_ret
          exact ⟨rfl, Below.refl _ _⟩
      · go_enter Try.func10, Try.ntmps10
        go_wp2_with fail
        go_ret
        exact ⟨rfl, Below.refl _ _⟩
    · go_enter Try.func10, Try.ntmps10
      go_wp2_with fail
      go_ret
      exact ⟨rfl, Below.refl _ _⟩
  · go_enter Try.func10, Try.ntmps10
    go_wp2_with fail
    go_ret
    exact ⟨rfl, Below.refl _ _⟩

theorem case_false_in (co cl eo el : Int) (w : World) (a0 : 0 ≤ co) (a1 : co < 4294967296) (b0 : 0 ≤ cl) (b1 : cl < 4294967296) (c0 : 0 ≤ eo) (c1 : eo < 4294967296) (d0 : 0 ≤ el) (d1 : el < 4294967296) (hco : co ≤ 4294967284) (lc : (cl == 0) = false) (he : eo ≤ 4294967284) (le : (el == 0) = false) (h : co ≤ eo) :
    Calls Try.prog 10 #[.int .u32 co, .int .u32 cl, .int .u32 eo, .int .u32 el, .bool false] w fun e w' => e = .returned (.bool true) ∧ Below w.heap.size w w' := by
  rcases Int.lt_or_le 4294967284 (eo + 4) with q | q <;> cases k : (el / 16384 != 0)
  · rcases Int.lt_or_le 16383 (el % 16384 + 4) with m | m
    · exact case_false_N_B co cl eo el w a0 a1 b0 b1 c0 c1 d0 d1 hco lc he le h k m q
    · exact case_false_C_B co cl eo el w a0 a1 b0 b1 c0 c1 d0 d1 hco lc he le h k m q
  · exact case_false_L_B co cl eo el w a0 a1 b0 b1 c0 c1 d0 d1 hco lc he le h k q
  · rcases Int.lt_or_le 16383 (el % 16384 + 4) with m | m
    · exact case_false_N_S co cl eo el w a0 a1 b0 b1 c0 c1 d0 d1 hco lc he le h k m q
    · exact case_false_C_S co cl eo el w a0 a1 b0 b1 c0 c1 d0 d1 hco lc he le h k m q
  · exact case_false_L_S co cl eo el w a0 a1 b0 b1 c0 c1 d0 d1 hco lc he le h k q

theorem case_false (co cl eo el : Int) (w : World) (a0 : 0 ≤ co) (a1 : co < 4294967296) (b0 : 0 ≤ cl) (b1 : cl < 4294967296) (c0 : 0 ≤ eo) (c1 : eo < 4294967296) (d0 : 0 ≤ el) (d1 : el < 4294967296) :
    Calls Try.prog 10 #[.int .u32 co, .int .u32 cl, .int .u32 eo, .int .u32 el, .bool false] w fun e w' => e = .returned (.bool true) ∧ Below w.heap.size w w' := by
  by_cases hco : co ≤ 4294967284
  · cases lc : (cl == 0)
    · by_cases he : eo ≤ 4294967284
      · cases le : (el == 0)
        · by_cases h : co ≤ eo
          · exact case_false_in co cl eo el w a0 a1 b0 b1 c0 c1 d0 d1 hco lc he le h
          · go_enter Try.func10, Try.ntmps10
            go_wp2_with fail
            go_ret
            exact ⟨rfl, Below.refl _ _⟩
        · go_enter Try.func10, Try.ntmps10
          go_wp2_with fail
          go_ret
          exact ⟨rfl, Below.refl _ _⟩
      · go_enter Try.func10, Try.ntmps10
        go_wp2_with fail
        go_ret
        exact ⟨rfl, Below.refl _ _⟩
    · go_enter Try.func10, Try.ntmps10
      go_wp2_with fail
      go_ret
      exact ⟨rfl, Below.refl _ _⟩
  · go_enter Try.func10, Try.ntmps10
    go_wp2_with fail
    go_ret
    exact ⟨rfl, Below.refl _ _⟩

theorem case_law (co cl eo el : Int) (w : World) (a0 : 0 ≤ co) (a1 : co < 4294967296) (b0 : 0 ≤ cl) (b1 : cl < 4294967296) (c0 : 0 ≤ eo) (c1 : eo < 4294967296) (d0 : 0 ≤ el) (d1 : el < 4294967296) (br : Bool) : Calls Try.prog 10 #[.int .u32 co, .int .u32 cl, .int .u32 eo, .int .u32 el, .bool br] w fun e w' => e = .returned (.bool true) ∧ Below w.heap.size w w' := by
  cases br
  · exact case_false co cl eo el w a0 a1 b0 b1 c0 c1 d0 d1
  · exact case_true co cl eo el w a0 a1 b0 b1 c0 c1 d0 d1
end Go.Proofs.Ytjpodhmjmohblaa
