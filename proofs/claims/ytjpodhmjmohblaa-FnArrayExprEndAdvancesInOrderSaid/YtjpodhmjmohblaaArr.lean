/- The walk of the law FnArrayExprEndAdvancesInOrder: it returns true at every input. -/
import Derived.Test.YtjpodhmjmohblaaPos
import Derived.Deep.RegionWith
import Derived.Deep.RegionHeld3
namespace Go.Proofs.Ytjpodhmjmohblaa
open Go.RowKit
set_option linter.unusedVariables false

theorem mk27 (o l : Int) (w : World) : Calls Try.prog 15 #[.int .u32 o, .int .u32 l] w fun e w' => e = .returned (P2 o l) ∧ w.alloc (C2 o l) = w' := by
  go_enter Try.func15, Try.ntmps15
  go_wp2
  exact bodyPost_ret (v := P2 o l) (by simp [results, Try.results15, go_sem]) rfl ⟨rfl, rfl⟩

theorem arrEnd_ok (b : Nat) (o l : Int) (w : World) (hv : validB o l = true) (o0 : 0 ≤ o) (l0 : 0 ≤ l) (l1 : l < 4294967296) (h0 : w.cell? ⟨b, 2, none⟩ = some (.int .u32 o)) (h1 : w.cell? ⟨b, 3, none⟩ = some (.int .u32 l)) :
    Calls Try.prog 16 #[.pointer (some ⟨b, 0, none⟩)] w fun e w' => e = .returned (P2 (addO o l 1) (addL o l 1)) ∧ ((((w.alloc (C2 (addO o l 1) (addL o l 1))).alloc (C2 (addO o l 1) (addL o l 1))).alloc (C2 (addO o l 1) (addL o l 1))).alloc (C2 o l)).alloc (C2 o l) = w' := by
  have g0 := later h0
  have g1 := later h1
  go_enter Try.func16, Try.ntmps16
  go_wp2_with fail
  refine (add_ok _ _ _ _ hv o0 l0 l1 (by omega) (by omega)).mono ?_
  rintro e w1 ⟨rfl, rfl⟩
  clear g0 g1 h0 h1
  go_wp2
  exact bodyPost_ret (v := P2 (addO o l 1) (addL o l 1)) (by simp [results, Try.results16, go_sem]) rfl ⟨rfl, rfl⟩

theorem arrEnd_bad (b : Nat) (o l : Int) (w : World) (hv : validB o l = false) (h0 : w.cell? ⟨b, 2, none⟩ = some (.int .u32 o)) (h1 : w.cell? ⟨b, 3, none⟩ = some (.int .u32 l)) :
    Calls Try.prog 16 #[.pointer (some ⟨b, 0, none⟩)] w fun e w' => e = .returned (P2 o l) ∧ (((w.alloc (C2 o l)).alloc (C2 o l)).alloc (C2 o l)).alloc (C2 o l) = w' := by
  have g0 := later h0
  have g1 := later h1
  go_enter Try.func16, Try.ntmps16
  go_wp2_with fail
  refine (add_bad _ _ _ _ hv).mono ?_
  rintro e w1 ⟨rfl, rfl⟩
  clear g0 g1 h0 h1
  go_wp2
  exact bodyPost_ret (v := P2 o l) (by simp [results, Try.results16, go_sem]) rfl ⟨rfl, rfl⟩

theorem arr_facts (ao al bo bl : Int) (a0 : 0 ≤ ao) (b0 : 0 ≤ al) (b1 : al < 4294967296) (ha : ao ≤ 4294967284) (hb : bo ≤ 4294967284) (hab : ao ≤ bo) (na : (al == 0) = false) (nb : (bl == 0) = false) :
    validB ao al = true ∧ validB bo bl = true ∧ offI (addO ao al 1) ≤ offI (addO bo bl 1) ∧ addL ao al 1 / 16384 = al / 16384 ∧ (ao < 4294967284 → offI (addO ao al 1) = ao + 1) ∧ (4294967284 ≤ ao → offI (addO ao al 1) = 4294967284) := by
  have na' : (al != 0) = true := by simpa using na
  have nb' : (bl != 0) = true := by simpa using nb
  have va : validB ao al = true := by unfold validB; rw [na']; simp; omega
  have vb : validB bo bl = true := by unfold validB; rw [nb']; simp; omega
  have ea : addO ao al 1 = min (max (ao + 1) 0) 4294967284 := by unfold addO; rw [if_pos va]
  have eb : addO bo bl 1 = min (max (bo + 1) 0) 4294967284 := by unfold addO; rw [if_pos vb]
  have hc := colI_bd al 1
  have el : addL ao al 1 = al - al % 16384 + colI al 1 := by unfold addL; rw [if_pos va]
  refine ⟨va, vb, ?_, by rw [el]; omega, ?_, ?_⟩ <;> unfold offI <;> (repeat' split) <;> omega

set_option maxHeartbeats 2000000 in
theorem arr_in (ao al bo bl : Int) (w : World) (a0 : 0 ≤ ao) (a1 : ao < 4294967296) (b0 : 0 ≤ al) (b1 : al < 4294967296) (c0 : 0 ≤ bo) (c1 : bo < 4294967296) (d0 : 0 ≤ bl) (d1 : bl < 4294967296)
    (ha : ao ≤ 4294967284) (hb : bo ≤ 4294967284) (hab : ao ≤ bo) (na : (al == 0) = false) (nb : (bl == 0) = false) :
    Calls Try.prog 6 #[.int .u32 ao, .int .u32 al, .int .u32 bo, .int .u32 bl] w fun e w' => e = .returned (.bool true) ∧ Below w.heap.size w w' := by
  obtain ⟨va, vb, hle, ln, f1, f2⟩ := arr_facts ao al bo bl a0 b0 b1 ha hb hab na nb
  have e0 := (addO_bd ao al 1 a0 a1).1
  have e1 := (addO_bd ao al 1 a0 a1).2
  have e2 := (addL_bd ao al 1 b0 b1).1
  have e3 := (addL_bd ao al 1 b0 b1).2
  have g0 := (addO_bd bo bl 1 c0 c1).1
  have g1 := (addO_bd bo bl 1 c0 c1).2
  have F1 := Lib.hid f1
  have F2 := Lib.hid f2
  clear f1 f2
  go_enter Try.func6, Try.ntmps6
  go_wp2_with (first | (go_at_call 15; refine (mk27 _ _ _).mono ?_; rintro e w' ⟨rfl, rfl⟩) | (go_at_call 16; refine (arrEnd_ok _ ao al _ va a0 b0 b1 ?_ ?_).mono ?_; (focus (go_simp; done)); (focus (go_simp; done)); rintro e w' ⟨rfl, rfl⟩) | (go_at_call 16; refine (arrEnd_ok _ bo bl _ vb c0 d0 d1 ?_ ?_).mono ?_; (focus (go_simp; done)); (focus (go_simp; done)); rintro e w' ⟨rfl, rfl⟩))
  refine gen (fun W => Below w.heap.size w W ∧ W.cell? ⟨w.heap.size + 1, 0, none⟩ = some (.int .u32 ao) ∧ W.cell? ⟨w.heap.size + 1, 1, none⟩ = some (.int .u32 al) ∧ W.cell? ⟨w.heap.size + 1 + 1 + 1 + 1 + 1 + 1 + 1 + 1 + 1 + 1, 0, none⟩ = some (.int .u32 (addO ao al 1)) ∧ W.cell? ⟨w.heap.size + 1 + 1 + 1 + 1 + 1 + 1 + 1 + 1 + 1 + 1, 1, none⟩ = some (.int .u32 (addL ao al 1)) ∧ W.cell? ⟨w.heap.size + 1 + 1 + 1 + 1 + 1 + 1 + 1 + 1 + 1 + 1 + 1 + 1 + 1 + 1 + 1 + 1 + 1, 0, none⟩ = some (.int .u32 (addO bo bl 1)) ∧ W.cell? ⟨w.heap.size + 1 + 1 + 1 + 1 + 1 + 1 + 1 + 1 + 1 + 1 + 1 + 1 + 1 + 1 + 1 + 1 + 1, 1, none⟩ = some (.int .u32 (addL bo bl 1))) ?_ ?_
  · refine ⟨?_, ?_, ?_, ?_, ?_, ?_, ?_⟩
    · repeat (first | (with_reducible refine Below.drew ?_) | (with_reducible refine balloc ?_ _))
      exact Below.refl _ _
    all_goals go_simp
  rintro W ⟨hB, k0, k1, k2, k3, k4, k5⟩
  go_region_held3 (fun w' => w'.cell? ⟨w.heap.size + 1, 0, none⟩ = some (.int .u32 ao) ∧ w'.cell? ⟨w.heap.size + 1, 1, none⟩ = some (.int .u32 al) ∧ w'.cell? ⟨w.heap.size + 1 + 1 + 1 + 1 + 1 + 1 + 1 + 1 + 1 + 1, 0, none⟩ = some (.int .u32 (addO ao al 1)) ∧ w'.cell? ⟨w.heap.size + 1 + 1 + 1 + 1 + 1 + 1 + 1 + 1 + 1 + 1, 1, none⟩ = some (.int .u32 (addL ao al 1)) ∧ w'.cell? ⟨w.heap.size + 1 + 1 + 1 + 1 + 1 + 1 + 1 + 1 + 1 + 1 + 1 + 1 + 1 + 1 + 1 + 1 + 1, 0, none⟩ = some (.int .u32 (addO bo bl 1)) ∧ w'.cell? ⟨w.heap.size + 1 + 1 + 1 + 1 + 1 + 1 + 1 + 1 + 1 + 1 + 1 + 1 + 1 + 1 + 1 + 1 + 1, 1, none⟩ = some (.int .u32 (addL bo bl 1))) (first | (go_split_ands; (refine ⟨?_, ?_, ?_, ?_, ?_, ?_⟩) <;> assumption) | (go_split_ands; (refine ⟨blater hb ?_, blater hb ?_, blater hb ?_, blater hb ?_, blater hb ?_, blater hb ?_⟩) <;> assumption) | go_keep) (first | (go_at_call 74; refine (valid_any _ _ _).mono ?_; rintro e w' ⟨rfl, hb⟩) | (go_at_call 24; refine (after_any _ _ _ _ _).mono ?_; rintro e w' ⟨rfl, hb⟩) | (go_at_call 29; refine (line_any _ _ _ ?_ ?_).mono ?_; (focus (assumption)); (focus (assumption)); rintro e w' ⟨rfl, hb⟩) | (go_at_call 30; refine (col_any _ _ _ ?_ ?_).mono ?_; (focus (assumption)); (focus (assumption)); rintro e w' ⟨rfl, hb⟩) | (go_at_call 28; refine (off_any _ _ _ ?_ ?_).mono ?_; (focus (assumption)); (focus (assumption)); rintro e w' ⟨rfl, hb⟩))
  go_wp2_with (first | (go_at_call 74; refine (valid_any _ _ _).mono ?_; rintro e w' ⟨rfl, hb⟩) | (go_at_call 24; refine (after_any _ _ _ _ _).mono ?_; rintro e w' ⟨rfl, hb⟩) | (go_at_call 29; refine (line_any _ _ _ ?_ ?_).mono ?_; (focus (assumption)); (focus (assumption)); rintro e w' ⟨rfl, hb⟩) | (go_at_call 30; refine (col_any _ _ _ ?_ ?_).mono ?_; (focus (assumption)); (focus (assumption)); rintro e w' ⟨rfl, hb⟩) | (go_at_call 28; refine (off_any _ _ _ ?_ ?_).mono ?_; (focus (assumption)); (focus (assumption)); rintro e w' ⟨rfl, hb⟩))
  go_region_held3 (fun w' => w'.cell? ⟨w.heap.size + 1, 0, none⟩ = some (.int .u32 ao) ∧ w'.cell? ⟨w.heap.size + 1, 1, none⟩ = some (.int .u32 al) ∧ w'.cell? ⟨w.heap.size + 1 + 1 + 1 + 1 + 1 + 1 + 1 + 1 + 1 + 1, 0, none⟩ = some (.int .u32 (addO ao al 1)) ∧ w'.cell? ⟨w.heap.size + 1 + 1 + 1 + 1 + 1 + 1 + 1 + 1 + 1 + 1, 1, none⟩ = some (.int .u32 (addL ao al 1)) ∧ w'.cell? ⟨w.heap.size + 1 + 1 + 1 + 1 + 1 + 1 + 1 + 1 + 1 + 1 + 1 + 1 + 1 + 1 + 1 + 1 + 1, 0, none⟩ = some (.int .u32 (addO bo bl 1)) ∧ w'.cell? ⟨w.heap.size + 1 + 1 + 1 + 1 + 1 + 1 + 1 + 1 + 1 + 1 + 1 + 1 + 1 + 1 + 1 + 1 + 1, 1, none⟩ = some (.int .u32 (addL bo bl 1))) (first | (go_split_ands; (refine ⟨?_, ?_, ?_, ?_, ?_, ?_⟩) <;> assumption) | (go_split_ands; (refine ⟨blater hb ?_, blater hb ?_, blater hb ?_, blater hb ?_, blater hb ?_, blater hb ?_⟩) <;> assumption) | go_keep) (first | (go_at_call 74; refine (valid_any _ _ _).mono ?_; rintro e w' ⟨rfl, hb⟩) | (go_at_call 24; refine (after_any _ _ _ _ _).mono ?_; rintro e w' ⟨rfl, hb⟩) | (go_at_call 29; refine (line_any _ _ _ ?_ ?_).mono ?_; (focus (assumption)); (focus (assumption)); rintro e w' ⟨rfl, hb⟩) | (go_at_call 30; refine (col_any _ _ _ ?_ ?_).mono ?_; (focus (assumption)); (focus (assumption)); rintro e w' ⟨rfl, hb⟩) | (go_at_call 28; refine (off_any _ _ _ ?_ ?_).mono ?_; (focus (assumption)); (focus (assumption)); rintro e w' ⟨rfl, hb⟩))
  go_wp2_with (first | (go_at_call 74; refine (valid_any _ _ _).mono ?_; rintro e w' ⟨rfl, hb⟩) | (go_at_call 24; refine (after_any _ _ _ _ _).mono ?_; rintro e w' ⟨rfl, hb⟩) | (go_at_call 29; refine (line_any _ _ _ ?_ ?_).mono ?_; (focus (assumption)); (focus (assumption)); rintro e w' ⟨rfl, hb⟩) | (go_at_call 30; refine (col_any _ _ _ ?_ ?_).mono ?_; (focus (assumption)); (focus (assumption)); rintro e w' ⟨rfl, hb⟩) | (go_at_call 28; refine (off_any _ _ _ ?_ ?_).mono ?_; (focus (assumption)); (focus (assumption)); rintro e w' ⟨rfl, hb⟩))
  all_goals
    go_ret
    refine ⟨ret_bool ?_, ?_⟩
    · first | (rw [F1.out (by assumption)]; simp) | (rw [F2.out (by assumption)]; rfl)
    · repeat (first | assumption | exact hB.drew | (with_reducible refine Below.drew ?_) | refine btrans ?_ (by assumption))

theorem arr_law (ao al bo bl : Int) (w : World) (a0 : 0 ≤ ao) (a1 : ao < 4294967296) (b0 : 0 ≤ al) (b1 : al < 4294967296) (c0 : 0 ≤ bo) (c1 : bo < 4294967296) (d0 : 0 ≤ bl) (d1 : bl < 4294967296) :
    Calls Try.prog 6 #[.int .u32 ao, .int .u32 al, .int .u32 bo, .int .u32 bl] w fun e w' => e = .returned (.bool true) ∧ Below w.heap.size w w' := by
  by_cases ha : ao ≤ 4294967284
  · by_cases hb : bo ≤ 4294967284
    · cases na : (al == 0)
      · cases nb : (bl == 0)
        · by_cases hab : ao ≤ bo
          · exact arr_in ao al bo bl w a0 a1 b0 b1 c0 c1 d0 d1 ha hb hab na nb
          · go_enter Try.func6, Try.ntmps6
            go_wp2_with fail
            go_ret
            exact ⟨rfl, Below.refl _ _⟩
        · go_enter Try.func6, Try.ntmps6
          go_wp2_with fail
          go_ret
          exact ⟨rfl, Below.refl _ _⟩
      · go_enter Try.func6, Try.ntmps6
        go_wp2_with fail
        go_ret
        exact ⟨rfl, Below.refl _ _⟩
    · go_enter Try.func6, Try.ntmps6
      go_wp2_with fail
      go_ret
      exact ⟨rfl, Below.refl _ _⟩
  · go_enter Try.func6, Try.ntmps6
    go_wp2_with fail
    go_ret
    exact ⟨rfl, Below.refl _ _⟩
end Go.Proofs.Ytjpodhmjmohblaa
