/- The walk of the law FnParenArithmNesting: it returns true at every input. -/
import Derived.Test.YtjpodhmjmohblaaPos
import Derived.Deep.RegionWith
import Derived.Deep.RegionHeld3
namespace Go.Proofs.Ytjpodhmjmohblaa
open Go.RowKit
set_option linter.unusedVariables false

theorem isv24 (o l : Int) (w : World) : Calls Try.prog 60 #[.int .u32 o, .int .u32 l] w fun e w' => e = .returned (.bool (validB o l)) ∧ w = w' := by
  have E1 := Lib.hid (show validB o l = (decide (o ≤ 4294967284) && (l != 0)) from rfl)
  by_cases a : o ≤ 4294967284
  · go_enter Try.func60, Try.ntmps60
    go_wp2
    go_ret
    exact ⟨ret_bool (by rw [E1.out]; simp [a]), rfl⟩
  · go_enter Try.func60, Try.ntmps60
    go_wp2
    go_ret
    exact ⟨ret_bool (by rw [E1.out]; simp; omega), rfl⟩

theorem mk24 (o l : Int) (w : World) : Calls Try.prog 26 #[.int .u32 o, .int .u32 l] w fun e w' => e = .returned (P2 o l) ∧ w.alloc (C2 o l) = w' := by
  go_enter Try.func26, Try.ntmps26
  go_wp2
  exact bodyPost_ret (v := P2 o l) (by simp [results, Try.results26, go_sem]) rfl ⟨rfl, rfl⟩

theorem parPos (b : Nat) (o l : Int) (w : World) (h0 : w.cell? ⟨b, 0, none⟩ = some (.int .u32 o)) (h1 : w.cell? ⟨b, 1, none⟩ = some (.int .u32 l)) :
    Calls Try.prog 61 #[.pointer (some ⟨b, 0, none⟩)] w fun e w' => e = .returned (P2 o l) ∧ w.alloc (C2 o l) = w' := by
  have g0 := later h0
  have g1 := later h1
  go_enter Try.func61, Try.ntmps61
  go_wp2
  exact bodyPost_ret (v := P2 o l) (by simp [results, Try.results61, go_sem]) rfl ⟨rfl, rfl⟩

theorem parEnd_ok (b : Nat) (o l : Int) (w : World) (hv : validB o l = true) (o0 : 0 ≤ o) (l0 : 0 ≤ l) (l1 : l < 4294967296) (h0 : w.cell? ⟨b, 2, none⟩ = some (.int .u32 o)) (h1 : w.cell? ⟨b, 3, none⟩ = some (.int .u32 l)) :
    Calls Try.prog 31 #[.pointer (some ⟨b, 0, none⟩)] w fun e w' => e = .returned (P2 (addO o l 1) (addL o l 1)) ∧ ((((w.alloc (C2 (addO o l 1) (addL o l 1))).alloc (C2 (addO o l 1) (addL o l 1))).alloc (C2 (addO o l 1) (addL o l 1))).alloc (C2 o l)).alloc (C2 o l) = w' := by
  have g0 := later h0
  have g1 := later h1
  go_enter Try.func31, Try.ntmps31
  go_wp2_with fail
  refine (add_ok _ _ _ _ hv o0 l0 l1 (by omega) (by omega)).mono ?_
  rintro e w1 ⟨rfl, rfl⟩
  clear g0 g1 h0 h1
  go_wp2
  exact bodyPost_ret (v := P2 (addO o l 1) (addL o l 1)) (by simp [results, Try.results31, go_sem]) rfl ⟨rfl, rfl⟩

theorem parEnd_bad (b : Nat) (o l : Int) (w : World) (hv : validB o l = false) (h0 : w.cell? ⟨b, 2, none⟩ = some (.int .u32 o)) (h1 : w.cell? ⟨b, 3, none⟩ = some (.int .u32 l)) :
    Calls Try.prog 31 #[.pointer (some ⟨b, 0, none⟩)] w fun e w' => e = .returned (P2 o l) ∧ (((w.alloc (C2 o l)).alloc (C2 o l)).alloc (C2 o l)).alloc (C2 o l) = w' := by
  have g0 := later h0
  have g1 := later h1
  go_enter Try.func31, Try.ntmps31
  go_wp2_with fail
  refine (add_bad _ _ _ _ hv).mono ?_
  rintro e w1 ⟨rfl, rfl⟩
  clear g0 g1 h0 h1
  go_wp2
  exact bodyPost_ret (v := P2 o l) (by simp [results, Try.results31, go_sem]) rfl ⟨rfl, rfl⟩

theorem nest_facts (ao al ar az bo bl br bs : Int) (p0 : 0 ≤ ao) (va : validB ao al = true) (var : validB ar az = true) (vb : validB bo bl = true) (vbr : validB br bs = true) (h1 : ao ≤ bo) (h2 : bo ≤ br) (h3 : br ≤ ar) :
    offI ao ≤ offI bo ∧ offI (addO br bs 1) ≤ offI (addO ar az 1) ∧ afterB ao al bo = false ∧ afterB (addO br bs 1) (addL br bs 1) (addO ar az 1) = false ∧ (bo < 4294967284 → offI bo < offI (addO br bs 1)) ∧ (4294967284 ≤ bo → offI (addO br bs 1) ≤ offI bo ∧ (bo == 4294967284) = true) := by
  have ea : addO ar az 1 = min (max (ar + 1) 0) 4294967284 := by unfold addO; rw [if_pos var]
  have eb : addO br bs 1 = min (max (br + 1) 0) 4294967284 := by unfold addO; rw [if_pos vbr]
  simp only [validB, Bool.and_eq_true, decide_eq_true_eq] at va var vb vbr
  refine ⟨?_, ?_, ?_, ?_, ?_, ?_⟩
  · unfold offI; (repeat' split) <;> omega
  · unfold offI; (repeat' split) <;> omega
  · unfold afterB; simp; omega
  · unfold afterB; simp; omega
  · intro h; unfold offI; (repeat' split) <;> omega
  · intro h; refine ⟨?_, by simp; omega⟩; unfold offI; (repeat' split) <;> omega

set_option maxHeartbeats 2000000 in
theorem nest_a (ao al ar az bo bl br bs : Int) (w : World) (p0 : 0 ≤ ao) (p1 : ao < 4294967296) (q0 : 0 ≤ al) (q1 : al < 4294967296) (r0 : 0 ≤ ar) (r1 : ar < 4294967296) (s0 : 0 ≤ az) (s1 : az < 4294967296) (m0 : 0 ≤ bo) (m1 : bo < 4294967296) (n0 : 0 ≤ bl) (n1 : bl < 4294967296) (u0 : 0 ≤ br) (u1 : br < 4294967296) (v0 : 0 ≤ bs) (v1 : bs < 4294967296) (va : validB ao al = true) (var : validB ar az = true) (vb : validB bo bl = true) (vbr : validB br bs = true) (h1 : ao ≤ bo) (h2 : bo ≤ br) (h3 : br ≤ ar) (h4 : bo < 4294967284) :
    Calls Try.prog 11 #[.int .u32 ao, .int .u32 al, .int .u32 ar, .int .u32 az, .int .u32 bo, .int .u32 bl, .int .u32 br, .int .u32 bs] w fun e w' => e = .returned (.bool true) ∧ Below w.heap.size w w' := by
  obtain ⟨f1, f2, f3, f4, f5, f6⟩ := nest_facts ao al ar az bo bl br bs p0 va var vb vbr h1 h2 h3
  replace f5 := f5 h4
  have f8 : decide (offI bo < offI (addO br bs 1)) = true := by simp; omega
  clear f6
  have e0 := (addO_bd ar az 1 r0 r1).1
  have e1 := (addO_bd ar az 1 r0 r1).2
  have g0 := (addO_bd br bs 1 u0 u1).1
  have g1 := (addO_bd br bs 1 u0 u1).2
  go_enter Try.func11, Try.ntmps11
  go_wp2_with (first | (go_at_call 60; refine (isv24 _ _ _).mono ?_; rintro e w' ⟨rfl, rfl⟩) | (go_at_call 26; refine (mk24 _ _ _).mono ?_; rintro e w' ⟨rfl, rfl⟩) | (go_at_call 61; refine (parPos _ ao al _ ?_ ?_).mono ?_; (focus (go_simp; done)); (focus (go_simp; done)); rintro e w' ⟨rfl, rfl⟩) | (go_at_call 61; refine (parPos _ bo bl _ ?_ ?_).mono ?_; (focus (go_simp; done)); (focus (go_simp; done)); rintro e w' ⟨rfl, rfl⟩) | (go_at_call 31; refine (parEnd_ok _ ar az _ var r0 s0 s1 ?_ ?_).mono ?_; (focus (go_simp; done)); (focus (go_simp; done)); rintro e w' ⟨rfl, rfl⟩) | (go_at_call 31; refine (parEnd_ok _ br bs _ vbr u0 v0 v1 ?_ ?_).mono ?_; (focus (go_simp; done)); (focus (go_simp; done)); rintro e w' ⟨rfl, rfl⟩))
  refine gen (fun W => Below w.heap.size w W ∧ W.cell? ⟨w.heap.size + 1 + 1 + 1 + 1 + 1 + 1 + 1, 0, none⟩ = some (.int .u32 ao) ∧ W.cell? ⟨w.heap.size + 1 + 1 + 1 + 1 + 1 + 1 + 1, 1, none⟩ = some (.int .u32 al) ∧ W.cell? ⟨w.heap.size + 1 + 1 + 1 + 1 + 1 + 1 + 1 + 1 + 1, 0, none⟩ = some (.int .u32 bo) ∧ W.cell? ⟨w.heap.size + 1 + 1 + 1 + 1 + 1 + 1 + 1 + 1 + 1, 1, none⟩ = some (.int .u32 bl) ∧ W.cell? ⟨w.heap.size + 1 + 1 + 1 + 1 + 1 + 1 + 1 + 1 + 1 + 1 + 1 + 1 + 1 + 1 + 1, 0, none⟩ = some (.int .u32 (addO ar az 1)) ∧ W.cell? ⟨w.heap.size + 1 + 1 + 1 + 1 + 1 + 1 + 1 + 1 + 1 + 1 + 1 + 1 + 1 + 1 + 1, 1, none⟩ = some (.int .u32 (addL ar az 1)) ∧ W.cell? ⟨w.heap.size + 1 + 1 + 1 + 1 + 1 + 1 + 1 + 1 + 1 + 1 + 1 + 1 + 1 + 1 + 1 + 1 + 1 + 1 + 1 + 1 + 1, 0, none⟩ = some (.int .u32 (addO br bs 1)) ∧ W.cell? ⟨w.heap.size + 1 + 1 + 1 + 1 + 1 + 1 + 1 + 1 + 1 + 1 + 1 + 1 + 1 + 1 + 1 + 1 + 1 + 1 + 1 + 1 + 1, 1, none⟩ = some (.int .u32 (addL br bs 1))) ?_ ?_
  · refine ⟨?_, ?_, ?_, ?_, ?_, ?_, ?_, ?_, ?_⟩
    · repeat (first | (with_reducible refine Below.drew ?_) | (with_reducible refine balloc ?_ _))
      exact Below.refl _ _
    all_goals go_simp
  rintro W ⟨hB, k0, k1, k2, k3, k4, k5, k6, k7⟩
  go_region_held3 (fun w' => w'.cell? ⟨w.heap.size + 1 + 1 + 1 + 1 + 1 + 1 + 1, 0, none⟩ = some (.int .u32 ao) ∧ w'.cell? ⟨w.heap.size + 1 + 1 + 1 + 1 + 1 + 1 + 1, 1, none⟩ = some (.int .u32 al) ∧ w'.cell? ⟨w.heap.size + 1 + 1 + 1 + 1 + 1 + 1 + 1 + 1 + 1, 0, none⟩ = some (.int .u32 bo) ∧ w'.cell? ⟨w.heap.size + 1 + 1 + 1 + 1 + 1 + 1 + 1 + 1 + 1, 1, none⟩ = some (.int .u32 bl) ∧ w'.cell? ⟨w.heap.size + 1 + 1 + 1 + 1 + 1 + 1 + 1 + 1 + 1 + 1 + 1 + 1 + 1 + 1 + 1, 0, none⟩ = some (.int .u32 (addO ar az 1)) ∧ w'.cell? ⟨w.heap.size + 1 + 1 + 1 + 1 + 1 + 1 + 1 + 1 + 1 + 1 + 1 + 1 + 1 + 1 + 1, 1, none⟩ = some (.int .u32 (addL ar az 1)) ∧ w'.cell? ⟨w.heap.size + 1 + 1 + 1 + 1 + 1 + 1 + 1 + 1 + 1 + 1 + 1 + 1 + 1 + 1 + 1 + 1 + 1 + 1 + 1 + 1 + 1, 0, none⟩ = some (.int .u32 (addO br bs 1)) ∧ w'.cell? ⟨w.heap.size + 1 + 1 + 1 + 1 + 1 + 1 + 1 + 1 + 1 + 1 + 1 + 1 + 1 + 1 + 1 + 1 + 1 + 1 + 1 + 1 + 1, 1, none⟩ = some (.int .u32 (addL br bs 1))) (first | (go_split_ands; (refine ⟨?_, ?_, ?_, ?_, ?_, ?_, ?_, ?_⟩) <;> assumption) | (go_split_ands; (refine ⟨blater hb ?_, blater hb ?_, blater hb ?_, blater hb ?_, blater hb ?_, blater hb ?_, blater hb ?_, blater hb ?_⟩) <;> assumption) | go_keep) (first | (go_at_call 74; refine (valid_any _ _ _).mono ?_; rintro e w' ⟨rfl, hb⟩) | (go_at_call 24; refine (after_any _ _ _ _ _).mono ?_; rintro e w' ⟨rfl, hb⟩) | (go_at_call 29; refine (line_any _ _ _ ?_ ?_).mono ?_; (focus (assumption)); (focus (assumption)); rintro e w' ⟨rfl, hb⟩) | (go_at_call 30; refine (col_any _ _ _ ?_ ?_).mono ?_; (focus (assumption)); (focus (assumption)); rintro e w' ⟨rfl, hb⟩) | (go_at_call 28; refine (off_any _ _ _ ?_ ?_).mono ?_; (focus (assumption)); (focus (assumption)); rintro e w' ⟨rfl, hb⟩))
  obtain ⟨k0, k1, k2, k3, k4, k5, k6, k7⟩ : w'.cell? ⟨w.heap.size + 1 + 1 + 1 + 1 + 1 + 1 + 1, 0, none⟩ = some (.int .u32 ao) ∧ w'.cell? ⟨w.heap.size + 1 + 1 + 1 + 1 + 1 + 1 + 1, 1, none⟩ = some (.int .u32 al) ∧ w'.cell? ⟨w.heap.size + 1 + 1 + 1 + 1 + 1 + 1 + 1 + 1 + 1, 0, none⟩ = some (.int .u32 bo) ∧ w'.cell? ⟨w.heap.size + 1 + 1 + 1 + 1 + 1 + 1 + 1 + 1 + 1, 1, none⟩ = some (.int .u32 bl) ∧ w'.cell? ⟨w.heap.size + 1 + 1 + 1 + 1 + 1 + 1 + 1 + 1 + 1 + 1 + 1 + 1 + 1 + 1 + 1, 0, none⟩ = some (.int .u32 (addO ar az 1)) ∧ w'.cell? ⟨w.heap.size + 1 + 1 + 1 + 1 + 1 + 1 + 1 + 1 + 1 + 1 + 1 + 1 + 1 + 1 + 1, 1, none⟩ = some (.int .u32 (addL ar az 1)) ∧ w'.cell? ⟨w.heap.size + 1 + 1 + 1 + 1 + 1 + 1 + 1 + 1 + 1 + 1 + 1 + 1 + 1 + 1 + 1 + 1 + 1 + 1 + 1 + 1 + 1, 0, none⟩ = some (.int .u32 (addO br bs 1)) ∧ w'.cell? ⟨w.heap.size + 1 + 1 + 1 + 1 + 1 + 1 + 1 + 1 + 1 + 1 + 1 + 1 + 1 + 1 + 1 + 1 + 1 + 1 + 1 + 1 + 1, 1, none⟩ = some (.int .u32 (addL br bs 1)) := by assumption
  go_wp2_with (first | (go_at_call 74; refine (valid_any _ _ _).mono ?_; rintro e w' ⟨rfl, hb⟩; replace k0 := blater hb k0; replace k1 := blater hb k1; replace k2 := blater hb k2; replace k3 := blater hb k3; replace k4 := blater hb k4; replace k5 := blater hb k5; replace k6 := blater hb k6; replace k7 := blater hb k7) | (go_at_call 24; refine (after_any _ _ _ _ _).mono ?_; rintro e w' ⟨rfl, hb⟩; replace k0 := blater hb k0; replace k1 := blater hb k1; replace k2 := blater hb k2; replace k3 := blater hb k3; replace k4 := blater hb k4; replace k5 := blater hb k5; replace k6 := blater hb k6; replace k7 := blater hb k7) | (go_at_call 29; refine (line_any _ _ _ ?_ ?_).mono ?_; (focus (assumption)); (focus (assumption)); rintro e w' ⟨rfl, hb⟩; replace k0 := blater hb k0; replace k1 := blater hb k1; replace k2 := blater hb k2; replace k3 := blater hb k3; replace k4 := blater hb k4; replace k5 := blater hb k5; replace k6 := blater hb k6; replace k7 := blater hb k7) | (go_at_call 30; refine (col_any _ _ _ ?_ ?_).mono ?_; (focus (assumption)); (focus (assumption)); rintro e w' ⟨rfl, hb⟩; replace k0 := blater hb k0; replace k1 := blater hb k1; replace k2 := blater hb k2; replace k3 := blater hb k3; replace k4 := blater hb k4; replace k5 := blater hb k5; replace k6 := blater hb k6; replace k7 := blater hb k7) | (go_at_call 28; refine (off_any _ _ _ ?_ ?_).mono ?_; (focus (assumption)); (focus (assumption)); rintro e w' ⟨rfl, hb⟩; replace k0 := blater hb k0; replace k1 := blater hb k1; replace k2 := blater hb k2; replace k3 := blater hb k3; replace k4 := blater hb k4; replace k5 := blater hb k5; replace k6 := blater hb k6; replace k7 := blater hb k7))
  go_region_held3 (fun w' => w'.cell? ⟨w.heap.size + 1 + 1 + 1 + 1 + 1 + 1 + 1, 0, none⟩ = some (.int .u32 ao) ∧ w'.cell? ⟨w.heap.size + 1 + 1 + 1 + 1 + 1 + 1 + 1, 1, none⟩ = some (.int .u32 al) ∧ w'.cell? ⟨w.heap.size + 1 + 1 + 1 + 1 + 1 + 1 + 1 + 1 + 1, 0, none⟩ = some (.int .u32 bo) ∧ w'.cell? ⟨w.heap.size + 1 + 1 + 1 + 1 + 1 + 1 + 1 + 1 + 1, 1, none⟩ = some (.int .u32 bl) ∧ w'.cell? ⟨w.heap.size + 1 + 1 + 1 + 1 + 1 + 1 + 1 + 1 + 1 + 1 + 1 + 1 + 1 + 1 + 1, 0, none⟩ = some (.int .u32 (addO ar az 1)) ∧ w'.cell? ⟨w.heap.size + 1 + 1 + 1 + 1 + 1 + 1 + 1 + 1 + 1 + 1 + 1 + 1 + 1 + 1 + 1, 1, none⟩ = some (.int .u32 (addL ar az 1)) ∧ w'.cell? ⟨w.heap.size + 1 + 1 + 1 + 1 + 1 + 1 + 1 + 1 + 1 + 1 + 1 + 1 + 1 + 1 + 1 + 1 + 1 + 1 + 1 + 1 + 1, 0, none⟩ = some (.int .u32 (addO br bs 1)) ∧ w'.cell? ⟨w.heap.size + 1 + 1 + 1 + 1 + 1 + 1 + 1 + 1 + 1 + 1 + 1 + 1 + 1 + 1 + 1 + 1 + 1 + 1 + 1 + 1 + 1, 1, none⟩ = some (.int .u32 (addL br bs 1))) (first | (go_split_ands; (refine ⟨?_, ?_, ?_, ?_, ?_, ?_, ?_, ?_⟩) <;> assumption) | (go_split_ands; (refine ⟨blater hb ?_, blater hb ?_, blater hb ?_, blater hb ?_, blater hb ?_, blater hb ?_, blater hb ?_, blater hb ?_⟩) <;> assumption) | go_keep) (first | (go_at_call 74; refine (valid_any _ _ _).mono ?_; rintro e w' ⟨rfl, hb⟩) | (go_at_call 24; refine (after_any _ _ _ _ _).mono ?_; rintro e w' ⟨rfl, hb⟩) | (go_at_call 29; refine (line_any _ _ _ ?_ ?_).mono ?_; (focus (assumption)); (focus (assumption)); rintro e w' ⟨rfl, hb⟩) | (go_at_call 30; refine (col_any _ _ _ ?_ ?_).mono ?_; (focus (assumption)); (focus (assumption)); rintro e w' ⟨rfl, hb⟩) | (go_at_call 28; refine (off_any _ _ _ ?_ ?_).mono ?_; (focus (assumption)); (focus (assumption)); rintro e w' ⟨rfl, hb⟩))
  obtain ⟨k0, k1, k2, k3, k4, k5, k6, k7⟩ : w'.cell? ⟨w.heap.size + 1 + 1 + 1 + 1 + 1 + 1 + 1, 0, none⟩ = some (.int .u32 ao) ∧ w'.cell? ⟨w.heap.size + 1 + 1 + 1 + 1 + 1 + 1 + 1, 1, none⟩ = some (.int .u32 al) ∧ w'.cell? ⟨w.heap.size + 1 + 1 + 1 + 1 + 1 + 1 + 1 + 1 + 1, 0, none⟩ = some (.int .u32 bo) ∧ w'.cell? ⟨w.heap.size + 1 + 1 + 1 + 1 + 1 + 1 + 1 + 1 + 1, 1, none⟩ = some (.int .u32 bl) ∧ w'.cell? ⟨w.heap.size + 1 + 1 + 1 + 1 + 1 + 1 + 1 + 1 + 1 + 1 + 1 + 1 + 1 + 1 + 1, 0, none⟩ = some (.int .u32 (addO ar az 1)) ∧ w'.cell? ⟨w.heap.size + 1 + 1 + 1 + 1 + 1 + 1 + 1 + 1 + 1 + 1 + 1 + 1 + 1 + 1 + 1, 1, none⟩ = some (.int .u32 (addL ar az 1)) ∧ w'.cell? ⟨w.heap.size + 1 + 1 + 1 + 1 + 1 + 1 + 1 + 1 + 1 + 1 + 1 + 1 + 1 + 1 + 1 + 1 + 1 + 1 + 1 + 1 + 1, 0, none⟩ = some (.int .u32 (addO br bs 1)) ∧ w'.cell? ⟨w.heap.size + 1 + 1 + 1 + 1 + 1 + 1 + 1 + 1 + 1 + 1 + 1 + 1 + 1 + 1 + 1 + 1 + 1 + 1 + 1 + 1 + 1, 1, none⟩ = some (.int .u32 (addL br bs 1)) := by assumption
  go_wp2_with (first | (go_at_call 74; refine (valid_any _ _ _).mono ?_; rintro e w' ⟨rfl, hb⟩; replace k0 := blater hb k0; replace k1 := blater hb k1; replace k2 := blater hb k2; replace k3 := blater hb k3; replace k4 := blater hb k4; replace k5 := blater hb k5; replace k6 := blater hb k6; replace k7 := blater hb k7) | (go_at_call 24; refine (after_any _ _ _ _ _).mono ?_; rintro e w' ⟨rfl, hb⟩; replace k0 := blater hb k0; replace k1 := blater hb k1; replace k2 := blater hb k2; replace k3 := blater hb k3; replace k4 := blater hb k4; replace k5 := blater hb k5; replace k6 := blater hb k6; replace k7 := blater hb k7) | (go_at_call 29; refine (line_any _ _ _ ?_ ?_).mono ?_; (focus (assumption)); (focus (assumption)); rintro e w' ⟨rfl, hb⟩; replace k0 := blater hb k0; replace k1 := blater hb k1; replace k2 := blater hb k2; replace k3 := blater hb k3; replace k4 := blater hb k4; replace k5 := blater hb k5; replace k6 := blater hb k6; replace k7 := blater hb k7) | (go_at_call 30; refine (col_any _ _ _ ?_ ?_).mono ?_; (focus (assumption)); (focus (assumption)); rintro e w' ⟨rfl, hb⟩; replace k0 := blater hb k0; replace k1 := blater hb k1; replace k2 := blater hb k2; replace k3 := blater hb k3; replace k4 := blater hb k4; replace k5 := blater hb k5; replace k6 := blater hb k6; replace k7 := blater hb k7) | (go_at_call 28; refine (off_any _ _ _ ?_ ?_).mono ?_; (focus (assumption)); (focus (assumption)); rintro e w' ⟨rfl, hb⟩; replace k0 := blater hb k0; replace k1 := blater hb k1; replace k2 := blater hb k2; replace k3 := blater hb k3; replace k4 := blater hb k4; replace k5 := blater hb k5; replace k6 := blater hb k6; replace k7 := blater hb k7))
  first | (go_region_with (first | (go_at_call 74; refine (valid_any _ _ _).mono ?_; rintro e w' ⟨rfl, hb⟩; replace k0 := blater hb k0; replace k1 := blater hb k1; replace k2 := blater hb k2; replace k3 := blater hb k3; replace k4 := blater hb k4; replace k5 := blater hb k5; replace k6 := blater hb k6; replace k7 := blater hb k7) | (go_at_call 24; refine (after_any _ _ _ _ _).mono ?_; rintro e w' ⟨rfl, hb⟩; replace k0 := blater hb k0; replace k1 := blater hb k1; replace k2 := blater hb k2; replace k3 := blater hb k3; replace k4 := blater hb k4; replace k5 := blater hb k5; replace k6 := blater hb k6; replace k7 := blater hb k7) | (go_at_call 29; refine (line_any _ _ _ ?_ ?_).mono ?_; (focus (assumption)); (focus (assumption)); rintro e w' ⟨rfl, hb⟩; replace k0 := blater hb k0; replace k1 := blater hb k1; replace k2 := blater hb k2; replace k3 := blater hb k3; replace k4 := blater hb k4; replace k5 := blater hb k5; replace k6 := blater hb k6; replace k7 := blater hb k7) | (go_at_call 30; refine (col_any _ _ _ ?_ ?_).mono ?_; (focus (assumption)); (focus (assumption)); rintro e w' ⟨rfl, hb⟩; replace k0 := blater hb k0; replace k1 := blater hb k1; replace k2 := blater hb k2; replace k3 := blater hb k3; replace k4 := blater hb k4; replace k5 := blater hb k5; replace k6 := blater hb k6; replace k7 := blater hb k7) | (go_at_call 28; refine (off_any _ _ _ ?_ ?_).mono ?_; (focus (assumption)); (focus (assumption)); rintro e w' ⟨rfl, hb⟩; replace k0 := blater hb k0; replace k1 := blater hb k1; replace k2 := blater hb k2; replace k3 := blater hb k3; replace k4 := blater hb k4; replace k5 := blater hb k5; replace k6 := blater hb k6; replace k7 := blater hb k7))) | fail
  all_goals
    go_wp2
    go_ret
    refine ⟨rfl, ?_⟩
    repeat (first | assumption | exact hB.drew | (with_reducible refine Below.drew ?_) | refine btrans ?_ (by assumption))

set_option maxHeartbeats 2000000 in
theorem nest_b (ao al ar az bo bl br bs : Int) (w : World) (p0 : 0 ≤ ao) (p1 : ao < 4294967296) (q0 : 0 ≤ al) (q1 : al < 4294967296) (r0 : 0 ≤ ar) (r1 : ar < 4294967296) (s0 : 0 ≤ az) (s1 : az < 4294967296) (m0 : 0 ≤ bo) (m1 : bo < 4294967296) (n0 : 0 ≤ bl) (n1 : bl < 4294967296) (u0 : 0 ≤ br) (u1 : br < 4294967296) (v0 : 0 ≤ bs) (v1 : bs < 4294967296) (va : validB ao al = true) (var : validB ar az = true) (vb : validB bo bl = true) (vbr : validB br bs = true) (h1 : ao ≤ bo) (h2 : bo ≤ br) (h3 : br ≤ ar) (h4 : 4294967284 ≤ bo) :
    Calls Try.prog 11 #[.int .u32 ao, .int .u32 al, .int .u32 ar, .int .u32 az, .int .u32 bo, .int .u32 bl, .int .u32 br, .int .u32 bs] w fun e w' => e = .returned (.bool true) ∧ Below w.heap.size w w' := by
  obtain ⟨f1, f2, f3, f4, f5, f6⟩ := nest_facts ao al ar az bo bl br bs p0 va var vb vbr h1 h2 h3
  obtain ⟨f6, f7⟩ := f6 h4
  have f8 : decide (offI bo < offI (addO br bs 1)) = false := by simp; omega
  clear f5
  have e0 := (addO_bd ar az 1 r0 r1).1
  have e1 := (addO_bd ar az 1 r0 r1).2
  have g0 := (addO_bd br bs 1 u0 u1).1
  have g1 := (addO_bd br bs 1 u0 u1).2
  go_enter Try.func11, Try.ntmps11
  go_wp2_with (first | (go_at_call 60; refine (isv24 _ _ _).mono ?_; rintro e w' ⟨rfl, rfl⟩) | (go_at_call 26; refine (mk24 _ _ _).mono ?_; rintro e w' ⟨rfl, rfl⟩) | (go_at_call 61; refine (parPos _ ao al _ ?_ ?_).mono ?_; (focus (go_simp; done)); (focus (go_simp; done)); rintro e w' ⟨rfl, rfl⟩) | (go_at_call 61; refine (parPos _ bo bl _ ?_ ?_).mono ?_; (focus (go_simp; done)); (focus (go_simp; done)); rintro e w' ⟨rfl, rfl⟩) | (go_at_call 31; refine (parEnd_ok _ ar az _ var r0 s0 s1 ?_ ?_).mono ?_; (focus (go_simp; done)); (focus (go_simp; done)); rintro e w' ⟨rfl, rfl⟩) | (go_at_call 31; refine (parEnd_ok _ br bs _ vbr u0 v0 v1 ?_ ?_).mono ?_; (focus (go_simp; done)); (focus (go_simp; done)); rintro e w' ⟨rfl, rfl⟩))
  refine gen (fun W => Below w.heap.size w W ∧ W.cell? ⟨w.heap.size + 1 + 1 + 1 + 1 + 1 + 1 + 1, 0, none⟩ = some (.int .u32 ao) ∧ W.cell? ⟨w.heap.size + 1 + 1 + 1 + 1 + 1 + 1 + 1, 1, none⟩ = some (.int .u32 al) ∧ W.cell? ⟨w.heap.size + 1 + 1 + 1 + 1 + 1 + 1 + 1 + 1 + 1, 0, none⟩ = some (.int .u32 bo) ∧ W.cell? ⟨w.heap.size + 1 + 1 + 1 + 1 + 1 + 1 + 1 + 1 + 1, 1, none⟩ = some (.int .u32 bl) ∧ W.cell? ⟨w.heap.size + 1 + 1 + 1 + 1 + 1 + 1 + 1 + 1 + 1 + 1 + 1 + 1 + 1 + 1 + 1, 0, none⟩ = some (.int .u32 (addO ar az 1)) ∧ W.cell? ⟨w.heap.size + 1 + 1 + 1 + 1 + 1 + 1 + 1 + 1 + 1 + 1 + 1 + 1 + 1 + 1 + 1, 1, none⟩ = some (.int .u32 (addL ar az 1)) ∧ W.cell? ⟨w.heap.size + 1 + 1 + 1 + 1 + 1 + 1 + 1 + 1 + 1 + 1 + 1 + 1 + 1 + 1 + 1 + 1 + 1 + 1 + 1 + 1 + 1, 0, none⟩ = some (.int .u32 (addO br bs 1)) ∧ W.cell? ⟨w.heap.size + 1 + 1 + 1 + 1 + 1 + 1 + 1 + 1 + 1 + 1 + 1 + 1 + 1 + 1 + 1 + 1 + 1 + 1 + 1 + 1 + 1, 1, none⟩ = some (.int .u32 (addL br bs 1))) ?_ ?_
  · refine ⟨?_, ?_, ?_, ?_, ?_, ?_, ?_, ?_, ?_⟩
    · repeat (first | (with_reducible refine Below.drew ?_) | (with_reducible refine balloc ?_ _))
      exact Below.refl _ _
    all_goals go_simp
  rintro W ⟨hB, k0, k1, k2, k3, k4, k5, k6, k7⟩
  go_region_held3 (fun w' => w'.cell? ⟨w.heap.size + 1 + 1 + 1 + 1 + 1 + 1 + 1, 0, none⟩ = some (.int .u32 ao) ∧ w'.cell? ⟨w.heap.size + 1 + 1 + 1 + 1 + 1 + 1 + 1, 1, none⟩ = some (.int .u32 al) ∧ w'.cell? ⟨w.heap.size + 1 + 1 + 1 + 1 + 1 + 1 + 1 + 1 + 1, 0, none⟩ = some (.int .u32 bo) ∧ w'.cell? ⟨w.heap.size + 1 + 1 + 1 + 1 + 1 + 1 + 1 + 1 + 1, 1, none⟩ = some (.int .u32 bl) ∧ w'.cell? ⟨w.heap.size + 1 + 1 + 1 + 1 + 1 + 1 + 1 + 1 + 1 + 1 + 1 + 1 + 1 + 1 + 1, 0, none⟩ = some (.int .u32 (addO ar az 1)) ∧ w'.cell? ⟨w.heap.size + 1 + 1 + 1 + 1 + 1 + 1 + 1 + 1 + 1 + 1 + 1 + 1 + 1 + 1 + 1, 1, none⟩ = some (.int .u32 (addL ar az 1)) ∧ w'.cell? ⟨w.heap.size + 1 + 1 + 1 + 1 + 1 + 1 + 1 + 1 + 1 + 1 + 1 + 1 + 1 + 1 + 1 + 1 + 1 + 1 + 1 + 1 + 1, 0, none⟩ = some (.int .u32 (addO br bs 1)) ∧ w'.cell? ⟨w.heap.size + 1 + 1 + 1 + 1 + 1 + 1 + 1 + 1 + 1 + 1 + 1 + 1 + 1 + 1 + 1 + 1 + 1 + 1 + 1 + 1 + 1, 1, none⟩ = some (.int .u32 (addL br bs 1))) (first | (go_split_ands; (refine ⟨?_, ?_, ?_, ?_, ?_, ?_, ?_, ?_⟩) <;> assumption) | (go_split_ands; (refine ⟨blater hb ?_, blater hb ?_, blater hb ?_, blater hb ?_, blater hb ?_, blater hb ?_, blater hb ?_, blater hb ?_⟩) <;> assumption) | go_keep) (first | (go_at_call 74; refine (valid_any _ _ _).mono ?_; rintro e w' ⟨rfl, hb⟩) | (go_at_call 24; refine (after_any _ _ _ _ _).mono ?_; rintro e w' ⟨rfl, hb⟩) | (go_at_call 29; refine (line_any _ _ _ ?_ ?_).mono ?_; (focus (assumption)); (focus (assumption)); rintro e w' ⟨rfl, hb⟩) | (go_at_call 30; refine (col_any _ _ _ ?_ ?_).mono ?_; (focus (assumption)); (focus (assumption)); rintro e w' ⟨rfl, hb⟩) | (go_at_call 28; refine (off_any _ _ _ ?_ ?_).mono ?_; (focus (assumption)); (focus (assumption)); rintro e w' ⟨rfl, hb⟩))
  obtain ⟨k0, k1, k2, k3, k4, k5, k6, k7⟩ : w'.cell? ⟨w.heap.size + 1 + 1 + 1 + 1 + 1 + 1 + 1, 0, none⟩ = some (.int .u32 ao) ∧ w'.cell? ⟨w.heap.size + 1 + 1 + 1 + 1 + 1 + 1 + 1, 1, none⟩ = some (.int .u32 al) ∧ w'.cell? ⟨w.heap.size + 1 + 1 + 1 + 1 + 1 + 1 + 1 + 1 + 1, 0, none⟩ = some (.int .u32 bo) ∧ w'.cell? ⟨w.heap.size + 1 + 1 + 1 + 1 + 1 + 1 + 1 + 1 + 1, 1, none⟩ = some (.int .u32 bl) ∧ w'.cell? ⟨w.heap.size + 1 + 1 + 1 + 1 + 1 + 1 + 1 + 1 + 1 + 1 + 1 + 1 + 1 + 1 + 1, 0, none⟩ = some (.int .u32 (addO ar az 1)) ∧ w'.cell? ⟨w.heap.size + 1 + 1 + 1 + 1 + 1 + 1 + 1 + 1 + 1 + 1 + 1 + 1 + 1 + 1 + 1, 1, none⟩ = some (.int .u32 (addL ar az 1)) ∧ w'.cell? ⟨w.heap.size + 1 + 1 + 1 + 1 + 1 + 1 + 1 + 1 + 1 + 1 + 1 + 1 + 1 + 1 + 1 + 1 + 1 + 1 + 1 + 1 + 1, 0, none⟩ = some (.int .u32 (addO br bs 1)) ∧ w'.cell? ⟨w.heap.size + 1 + 1 + 1 + 1 + 1 + 1 + 1 + 1 + 1 + 1 + 1 + 1 + 1 + 1 + 1 + 1 + 1 + 1 + 1 + 1 + 1, 1, none⟩ = some (.int .u32 (addL br bs 1)) := by assumption
  go_wp2_with (first | (go_at_call 74; refine (valid_any _ _ _).mono ?_; rintro e w' ⟨rfl, hb⟩; replace k0 := blater hb k0; replace k1 := blater hb k1; replace k2 := blater hb k2; replace k3 := blater hb k3; replace k4 := blater hb k4; replace k5 := blater hb k5; replace k6 := blater hb k6; replace k7 := blater hb k7) | (go_at_call 24; refine (after_any _ _ _ _ _).mono ?_; rintro e w' ⟨rfl, hb⟩; replace k0 := blater hb k0; replace k1 := blater hb k1; replace k2 := blater hb k2; replace k3 := blater hb k3; replace k4 := blater hb k4; replace k5 := blater hb k5; replace k6 := blater hb k6; replace k7 := blater hb k7) | (go_at_call 29; refine (line_any _ _ _ ?_ ?_).mono ?_; (focus (assumption)); (focus (assumption)); rintro e w' ⟨rfl, hb⟩; replace k0 := blater hb k0; replace k1 := blater hb k1; replace k2 := blater hb k2; replace k3 := blater hb k3; replace k4 := blater hb k4; replace k5 := blater hb k5; replace k6 := blater hb k6; replace k7 := blater hb k7) | (go_at_call 30; refine (col_any _ _ _ ?_ ?_).mono ?_; (focus (assumption)); (focus (assumption)); rintro e w' ⟨rfl, hb⟩; replace k0 := blater hb k0; replace k1 := blater hb k1; replace k2 := blater hb k2; replace k3 := blater hb k3; replace k4 := blater hb k4; replace k5 := blater hb k5; replace k6 := blater hb k6; replace k7 := blater hb k7) | (go_at_call 28; refine (off_any _ _ _ ?_ ?_).mono ?_; (focus (assumption)); (focus (assumption)); rintro e w' ⟨rfl, hb⟩; replace k0 := blater hb k0; replace k1 := blater hb k1; replace k2 := blater hb k2; replace k3 := blater hb k3; replace k4 := blater hb k4; replace k5 := blater hb k5; replace k6 := blater hb k6; replace k7 := blater hb k7))
  go_region_held3 (fun w' => w'.cell? ⟨w.heap.size + 1 + 1 + 1 + 1 + 1 + 1 + 1, 0, none⟩ = some (.int .u32 ao) ∧ w'.cell? ⟨w.heap.size + 1 + 1 + 1 + 1 + 1 + 1 + 1, 1, none⟩ = some (.int .u32 al) ∧ w'.cell? ⟨w.heap.size + 1 + 1 + 1 + 1 + 1 + 1 + 1 + 1 + 1, 0, none⟩ = some (.int .u32 bo) ∧ w'.cell? ⟨w.heap.size + 1 + 1 + 1 + 1 + 1 + 1 + 1 + 1 + 1, 1, none⟩ = some (.int .u32 bl) ∧ w'.cell? ⟨w.heap.size + 1 + 1 + 1 + 1 + 1 + 1 + 1 + 1 + 1 + 1 + 1 + 1 + 1 + 1 + 1, 0, none⟩ = some (.int .u32 (addO ar az 1)) ∧ w'.cell? ⟨w.heap.size + 1 + 1 + 1 + 1 + 1 + 1 + 1 + 1 + 1 + 1 + 1 + 1 + 1 + 1 + 1, 1, none⟩ = some (.int .u32 (addL ar az 1)) ∧ w'.cell? ⟨w.heap.size + 1 + 1 + 1 + 1 + 1 + 1 + 1 + 1 + 1 + 1 + 1 + 1 + 1 + 1 + 1 + 1 + 1 + 1 + 1 + 1 + 1, 0, none⟩ = some (.int .u32 (addO br bs 1)) ∧ w'.cell? ⟨w.heap.size + 1 + 1 + 1 + 1 + 1 + 1 + 1 + 1 + 1 + 1 + 1 + 1 + 1 + 1 + 1 + 1 + 1 + 1 + 1 + 1 + 1, 1, none⟩ = some (.int .u32 (addL br bs 1))) (first | (go_split_ands; (refine ⟨?_, ?_, ?_, ?_, ?_, ?_, ?_, ?_⟩) <;> assumption) | (go_split_ands; (refine ⟨blater hb ?_, blater hb ?_, blater hb ?_, blater hb ?_, blater hb ?_, blater hb ?_, blater hb ?_, blater hb ?_⟩) <;> assumption) | go_keep) (first | (go_at_call 74; refine (valid_any _ _ _).mono ?_; rintro e w' ⟨rfl, hb⟩) | (go_at_call 24; refine (after_any _ _ _ _ _).mono ?_; rintro e w' ⟨rfl, hb⟩) | (go_at_call 29; refine (line_any _ _ _ ?_ ?_).mono ?_; (focus (assumption)); (focus (assumption)); rintro e w' ⟨rfl, hb⟩) | (go_at_call 30; refine (col_any _ _ _ ?_ ?_).mono ?_; (focus (assumption)); (focus (assumption)); rintro e w' ⟨rfl, hb⟩) | (go_at_call 28; refine (off_any _ _ _ ?_ ?_).mono ?_; (focus (assumption)); (focus (assumption)); rintro e w' ⟨rfl, hb⟩))
  obtain ⟨k0, k1, k2, k3, k4, k5, k6, k7⟩ : w'.cell? ⟨w.heap.size + 1 + 1 + 1 + 1 + 1 + 1 + 1, 0, none⟩ = some (.int .u32 ao) ∧ w'.cell? ⟨w.heap.size + 1 + 1 + 1 + 1 + 1 + 1 + 1, 1, none⟩ = some (.int .u32 al) ∧ w'.cell? ⟨w.heap.size + 1 + 1 + 1 + 1 + 1 + 1 + 1 + 1 + 1, 0, none⟩ = some (.int .u32 bo) ∧ w'.cell? ⟨w.heap.size + 1 + 1 + 1 + 1 + 1 + 1 + 1 + 1 + 1, 1, none⟩ = some (.int .u32 bl) ∧ w'.cell? ⟨w.heap.size + 1 + 1 + 1 + 1 + 1 + 1 + 1 + 1 + 1 + 1 + 1 + 1 + 1 + 1 + 1, 0, none⟩ = some (.int .u32 (addO ar az 1)) ∧ w'.cell? ⟨w.heap.size + 1 + 1 + 1 + 1 + 1 + 1 + 1 + 1 + 1 + 1 + 1 + 1 + 1 + 1 + 1, 1, none⟩ = some (.int .u32 (addL ar az 1)) ∧ w'.cell? ⟨w.heap.size + 1 + 1 + 1 + 1 + 1 + 1 + 1 + 1 + 1 + 1 + 1 + 1 + 1 + 1 + 1 + 1 + 1 + 1 + 1 + 1 + 1, 0, none⟩ = some (.int .u32 (addO br bs 1)) ∧ w'.cell? ⟨w.heap.size + 1 + 1 + 1 + 1 + 1 + 1 + 1 + 1 + 1 + 1 + 1 + 1 + 1 + 1 + 1 + 1 + 1 + 1 + 1 + 1 + 1, 1, none⟩ = some (.int .u32 (addL br bs 1)) := by assumption
  go_wp2_with (first | (go_at_call 74; refine (valid_any _ _ _).mono ?_; rintro e w' ⟨rfl, hb⟩; replace k0 := blater hb k0; replace k1 := blater hb k1; replace k2 := blater hb k2; replace k3 := blater hb k3; replace k4 := blater hb k4; replace k5 := blater hb k5; replace k6 := blater hb k6; replace k7 := blater hb k7) | (go_at_call 24; refine (after_any _ _ _ _ _).mono ?_; rintro e w' ⟨rfl, hb⟩; replace k0 := blater hb k0; replace k1 := blater hb k1; replace k2 := blater hb k2; replace k3 := blater hb k3; replace k4 := blater hb k4; replace k5 := blater hb k5; replace k6 := blater hb k6; replace k7 := blater hb k7) | (go_at_call 29; refine (line_any _ _ _ ?_ ?_).mono ?_; (focus (assumption)); (focus (assumption)); rintro e w' ⟨rfl, hb⟩; replace k0 := blater hb k0; replace k1 := blater hb k1; replace k2 := blater hb k2; replace k3 := blater hb k3; replace k4 := blater hb k4; replace k5 := blater hb k5; replace k6 := blater hb k6; replace k7 := blater hb k7) | (go_at_call 30; refine (col_any _ _ _ ?_ ?_).mono ?_; (focus (assumption)); (focus (assumption)); rintro e w' ⟨rfl, hb⟩; replace k0 := blater hb k0; replace k1 := blater hb k1; replace k2 := blater hb k2; replace k3 := blater hb k3; replace k4 := blater hb k4; replace k5 := blater hb k5; replace k6 := blater hb k6; replace k7 := blater hb k7) | (go_at_call 28; refine (off_any _ _ _ ?_ ?_).mono ?_; (focus (assumption)); (focus (assumption)); rintro e w' ⟨rfl, hb⟩; replace k0 := blater hb k0; replace k1 := blater hb k1; replace k2 := blater hb k2; replace k3 := blater hb k3; replace k4 := blater hb k4; replace k5 := blater hb k5; replace k6 := blater hb k6; replace k7 := blater hb k7))
  go_region_held3 (fun w' => w'.cell? ⟨w.heap.size + 1 + 1 + 1 + 1 + 1 + 1 + 1, 0, none⟩ = some (.int .u32 ao) ∧ w'.cell? ⟨w.heap.size + 1 + 1 + 1 + 1 + 1 + 1 + 1, 1, none⟩ = some (.int .u32 al) ∧ w'.cell? ⟨w.heap.size + 1 + 1 + 1 + 1 + 1 + 1 + 1 + 1 + 1, 0, none⟩ = some (.int .u32 bo) ∧ w'.cell? ⟨w.heap.size + 1 + 1 + 1 + 1 + 1 + 1 + 1 + 1 + 1, 1, none⟩ = some (.int .u32 bl) ∧ w'.cell? ⟨w.heap.size + 1 + 1 + 1 + 1 + 1 + 1 + 1 + 1 + 1 + 1 + 1 + 1 + 1 + 1 + 1, 0, none⟩ = some (.int .u32 (addO ar az 1)) ∧ w'.cell? ⟨w.heap.size + 1 + 1 + 1 + 1 + 1 + 1 + 1 + 1 + 1 + 1 + 1 + 1 + 1 + 1 + 1, 1, none⟩ = some (.int .u32 (addL ar az 1)) ∧ w'.cell? ⟨w.heap.size + 1 + 1 + 1 + 1 + 1 + 1 + 1 + 1 + 1 + 1 + 1 + 1 + 1 + 1 + 1 + 1 + 1 + 1 + 1 + 1 + 1, 0, none⟩ = some (.int .u32 (addO br bs 1)) ∧ w'.cell? ⟨w.heap.size + 1 + 1 + 1 + 1 + 1 + 1 + 1 + 1 + 1 + 1 + 1 + 1 + 1 + 1 + 1 + 1 + 1 + 1 + 1 + 1 + 1, 1, none⟩ = some (.int .u32 (addL br bs 1))) (first | (go_split_ands; (refine ⟨?_, ?_, ?_, ?_, ?_, ?_, ?_, ?_⟩) <;> assumption) | (go_split_ands; (refine ⟨blater hb ?_, blater hb ?_, blater hb ?_, blater hb ?_, blater hb ?_, blater hb ?_, blater hb ?_, blater hb ?_⟩) <;> assumption) | go_keep) (first | (go_at_call 74; refine (valid_any _ _ _).mono ?_; rintro e w' ⟨rfl, hb⟩) | (go_at_call 24; refine (after_any _ _ _ _ _).mono ?_; rintro e w' ⟨rfl, hb⟩) | (go_at_call 29; refine (line_any _ _ _ ?_ ?_).mono ?_; (focus (assumption)); (focus (assumption)); rintro e w' ⟨rfl, hb⟩) | (go_at_call 30; refine (col_any _ _ _ ?_ ?_).mono ?_; (focus (assumption)); (focus (assumption)); rintro e w' ⟨rfl, hb⟩) | (go_at_call 28; refine (off_any _ _ _ ?_ ?_).mono ?_; (focus (assumption)); (focus (assumption)); rintro e w' ⟨rfl, hb⟩))
  go_wp2
  go_ret
  refine ⟨rfl, ?_⟩
  repeat (first | assumption | exact hB.drew | (with_reducible refine Below.drew ?_) | refine btrans ?_ (by assumption))

theorem nest_law (ao al ar az bo bl br bs : Int) (w : World) (p0 : 0 ≤ ao) (p1 : ao < 4294967296) (q0 : 0 ≤ al) (q1 : al < 4294967296) (r0 : 0 ≤ ar) (r1 : ar < 4294967296) (s0 : 0 ≤ az) (s1 : az < 4294967296) (m0 : 0 ≤ bo) (m1 : bo < 4294967296) (n0 : 0 ≤ bl) (n1 : bl < 4294967296) (u0 : 0 ≤ br) (u1 : br < 4294967296) (v0 : 0 ≤ bs) (v1 : bs < 4294967296) :
    Calls Try.prog 11 #[.int .u32 ao, .int .u32 al, .int .u32 ar, .int .u32 az, .int .u32 bo, .int .u32 bl, .int .u32 br, .int .u32 bs] w fun e w' => e = .returned (.bool true) ∧ Below w.heap.size w w' := by
  cases va : validB ao al
  · go_enter Try.func11, Try.ntmps11
    go_wp2_with (go_at_call 60; refine (isv24 _ _ _).mono ?_; rintro e w' ⟨rfl, rfl⟩)
    go_ret
    exact ⟨rfl, Below.refl _ _⟩
  · cases var : validB ar az
    · go_enter Try.func11, Try.ntmps11
      go_wp2_with (go_at_call 60; refine (isv24 _ _ _).mono ?_; rintro e w' ⟨rfl, rfl⟩)
      go_ret
      exact ⟨rfl, Below.refl _ _⟩
    · cases vb : validB bo bl
      · go_enter Try.func11, Try.ntmps11
        go_wp2_with (go_at_call 60; refine (isv24 _ _ _).mono ?_; rintro e w' ⟨rfl, rfl⟩)
        go_ret
        exact ⟨rfl, Below.refl _ _⟩
      · cases vbr : validB br bs
        · go_enter Try.func11, Try.ntmps11
          go_wp2_with (go_at_call 60; refine (isv24 _ _ _).mono ?_; rintro e w' ⟨rfl, rfl⟩)
          go_ret
          exact ⟨rfl, Below.refl _ _⟩
        · by_cases h1 : ao ≤ bo
          · by_cases h2 : bo ≤ br
            · by_cases h3 : br ≤ ar
              · rcases Int.lt_or_le bo 4294967284 with h4 | h4
                · exact nest_a ao al ar az bo bl br bs w p0 p1 q0 q1 r0 r1 s0 s1 m0 m1 n0 n1 u0 u1 v0 v1 va var vb vbr h1 h2 h3 h4
                · exact nest_b ao al ar az bo bl br bs w p0 p1 q0 q1 r0 r1 s0 s1 m0 m1 n0 n1 u0 u1 v0 v1 va var vb vbr h1 h2 h3 h4
              · go_enter Try.func11, Try.ntmps11
                go_wp2_with (go_at_call 60; refine (isv24 _ _ _).mono ?_; rintro e w' ⟨rfl, rfl⟩)
                go_ret
                exact ⟨rfl, Below.refl _ _⟩
            · go_enter Try.func11, Try.ntmps11
              go_wp2_with (go_at_call 60; refine (isv24 _ _ _).mono ?_; rintro e w' ⟨rfl, rfl⟩)
              go_ret
              exact ⟨rfl, Below.refl _ _⟩
          · go_enter Try.func11, Try.ntmps11
            go_wp2_with (go_at_call 60; refine (isv24 _ _ _).mono ?_; rintro e w' ⟨rfl, rfl⟩)
            go_ret
            exact ⟨rfl, Below.refl _ _⟩
end Go.Proofs.Ytjpodhmjmohblaa
