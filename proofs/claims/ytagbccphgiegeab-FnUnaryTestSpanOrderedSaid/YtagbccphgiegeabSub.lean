/- The walks of the laws FnSubshellSpansForward and FnSubshellBlockAgree: each returns true at every input. -/
import Derived.Test.YtagbccphgiegeabPos
import Derived.Deep.RegionWith
import Derived.Deep.RegionHeld3
namespace Go.Proofs.Ytagbccphgiegeab
open Go.RowKit
set_option linter.unusedVariables false

def reachB (o l : Int) : Bool := decide (o ≤ 4294967284) || (o == 4294967285 && l == 0)
theorem later {w : World} {p : Addr} {v : Value} (h : w.cell? p = some v) (o : Obj) : (w.alloc o).cell? p = some v :=
  (World.cell?_alloc_lt w o p (World.block_lt_of_cell? w _ h)).trans h

theorem reach_any (o l : Int) (w : World) : Calls Try.prog 15 #[.int .u32 o, .int .u32 l] w fun e w' => e = .returned (.bool (reachB o l)) ∧ w = w' := by
  have E1 := Lib.hid (show reachB o l = (decide (o ≤ 4294967284) || (o == 4294967285 && l == 0)) from rfl)
  by_cases a : o ≤ 4294967284
  · go_enter Try.func15, Try.ntmps15
    go_wp2
    go_ret
    exact ⟨ret_bool (by rw [E1.out]; simp [a]), rfl⟩
  · cases b : (o == 4294967285)
    · go_enter Try.func15, Try.ntmps15
      go_wp2
      go_ret
      exact ⟨ret_bool (by rw [E1.out]; simp [b]; omega), rfl⟩
    · go_enter Try.func15, Try.ntmps15
      go_wp2
      go_ret
      exact ⟨ret_bool (by rw [E1.out]; simp [b]; omega), rfl⟩

theorem mk_any (o l : Int) (w : World) : Calls Try.prog 16 #[.int .u32 o, .int .u32 l] w fun e w' => e = .returned (P2 o l) ∧ w.alloc (C2 o l) = w' := by
  go_enter Try.func16, Try.ntmps16
  go_wp2
  exact bodyPost_ret (v := P2 o l) (by simp [results, Try.results16, go_sem]) rfl ⟨rfl, rfl⟩

theorem subPos (b : Nat) (o l : Int) (w : World) (h0 : w.cell? ⟨b, 0, none⟩ = some (.int .u32 o)) (h1 : w.cell? ⟨b, 1, none⟩ = some (.int .u32 l)) :
    Calls Try.prog 18 #[.pointer (some ⟨b, 0, none⟩)] w fun e w' => e = .returned (P2 o l) ∧ w.alloc (C2 o l) = w' := by
  have g0 := later h0
  have g1 := later h1
  go_enter Try.func18, Try.ntmps18
  go_wp2
  exact bodyPost_ret (v := P2 o l) (by simp [results, Try.results18, go_sem]) rfl ⟨rfl, rfl⟩

theorem blkPos (b : Nat) (o l : Int) (w : World) (h0 : w.cell? ⟨b, 0, none⟩ = some (.int .u32 o)) (h1 : w.cell? ⟨b, 1, none⟩ = some (.int .u32 l)) :
    Calls Try.prog 22 #[.pointer (some ⟨b, 0, none⟩)] w fun e w' => e = .returned (P2 o l) ∧ w.alloc (C2 o l) = w' := by
  have g0 := later h0
  have g1 := later h1
  go_enter Try.func22, Try.ntmps22
  go_wp2
  exact bodyPost_ret (v := P2 o l) (by simp [results, Try.results22, go_sem]) rfl ⟨rfl, rfl⟩

theorem subEnd_ok (b : Nat) (o l : Int) (w : World) (hv : validB o l = true) (o0 : 0 ≤ o) (l0 : 0 ≤ l) (l1 : l < 4294967296) (h0 : w.cell? ⟨b, 2, none⟩ = some (.int .u32 o)) (h1 : w.cell? ⟨b, 3, none⟩ = some (.int .u32 l)) :
    Calls Try.prog 17 #[.pointer (some ⟨b, 0, none⟩)] w fun e w' => e = .returned (P2 (addO o l 1) (addL o l 1)) ∧ ((((w.alloc (C2 (addO o l 1) (addL o l 1))).alloc (C2 (addO o l 1) (addL o l 1))).alloc (C2 (addO o l 1) (addL o l 1))).alloc (C2 o l)).alloc (C2 o l) = w' := by
  have g0 := later h0
  have g1 := later h1
  go_enter Try.func17, Try.ntmps17
  go_wp2_with fail
  refine (add_ok _ _ _ _ hv o0 l0 l1 (by omega) (by omega)).mono ?_
  rintro e w1 ⟨rfl, rfl⟩
  clear g0 g1 h0 h1
  go_wp2
  exact bodyPost_ret (v := P2 (addO o l 1) (addL o l 1)) (by simp [results, Try.results17, go_sem]) rfl ⟨rfl, rfl⟩

theorem subEnd_bad (b : Nat) (o l : Int) (w : World) (hv : validB o l = false) (h0 : w.cell? ⟨b, 2, none⟩ = some (.int .u32 o)) (h1 : w.cell? ⟨b, 3, none⟩ = some (.int .u32 l)) :
    Calls Try.prog 17 #[.pointer (some ⟨b, 0, none⟩)] w fun e w' => e = .returned (P2 o l) ∧ (((w.alloc (C2 o l)).alloc (C2 o l)).alloc (C2 o l)).alloc (C2 o l) = w' := by
  have g0 := later h0
  have g1 := later h1
  go_enter Try.func17, Try.ntmps17
  go_wp2_with fail
  refine (add_bad _ _ _ _ hv).mono ?_
  rintro e w1 ⟨rfl, rfl⟩
  clear g0 g1 h0 h1
  go_wp2
  exact bodyPost_ret (v := P2 o l) (by simp [results, Try.results17, go_sem]) rfl ⟨rfl, rfl⟩

theorem blkEnd_ok (b : Nat) (o l : Int) (w : World) (hv : validB o l = true) (o0 : 0 ≤ o) (l0 : 0 ≤ l) (l1 : l < 4294967296) (h0 : w.cell? ⟨b, 2, none⟩ = some (.int .u32 o)) (h1 : w.cell? ⟨b, 3, none⟩ = some (.int .u32 l)) :
    Calls Try.prog 23 #[.pointer (some ⟨b, 0, none⟩)] w fun e w' => e = .returned (P2 (addO o l 1) (addL o l 1)) ∧ ((((w.alloc (C2 (addO o l 1) (addL o l 1))).alloc (C2 (addO o l 1) (addL o l 1))).alloc (C2 (addO o l 1) (addL o l 1))).alloc (C2 o l)).alloc (C2 o l) = w' := by
  have g0 := later h0
  have g1 := later h1
  go_enter Try.func23, Try.ntmps23
  go_wp2_with fail
  refine (add_ok _ _ _ _ hv o0 l0 l1 (by omega) (by omega)).mono ?_
  rintro e w1 ⟨rfl, rfl⟩
  clear g0 g1 h0 h1
  go_wp2
  exact bodyPost_ret (v := P2 (addO o l 1) (addL o l 1)) (by simp [results, Try.results23, go_sem]) rfl ⟨rfl, rfl⟩

theorem blkEnd_bad (b : Nat) (o l : Int) (w : World) (hv : validB o l = false) (h0 : w.cell? ⟨b, 2, none⟩ = some (.int .u32 o)) (h1 : w.cell? ⟨b, 3, none⟩ = some (.int .u32 l)) :
    Calls Try.prog 23 #[.pointer (some ⟨b, 0, none⟩)] w fun e w' => e = .returned (P2 o l) ∧ (((w.alloc (C2 o l)).alloc (C2 o l)).alloc (C2 o l)).alloc (C2 o l) = w' := by
  have g0 := later h0
  have g1 := later h1
  go_enter Try.func23, Try.ntmps23
  go_wp2_with fail
  refine (add_bad _ _ _ _ hv).mono ?_
  rintro e w1 ⟨rfl, rfl⟩
  clear g0 g1 h0 h1
  go_wp2
  exact bodyPost_ret (v := P2 o l) (by simp [results, Try.results23, go_sem]) rfl ⟨rfl, rfl⟩

set_option maxHeartbeats 1000000 in
theorem agree_law (lo ll ro rl : Int) (w : World) (a0 : 0 ≤ lo) (a1 : lo < 4294967296) (b0 : 0 ≤ ll) (b1 : ll < 4294967296) (c0 : 0 ≤ ro) (c1 : ro < 4294967296) (d0 : 0 ≤ rl) (d1 : rl < 4294967296) :
    Calls Try.prog 5 #[.int .u32 lo, .int .u32 ll, .int .u32 ro, .int .u32 rl] w fun e w' => e = .returned (.bool true) ∧ Below w.heap.size w w' := by
  cases r1 : reachB lo ll
  · go_enter Try.func5, Try.ntmps5
    go_wp2_with (go_at_call 15; refine (reach_any _ _ _).mono ?_; rintro e w' ⟨rfl, rfl⟩)
    go_ret
    exact ⟨rfl, Below.refl _ _⟩
  · cases r2 : reachB ro rl
    · go_enter Try.func5, Try.ntmps5
      go_wp2_with (go_at_call 15; refine (reach_any _ _ _).mono ?_; rintro e w' ⟨rfl, rfl⟩)
      go_ret
      exact ⟨rfl, Below.refl _ _⟩
    · cases hv : validB ro rl
      · go_enter Try.func5, Try.ntmps5
        go_wp2_with (first | (go_at_call 15; refine (reach_any _ _ _).mono ?_; rintro e w' ⟨rfl, rfl⟩) | (go_at_call 16; refine (mk_any _ _ _).mono ?_; rintro e w' ⟨rfl, rfl⟩) | (go_at_call 18; refine (subPos _ lo ll _ ?_ ?_).mono ?_; (focus (go_simp; done)); (focus (go_simp; done)); rintro e w' ⟨rfl, rfl⟩) | (go_at_call 22; refine (blkPos _ lo ll _ ?_ ?_).mono ?_; (focus (go_simp; done)); (focus (go_simp; done)); rintro e w' ⟨rfl, rfl⟩) | (go_at_call 17; refine (subEnd_bad _ ro rl _ hv ?_ ?_).mono ?_; (focus (go_simp; done)); (focus (go_simp; done)); rintro e w' ⟨rfl, rfl⟩) | (go_at_call 23; refine (blkEnd_bad _ ro rl _ hv ?_ ?_).mono ?_; (focus (go_simp; done)); (focus (go_simp; done)); rintro e w' ⟨rfl, rfl⟩))
        go_ret
        refine ⟨rfl, ?_⟩
        repeat (with_reducible refine balloc ?_ _)
        exact Below.refl _ _
      · go_enter Try.func5, Try.ntmps5
        go_wp2_with (first | (go_at_call 15; refine (reach_any _ _ _).mono ?_; rintro e w' ⟨rfl, rfl⟩) | (go_at_call 16; refine (mk_any _ _ _).mono ?_; rintro e w' ⟨rfl, rfl⟩) | (go_at_call 18; refine (subPos _ lo ll _ ?_ ?_).mono ?_; (focus (go_simp; done)); (focus (go_simp; done)); rintro e w' ⟨rfl, rfl⟩) | (go_at_call 22; refine (blkPos _ lo ll _ ?_ ?_).mono ?_; (focus (go_simp; done)); (focus (go_simp; done)); rintro e w' ⟨rfl, rfl⟩) | (go_at_call 17; refine (subEnd_ok _ ro rl _ hv c0 d0 d1 ?_ ?_).mono ?_; (focus (go_simp; done)); (focus (go_simp; done)); rintro e w' ⟨rfl, rfl⟩) | (go_at_call 23; refine (blkEnd_ok _ ro rl _ hv c0 d0 d1 ?_ ?_).mono ?_; (focus (go_simp; done)); (focus (go_simp; done)); rintro e w' ⟨rfl, rfl⟩))
        go_ret
        refine ⟨rfl, ?_⟩
        repeat (with_reducible refine balloc ?_ _)
        exact Below.refl _ _

theorem gen {P : Program} {c : Code} {Q : Exit → Act → World → Prop} {a : Act} {W : World} (S : World → Prop) (h : S W) (k : ∀ W, S W → c.wp P Q a W) : c.wp P Q a W := k W h
theorem blater {w w' : World} {p : Addr} {v : Value} (hb : Below w.heap.size w w') (h : w.cell? p = some v) : w'.cell? p = some v := (hb.cell (World.block_lt_of_cell? w _ h)).trans h
theorem span_facts (lo ll ro rl : Int) (h : lo ≤ ro) (c0 : 0 ≤ ro) (hr : ro < 4294967284) (d0 : 0 ≤ rl) (d1 : rl < 4294967296) (hl : rl / 16384 ≠ 0) :
    validB ro rl = true ∧ validB (addO ro rl 1) (addL ro rl 1) = true ∧ afterB (addO ro rl 1) (addL ro rl 1) lo = true ∧ afterB lo ll (addO ro rl 1) = false ∧
    addL ro rl 1 / 16384 = rl / 16384 ∧ offI (addO ro rl 1) = offI ro + 1 ∧ 0 ≤ addO ro rl 1 ∧ addO ro rl 1 < 4294967296 ∧ 0 ≤ addL ro rl 1 ∧ addL ro rl 1 < 4294967296 ∧ offI ro = ro := by
  have hv : validB ro rl = true := by simp [validB]; omega
  have eo : addO ro rl 1 = ro + 1 := by unfold addO; rw [if_pos hv]; omega
  have hc : 0 ≤ colI rl 1 ∧ colI rl 1 ≤ 16383 := by unfold colI; split <;> omega
  have el : addL ro rl 1 = rl - rl % 16384 + colI rl 1 := by unfold addL; rw [if_pos hv]
  have hq : addL ro rl 1 / 16384 = rl / 16384 := by rw [el]; omega
  have hv2 : validB (addO ro rl 1) (addL ro rl 1) = true := by rw [eo]; simp [validB]; omega
  have e1 : offI (ro + 1) = ro + 1 := by unfold offI; rw [if_neg (by omega)]
  have e2 : offI ro = ro := by unfold offI; rw [if_neg (by omega)]
  refine ⟨hv, hv2, ?_, ?_, hq, by rw [eo, e1, e2], by omega, by omega, by rw [el]; omega, by rw [el]; omega, e2⟩
  · unfold afterB; rw [hv2, eo]; simp; omega
  · unfold afterB; rw [eo]; simp; omega

set_option maxHeartbeats 2000000 in
theorem forward_in (lo ll ro rl : Int) (w : World) (a0 : 0 ≤ lo) (a1 : lo < 4294967296) (b0 : 0 ≤ ll) (b1 : ll < 4294967296) (c0 : 0 ≤ ro) (c1 : ro < 4294967296) (d0 : 0 ≤ rl) (d1 : rl < 4294967296)
    (r1 : reachB lo ll = true) (r2 : reachB ro rl = true) (hr : ro < 4294967284) (hl : (rl / 16384 == 0) = false) (h : lo ≤ ro) :
    Calls Try.prog 4 #[.int .u32 lo, .int .u32 ll, .int .u32 ro, .int .u32 rl] w fun e w' => e = .returned (.bool true) ∧ Below w.heap.size w w' := by
  obtain ⟨hv, v2, af, na, ln, of_, e0, e1, e2, e3, e4⟩ := span_facts lo ll ro rl h c0 hr d0 d1 (by simpa using hl)
  go_enter Try.func4, Try.ntmps4
  go_wp2_with (first | (go_at_call 15; refine (reach_any _ _ _).mono ?_; rintro e w' ⟨rfl, rfl⟩) | (go_at_call 16; refine (mk_any _ _ _).mono ?_; rintro e w' ⟨rfl, rfl⟩) | (go_at_call 18; refine (subPos _ lo ll _ ?_ ?_).mono ?_; (focus (go_simp; done)); (focus (go_simp; done)); rintro e w' ⟨rfl, rfl⟩) | (go_at_call 22; refine (blkPos _ lo ll _ ?_ ?_).mono ?_; (focus (go_simp; done)); (focus (go_simp; done)); rintro e w' ⟨rfl, rfl⟩) | (go_at_call 17; refine (subEnd_ok _ ro rl _ hv c0 d0 d1 ?_ ?_).mono ?_; (focus (go_simp; done)); (focus (go_simp; done)); rintro e w' ⟨rfl, rfl⟩) | (go_at_call 23; refine (blkEnd_ok _ ro rl _ hv c0 d0 d1 ?_ ?_).mono ?_; (focus (go_simp; done)); (focus (go_simp; done)); rintro e w' ⟨rfl, rfl⟩) | (go_at_call 19; refine (valid_x _ _ _).mono ?_; rintro e w' ⟨rfl, rfl⟩) | (go_at_call 13; refine (after_x _ _ _ _ _).mono ?_; rintro e w' ⟨rfl, rfl⟩) | (go_at_call 20; refine (line_x _ _ _ ?_ ?_).mono ?_; (focus (assumption)); (focus (assumption)); rintro e w' ⟨rfl, rfl⟩) | (go_at_call 21; refine (off_x _ _ _ ?_ ?_).mono ?_; (focus (assumption)); (focus (assumption)); rintro e w' ⟨rfl, rfl⟩))
  go_region_held3 (fun w' => w'.cell? ⟨w.heap.size + 1, 0, none⟩ = some (.int .u32 ro) ∧ w'.cell? ⟨w.heap.size + 1, 1, none⟩ = some (.int .u32 rl)) (go_keep) (first | (go_at_call 15; refine (reach_any _ _ _).mono ?_; rintro e w' ⟨rfl, rfl⟩) | (go_at_call 16; refine (mk_any _ _ _).mono ?_; rintro e w' ⟨rfl, rfl⟩) | (go_at_call 18; refine (subPos _ lo ll _ ?_ ?_).mono ?_; (focus (go_simp; done)); (focus (go_simp; done)); rintro e w' ⟨rfl, rfl⟩) | (go_at_call 22; refine (blkPos _ lo ll _ ?_ ?_).mono ?_; (focus (go_simp; done)); (focus (go_simp; done)); rintro e w' ⟨rfl, rfl⟩) | (go_at_call 17; refine (subEnd_ok _ ro rl _ hv c0 d0 d1 ?_ ?_).mono ?_; (focus (go_simp; done)); (focus (go_simp; done)); rintro e w' ⟨rfl, rfl⟩) | (go_at_call 23; refine (blkEnd_ok _ ro rl _ hv c0 d0 d1 ?_ ?_).mono ?_; (focus (go_simp; done)); (focus (go_simp; done)); rintro e w' ⟨rfl, rfl⟩) | (go_at_call 19; refine (valid_x _ _ _).mono ?_; rintro e w' ⟨rfl, rfl⟩) | (go_at_call 13; refine (after_x _ _ _ _ _).mono ?_; rintro e w' ⟨rfl, rfl⟩) | (go_at_call 20; refine (line_x _ _ _ ?_ ?_).mono ?_; (focus (assumption)); (focus (assumption)); rintro e w' ⟨rfl, rfl⟩) | (go_at_call 21; refine (off_x _ _ _ ?_ ?_).mono ?_; (focus (assumption)); (focus (assumption)); rintro e w' ⟨rfl, rfl⟩))
  go_wp2_with (first | (go_at_call 15; refine (reach_any _ _ _).mono ?_; rintro e w' ⟨rfl, rfl⟩) | (go_at_call 16; refine (mk_any _ _ _).mono ?_; rintro e w' ⟨rfl, rfl⟩) | (go_at_call 18; refine (subPos _ lo ll _ ?_ ?_).mono ?_; (focus (go_simp; done)); (focus (go_simp; done)); rintro e w' ⟨rfl, rfl⟩) | (go_at_call 22; refine (blkPos _ lo ll _ ?_ ?_).mono ?_; (focus (go_simp; done)); (focus (go_simp; done)); rintro e w' ⟨rfl, rfl⟩) | (go_at_call 17; refine (subEnd_ok _ ro rl _ hv c0 d0 d1 ?_ ?_).mono ?_; (focus (go_simp; done)); (focus (go_simp; done)); rintro e w' ⟨rfl, rfl⟩) | (go_at_call 23; refine (blkEnd_ok _ ro rl _ hv c0 d0 d1 ?_ ?_).mono ?_; (focus (go_simp; done)); (focus (go_simp; done)); rintro e w' ⟨rfl, rfl⟩) | (go_at_call 19; refine (valid_x _ _ _).mono ?_; rintro e w' ⟨rfl, rfl⟩) | (go_at_call 13; refine (after_x _ _ _ _ _).mono ?_; rintro e w' ⟨rfl, rfl⟩) | (go_at_call 20; refine (line_x _ _ _ ?_ ?_).mono ?_; (focus (assumption)); (focus (assumption)); rintro e w' ⟨rfl, rfl⟩) | (go_at_call 21; refine (off_x _ _ _ ?_ ?_).mono ?_; (focus (assumption)); (focus (assumption)); rintro e w' ⟨rfl, rfl⟩))
  refine gen (fun W => Below w.heap.size w W ∧ W.cell? ⟨w.heap.size + 1, 0, none⟩ = some (.int .u32 ro) ∧ W.cell? ⟨w.heap.size + 1, 1, none⟩ = some (.int .u32 rl) ∧ W.cell? ⟨w.heap.size + 1 + 1 + 1 + 1 + 1 + 1 + 1 + 1 + 1, 0, none⟩ = some (.int .u32 (addO ro rl 1)) ∧ W.cell? ⟨w.heap.size + 1 + 1 + 1 + 1 + 1 + 1 + 1 + 1 + 1, 1, none⟩ = some (.int .u32 (addL ro rl 1)) ∧ W.cell? ⟨w.heap.size + 1 + 1 + 1 + 1 + 1 + 1 + 1 + 1 + 1 + 1 + 1, 0, none⟩ = some (.int .u32 lo) ∧ W.cell? ⟨w.heap.size + 1 + 1 + 1 + 1 + 1 + 1 + 1 + 1 + 1 + 1 + 1, 1, none⟩ = some (.int .u32 ll)) ?_ ?_
  · refine ⟨?_, ?_, ?_, ?_, ?_, ?_, ?_⟩
    · refine Below.drew ?_
      repeat (with_reducible refine balloc ?_ _)
      exact Below.refl _ _
    all_goals go_simp
  rintro W ⟨hB, k0, k1, k2, k3, k4, k5⟩
  go_region_held3 (fun w' => w'.cell? ⟨w.heap.size + 1, 0, none⟩ = some (.int .u32 ro) ∧ w'.cell? ⟨w.heap.size + 1, 1, none⟩ = some (.int .u32 rl) ∧ w'.cell? ⟨w.heap.size + 1 + 1 + 1 + 1 + 1 + 1 + 1 + 1 + 1, 0, none⟩ = some (.int .u32 (addO ro rl 1)) ∧ w'.cell? ⟨w.heap.size + 1 + 1 + 1 + 1 + 1 + 1 + 1 + 1 + 1, 1, none⟩ = some (.int .u32 (addL ro rl 1)) ∧ w'.cell? ⟨w.heap.size + 1 + 1 + 1 + 1 + 1 + 1 + 1 + 1 + 1 + 1 + 1, 0, none⟩ = some (.int .u32 lo) ∧ w'.cell? ⟨w.heap.size + 1 + 1 + 1 + 1 + 1 + 1 + 1 + 1 + 1 + 1 + 1, 1, none⟩ = some (.int .u32 ll)) (first | go_keep | (go_split_ands; refine ⟨blater hb ?_, blater hb ?_, blater hb ?_, blater hb ?_, blater hb ?_, blater hb ?_⟩ <;> assumption)) (first | (go_at_call 19; refine (valid_any _ _ _).mono ?_; rintro e w' ⟨rfl, hb⟩) | (go_at_call 13; refine (after_any _ _ _ _ _).mono ?_; rintro e w' ⟨rfl, hb⟩) | (go_at_call 20; refine (line_any _ _ _ ?_ ?_).mono ?_; (focus (assumption)); (focus (assumption)); rintro e w' ⟨rfl, hb⟩) | (go_at_call 21; refine (off_any _ _ _ ?_ ?_).mono ?_; (focus (assumption)); (focus (assumption)); rintro e w' ⟨rfl, hb⟩))
  go_wp2
  go_ret
  refine ⟨ret_bool (by rw [IntKind.wrap_u64]; simp; omega), ?_⟩
  repeat (first | assumption | exact hB.drew | refine btrans ?_ (by assumption))

theorem forward_law (lo ll ro rl : Int) (w : World) (a0 : 0 ≤ lo) (a1 : lo < 4294967296) (b0 : 0 ≤ ll) (b1 : ll < 4294967296) (c0 : 0 ≤ ro) (c1 : ro < 4294967296) (d0 : 0 ≤ rl) (d1 : rl < 4294967296) :
    Calls Try.prog 4 #[.int .u32 lo, .int .u32 ll, .int .u32 ro, .int .u32 rl] w fun e w' => e = .returned (.bool true) ∧ Below w.heap.size w w' := by
  cases r1 : reachB lo ll
  · go_enter Try.func4, Try.ntmps4
    go_wp2_with (go_at_call 15; refine (reach_any _ _ _).mono ?_; rintro e w' ⟨rfl, rfl⟩)
    go_ret
    exact ⟨rfl, Below.refl _ _⟩
  · cases r2 : reachB ro rl
    · go_enter Try.func4, Try.ntmps4
      go_wp2_with (go_at_call 15; refine (reach_any _ _ _).mono ?_; rintro e w' ⟨rfl, rfl⟩)
      go_ret
      exact ⟨rfl, Below.refl _ _⟩
    · by_cases hr : ro < 4294967284
      · cases hl : (rl / 16384 == 0)
        · by_cases h : lo ≤ ro
          · exact forward_in lo ll ro rl w a0 a1 b0 b1 c0 c1 d0 d1 r1 r2 hr hl h
          · go_enter Try.func4, Try.ntmps4
            go_wp2_with (go_at_call 15; refine (reach_any _ _ _).mono ?_; rintro e w' ⟨rfl, rfl⟩)
            go_ret
            exact ⟨rfl, Below.refl _ _⟩
        · go_enter Try.func4, Try.ntmps4
          go_wp2_with (go_at_call 15; refine (reach_any _ _ _).mono ?_; rintro e w' ⟨rfl, rfl⟩)
          go_ret
          exact ⟨rfl, Below.refl _ _⟩
      · go_enter Try.func4, Try.ntmps4
        go_wp2_with (go_at_call 15; refine (reach_any _ _ _).mono ?_; rintro e w' ⟨rfl, rfl⟩)
        go_ret
        exact ⟨rfl, Below.refl _ _⟩
end Go.Proofs.Ytagbccphgiegeab
