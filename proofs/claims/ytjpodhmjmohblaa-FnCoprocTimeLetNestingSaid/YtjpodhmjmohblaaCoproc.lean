/- The walk of the law FnCoprocTimeLetNesting: it returns true at every input. -/
import Derived.Test.YtjpodhmjmohblaaCoprocK
namespace Go.Proofs.Ytjpodhmjmohblaa
open Go.RowKit
set_option linter.unusedVariables false
attribute [local go_sem ↓] Go.wp_at_zero Go.wp_at_succ

set_option maxHeartbeats 4000000 in
theorem cop_in (co cl : Int) (lo ll : Int) (io il : Int) (eo el : Int) (w : World) (co0 : 0 ≤ co) (co1 : co < 4294967296) (cl0 : 0 ≤ cl) (cl1 : cl < 4294967296) (lo0 : 0 ≤ lo) (lo1 : lo < 4294967296) (ll0 : 0 ≤ ll) (ll1 : ll < 4294967296) (io0 : 0 ≤ io) (io1 : io < 4294967296) (il0 : 0 ≤ il) (il1 : il < 4294967296) (eo0 : 0 ≤ eo) (eo1 : eo < 4294967296) (el0 : 0 ≤ el) (el1 : el < 4294967296) (r1 : reachB co cl = true) (r2 : reachB lo ll = true) (r3 : reachB io il = true) (r4 : reachB eo el = true) (h1 : co ≤ lo) (h2 : lo ≤ io) (h3 : io ≤ eo) : Calls Try.prog 8 #[.int .u32 co, .int .u32 cl, .int .u32 lo, .int .u32 ll, .int .u32 io, .int .u32 il, .int .u32 eo, .int .u32 el] w fun e w' => e = .returned (.bool true) ∧ Below w.heap.size w w' := by
  have af1 : afterB co cl eo = false := by unfold afterB; simp; omega
  have af2 : afterB lo ll eo = false := by unfold afterB; simp; omega
  go_enter Try.func8, Try.ntmps8
  go_wp2_with (first | (go_at_call 42; refine (reach53 _ _ _).mono ?_; rintro e w' ⟨rfl, rfl⟩) | (go_at_call 43; refine (mk53 _ _ _).mono ?_; rintro e w' ⟨rfl, rfl⟩) | (go_at_call 44; refine (newLet_x _ _ _).mono ?_; rintro e w' ⟨rfl, rfl⟩))
  refine gen (fun W => Below w.heap.size w W ∧ W.cell? ⟨w.heap.size + 1, 0, none⟩ = some (.int .u32 co) ∧ W.cell? ⟨w.heap.size + 1, 1, none⟩ = some (.int .u32 cl) ∧ W.cell? ⟨w.heap.size + 1 + 1 + 1, 0, none⟩ = some (.int .u32 lo) ∧ W.cell? ⟨w.heap.size + 1 + 1 + 1, 1, none⟩ = some (.int .u32 ll) ∧ W.cell? ⟨w.heap.size + 1 + 1 + 1 + 1 + 1, 0, none⟩ = some (.int .u32 eo) ∧ W.cell? ⟨w.heap.size + 1 + 1 + 1 + 1 + 1, 1, none⟩ = some (.int .u32 el) ∧ W.cell? ⟨w.heap.size + 1 + 1 + 1 + 1 + 1 + 1 + 1, 0, none⟩ = some (.int .u32 lo) ∧ W.cell? ⟨w.heap.size + 1 + 1 + 1 + 1 + 1 + 1 + 1, 1, none⟩ = some (.int .u32 ll) ∧ W.cell? ⟨w.heap.size + 1 + 1 + 1 + 1 + 1 + 1 + 1, 2, none⟩ = some (.slice none 0 0) ∧ W.frozen? ⟨w.heap.size + 1 + 1 + 1 + 1 + 1 + 1 + 1, 2, none⟩ = false) ?_ ?_
  · refine ⟨?_, ?_, ?_, ?_, ?_, ?_, ?_, ?_, ?_, ?_, ?_⟩
    · repeat (first | (with_reducible refine Below.drew ?_) | (with_reducible refine balloc ?_ _))
      exact Below.refl _ _
    all_goals go_simp
  rintro W ⟨hB, k0, k1, k2, k3, k4, k5, k6, k7, kz, fz⟩
  go_region_with (first | (go_at_call 43; refine (mk53_any _ _ _).mono ?_; rintro e w' ⟨rfl, hb⟩; replace k0 := blater hb k0; replace k1 := blater hb k1; replace k2 := blater hb k2; replace k3 := blater hb k3; replace k4 := blater hb k4; replace k5 := blater hb k5; replace k6 := blater hb k6; replace k7 := blater hb k7; replace fz := bfro2 hb kz fz; replace kz := blater hb kz; replace hB := btrans (Below.drew hB) hb; clear hb) | (go_at_call 45; refine (letApp _ _ _ _ _ _ kz fz).mono ?_; rintro e w9 ⟨rfl, ⟨g, c, q, a1, a2, E⟩, hgr, hsame⟩; replace k0 := glater hgr (by simp) k0; replace k1 := glater hgr (by simp) k1; replace k2 := glater hgr (by simp) k2; replace k3 := glater hgr (by simp) k3; replace k4 := glater hgr (by simp) k4; replace k5 := glater hgr (by simp) k5; replace k6 := hsame _ _ (by decide) k6; replace k7 := hsame _ _ (by decide) k7; replace hB := Below.grown hB hgr hB.size (by intro g hg; injection hg; omega); clear hgr hsame kz fz))
  all_goals
    obtain ⟨B, hBB⟩ : ∃ B, B = w9.heap.size := ⟨_, rfl⟩
    have HBB := Lib.hid hBB
    clear hBB
    have g0 := later k0
    have g1 := later k1
    have gg0 := fun o1 o2 => later (g0 o1) o2
    have gg1 := fun o1 o2 => later (g1 o1) o2
    have ggg0 := fun o1 o2 o3 => later (gg0 o1 o2) o3
    have ggg1 := fun o1 o2 o3 => later (gg1 o1 o2) o3
    go_wp2_with (first | (go_at_call 46; refine (newStmt_x _ _ _ _).mono ?_; rintro e w' ⟨rfl, rfl⟩))
    refine gen (fun W => Below w.heap.size w W ∧ W.cell? ⟨w.heap.size + 1, 0, none⟩ = some (.int .u32 co) ∧ W.cell? ⟨w.heap.size + 1, 1, none⟩ = some (.int .u32 cl) ∧ W.cell? ⟨w.heap.size + 1 + 1 + 1, 0, none⟩ = some (.int .u32 lo) ∧ W.cell? ⟨w.heap.size + 1 + 1 + 1, 1, none⟩ = some (.int .u32 ll) ∧ W.cell? ⟨w.heap.size + 1 + 1 + 1 + 1 + 1, 0, none⟩ = some (.int .u32 eo) ∧ W.cell? ⟨w.heap.size + 1 + 1 + 1 + 1 + 1, 1, none⟩ = some (.int .u32 el) ∧ W.cell? ⟨w.heap.size + 1 + 1 + 1 + 1 + 1 + 1 + 1, 0, none⟩ = some (.int .u32 lo) ∧ W.cell? ⟨w.heap.size + 1 + 1 + 1 + 1 + 1 + 1 + 1, 1, none⟩ = some (.int .u32 ll) ∧ W.cell? ⟨B + 1 + 1, 0, none⟩ = some (.int .u32 co) ∧ W.cell? ⟨B + 1 + 1, 1, none⟩ = some (.int .u32 cl) ∧ W.cell? ⟨B + 1 + 1, 3, none⟩ = some (.pointer (some ⟨B + 1, 0, none⟩)) ∧ W.cell? ⟨B + 1 + 1 + 1, 3, none⟩ = some (.pointer (some ⟨B + 1, 0, none⟩)) ∧ StmtEnds W (B + 1) eo el) ?_ ?_
    · rw [HBB.out]
      have hch := fun o1 o2 o3 o4 => balloc (balloc (balloc (balloc (Below.refl w9.heap.size w9) o1) o2) o3) o4
      refine ⟨btrans hB (hch _ _ _ _), blater (hch _ _ _ _) k0, blater (hch _ _ _ _) k1, blater (hch _ _ _ _) k2, blater (hch _ _ _ _) k3, blater (hch _ _ _ _) k4, blater (hch _ _ _ _) k5, blater (hch _ _ _ _) k6, blater (hch _ _ _ _) k7, by go_simp, by go_simp, by go_simp, by go_simp, fun V hV => ?_⟩
      exact stmtEnd _ (w.heap.size + 1 + 1 + 1 + 1 + 1 + 1 + 1) g c q lo ll eo el V (blater hV (by go_simp)) (blater hV (by go_simp)) (blater hV (by go_simp)) (blater hV (by go_simp)) (blater hV (by go_simp)) (blater hV (by go_simp)) (blater hV (by go_simp)) (blater hV (blater (hch _ _ _ _) a1)) (blater hV (blater (hch _ _ _ _) a2)) (E.later (btrans (hch _ _ _ _) hV))
    clear hB k0 k1 k2 k3 k4 k5 k6 k7 a1 a2 E g0 g1 gg0 gg1 ggg0 ggg1
    rintro V ⟨hB, k0, k1, k2, k3, k4, k5, k6, k7, m0, m1, m2, m3, E⟩
    rw [← HBB.out]
    go_region_held3 (fun w' => Below w.heap.size w w' ∧ w'.cell? ⟨w.heap.size + 1, 0, none⟩ = some (.int .u32 co) ∧ w'.cell? ⟨w.heap.size + 1, 1, none⟩ = some (.int .u32 cl) ∧ w'.cell? ⟨w.heap.size + 1 + 1 + 1, 0, none⟩ = some (.int .u32 lo) ∧ w'.cell? ⟨w.heap.size + 1 + 1 + 1, 1, none⟩ = some (.int .u32 ll) ∧ w'.cell? ⟨w.heap.size + 1 + 1 + 1 + 1 + 1, 0, none⟩ = some (.int .u32 eo) ∧ w'.cell? ⟨w.heap.size + 1 + 1 + 1 + 1 + 1, 1, none⟩ = some (.int .u32 el) ∧ w'.cell? ⟨w.heap.size + 1 + 1 + 1 + 1 + 1 + 1 + 1, 0, none⟩ = some (.int .u32 lo) ∧ w'.cell? ⟨w.heap.size + 1 + 1 + 1 + 1 + 1 + 1 + 1, 1, none⟩ = some (.int .u32 ll) ∧ w'.cell? ⟨B + 1 + 1, 0, none⟩ = some (.int .u32 co) ∧ w'.cell? ⟨B + 1 + 1, 1, none⟩ = some (.int .u32 cl) ∧ w'.cell? ⟨B + 1 + 1, 3, none⟩ = some (.pointer (some ⟨B + 1, 0, none⟩)) ∧ w'.cell? ⟨B + 1 + 1 + 1, 3, none⟩ = some (.pointer (some ⟨B + 1, 0, none⟩)) ∧ StmtEnds w' (B + 1) eo el) ((go_split_ands; (refine ⟨?_, ?_, ?_, ?_, ?_, ?_, ?_, ?_, ?_, ?_, ?_, ?_, ?_, ?_⟩) <;> (first | assumption | (with_reducible refine Below.drew ?_; assumption) | (with_reducible refine StmtEnds.drew ?_; assumption) | (with_reducible refine btrans ?_ hb; assumption) | (with_reducible refine blater hb ?_; assumption) | (with_reducible refine StmtEnds.later hb ?_; assumption)))) (first | (go_at_call 47; go_split_ands; refine (letPos_any _ lo ll _ ?_ ?_).mono ?_; (focus assumption); (focus assumption); rintro e w' ⟨rfl, hb⟩) | (go_at_call 48; go_split_ands; refine (copPos_any _ co cl _ ?_ ?_).mono ?_; (focus assumption); (focus assumption); rintro e w' ⟨rfl, hb⟩))
    clear hB k0 k1 k2 k3 k4 k5 k6 k7 m0 m1 m2 m3 E
    obtain ⟨hB, k0, k1, k2, k3, k4, k5, k6, k7, m0, m1, m2, m3, E⟩ : Below w.heap.size w w' ∧ w'.cell? ⟨w.heap.size + 1, 0, none⟩ = some (.int .u32 co) ∧ w'.cell? ⟨w.heap.size + 1, 1, none⟩ = some (.int .u32 cl) ∧ w'.cell? ⟨w.heap.size + 1 + 1 + 1, 0, none⟩ = some (.int .u32 lo) ∧ w'.cell? ⟨w.heap.size + 1 + 1 + 1, 1, none⟩ = some (.int .u32 ll) ∧ w'.cell? ⟨w.heap.size + 1 + 1 + 1 + 1 + 1, 0, none⟩ = some (.int .u32 eo) ∧ w'.cell? ⟨w.heap.size + 1 + 1 + 1 + 1 + 1, 1, none⟩ = some (.int .u32 el) ∧ w'.cell? ⟨w.heap.size + 1 + 1 + 1 + 1 + 1 + 1 + 1, 0, none⟩ = some (.int .u32 lo) ∧ w'.cell? ⟨w.heap.size + 1 + 1 + 1 + 1 + 1 + 1 + 1, 1, none⟩ = some (.int .u32 ll) ∧ w'.cell? ⟨B + 1 + 1, 0, none⟩ = some (.int .u32 co) ∧ w'.cell? ⟨B + 1 + 1, 1, none⟩ = some (.int .u32 cl) ∧ w'.cell? ⟨B + 1 + 1, 3, none⟩ = some (.pointer (some ⟨B + 1, 0, none⟩)) ∧ w'.cell? ⟨B + 1 + 1 + 1, 3, none⟩ = some (.pointer (some ⟨B + 1, 0, none⟩)) ∧ StmtEnds w' (B + 1) eo el := by assumption
    go_wp2_with fail
    go_region_held3 (fun w' => Below w.heap.size w w' ∧ w'.cell? ⟨w.heap.size + 1, 0, none⟩ = some (.int .u32 co) ∧ w'.cell? ⟨w.heap.size + 1, 1, none⟩ = some (.int .u32 cl) ∧ w'.cell? ⟨w.heap.size + 1 + 1 + 1, 0, none⟩ = some (.int .u32 lo) ∧ w'.cell? ⟨w.heap.size + 1 + 1 + 1, 1, none⟩ = some (.int .u32 ll) ∧ w'.cell? ⟨w.heap.size + 1 + 1 + 1 + 1 + 1, 0, none⟩ = some (.int .u32 eo) ∧ w'.cell? ⟨w.heap.size + 1 + 1 + 1 + 1 + 1, 1, none⟩ = some (.int .u32 el) ∧ w'.cell? ⟨w.heap.size + 1 + 1 + 1 + 1 + 1 + 1 + 1, 0, none⟩ = some (.int .u32 lo) ∧ w'.cell? ⟨w.heap.size + 1 + 1 + 1 + 1 + 1 + 1 + 1, 1, none⟩ = some (.int .u32 ll) ∧ w'.cell? ⟨B + 1 + 1, 0, none⟩ = some (.int .u32 co) ∧ w'.cell? ⟨B + 1 + 1, 1, none⟩ = some (.int .u32 cl) ∧ w'.cell? ⟨B + 1 + 1, 3, none⟩ = some (.pointer (some ⟨B + 1, 0, none⟩)) ∧ w'.cell? ⟨B + 1 + 1 + 1, 3, none⟩ = some (.pointer (some ⟨B + 1, 0, none⟩)) ∧ StmtEnds w' (B + 1) eo el) ((go_split_ands; (refine ⟨?_, ?_, ?_, ?_, ?_, ?_, ?_, ?_, ?_, ?_, ?_, ?_, ?_, ?_⟩) <;> (first | assumption | (with_reducible refine Below.drew ?_; assumption) | (with_reducible refine StmtEnds.drew ?_; assumption) | (with_reducible refine btrans ?_ hb; assumption) | (with_reducible refine blater hb ?_; assumption) | (with_reducible refine StmtEnds.later hb ?_; assumption)))) (first | (go_at_call 49; go_split_ands; refine (copEnd _ (B + 1) eo el _ ?_ ?_).mono ?_; (focus assumption); (focus assumption); rintro e w' ⟨rfl, hb⟩) | (go_at_call 50; go_split_ands; refine (timeEnd _ (B + 1) eo el _ ?_ ?_).mono ?_; (focus assumption); (focus assumption); rintro e w' ⟨rfl, hb⟩))
    clear hB k0 k1 k2 k3 k4 k5 k6 k7 m0 m1 m2 m3 E
    obtain ⟨hB, k0, k1, k2, k3, k4, k5, k6, k7, m0, m1, m2, m3, E⟩ : Below w.heap.size w w' ∧ w'.cell? ⟨w.heap.size + 1, 0, none⟩ = some (.int .u32 co) ∧ w'.cell? ⟨w.heap.size + 1, 1, none⟩ = some (.int .u32 cl) ∧ w'.cell? ⟨w.heap.size + 1 + 1 + 1, 0, none⟩ = some (.int .u32 lo) ∧ w'.cell? ⟨w.heap.size + 1 + 1 + 1, 1, none⟩ = some (.int .u32 ll) ∧ w'.cell? ⟨w.heap.size + 1 + 1 + 1 + 1 + 1, 0, none⟩ = some (.int .u32 eo) ∧ w'.cell? ⟨w.heap.size + 1 + 1 + 1 + 1 + 1, 1, none⟩ = some (.int .u32 el) ∧ w'.cell? ⟨w.heap.size + 1 + 1 + 1 + 1 + 1 + 1 + 1, 0, none⟩ = some (.int .u32 lo) ∧ w'.cell? ⟨w.heap.size + 1 + 1 + 1 + 1 + 1 + 1 + 1, 1, none⟩ = some (.int .u32 ll) ∧ w'.cell? ⟨B + 1 + 1, 0, none⟩ = some (.int .u32 co) ∧ w'.cell? ⟨B + 1 + 1, 1, none⟩ = some (.int .u32 cl) ∧ w'.cell? ⟨B + 1 + 1, 3, none⟩ = some (.pointer (some ⟨B + 1, 0, none⟩)) ∧ w'.cell? ⟨B + 1 + 1 + 1, 3, none⟩ = some (.pointer (some ⟨B + 1, 0, none⟩)) ∧ StmtEnds w' (B + 1) eo el := by assumption
    go_wp2_with (first | (go_at_call 48; refine (copPos_any _ co cl _ m0 m1).mono ?_; rintro e w' ⟨rfl, hb⟩; replace k0 := blater hb k0; replace k1 := blater hb k1; replace k2 := blater hb k2; replace k3 := blater hb k3; replace k4 := blater hb k4; replace k5 := blater hb k5; replace k6 := blater hb k6; replace k7 := blater hb k7; replace m0 := blater hb m0; replace m1 := blater hb m1; replace m2 := blater hb m2; replace m3 := blater hb m3; replace E := StmtEnds.later hb E; replace hB := btrans hB hb; clear hb) | (go_at_call 49; refine (copEnd _ (B + 1) eo el _ m2 E).mono ?_; rintro e w' ⟨rfl, hb⟩; replace k0 := blater hb k0; replace k1 := blater hb k1; replace k2 := blater hb k2; replace k3 := blater hb k3; replace k4 := blater hb k4; replace k5 := blater hb k5; replace k6 := blater hb k6; replace k7 := blater hb k7; replace m0 := blater hb m0; replace m1 := blater hb m1; replace m2 := blater hb m2; replace m3 := blater hb m3; replace E := StmtEnds.later hb E; replace hB := btrans hB hb; clear hb) | (go_at_call 24; refine (after_any _ _ _ _ _).mono ?_; rintro e w' ⟨rfl, hb⟩; replace k0 := blater hb k0; replace k1 := blater hb k1; replace k2 := blater hb k2; replace k3 := blater hb k3; replace k4 := blater hb k4; replace k5 := blater hb k5; replace k6 := blater hb k6; replace k7 := blater hb k7; replace m0 := blater hb m0; replace m1 := blater hb m1; replace m2 := blater hb m2; replace m3 := blater hb m3; replace E := StmtEnds.later hb E; replace hB := btrans hB hb; clear hb) | (go_at_call 47; refine (letPos_any _ lo ll _ k6 k7).mono ?_; rintro e w' ⟨rfl, hb⟩; replace k0 := blater hb k0; replace k1 := blater hb k1; replace k2 := blater hb k2; replace k3 := blater hb k3; replace k4 := blater hb k4; replace k5 := blater hb k5; replace k6 := blater hb k6; replace k7 := blater hb k7; replace m0 := blater hb m0; replace m1 := blater hb m1; replace m2 := blater hb m2; replace m3 := blater hb m3; replace E := StmtEnds.later hb E; replace hB := btrans hB hb; clear hb))
    go_ret
    exact ⟨rfl, hB⟩
theorem cop_law (co cl : Int) (lo ll : Int) (io il : Int) (eo el : Int) (w : World) (co0 : 0 ≤ co) (co1 : co < 4294967296) (cl0 : 0 ≤ cl) (cl1 : cl < 4294967296) (lo0 : 0 ≤ lo) (lo1 : lo < 4294967296) (ll0 : 0 ≤ ll) (ll1 : ll < 4294967296) (io0 : 0 ≤ io) (io1 : io < 4294967296) (il0 : 0 ≤ il) (il1 : il < 4294967296) (eo0 : 0 ≤ eo) (eo1 : eo < 4294967296) (el0 : 0 ≤ el) (el1 : el < 4294967296) : Calls Try.prog 8 #[.int .u32 co, .int .u32 cl, .int .u32 lo, .int .u32 ll, .int .u32 io, .int .u32 il, .int .u32 eo, .int .u32 el] w fun e w' => e = .returned (.bool true) ∧ Below w.heap.size w w' := by
  cases r1 : reachB co cl
  · go_enter Try.func8, Try.ntmps8
    go_wp2_with (go_at_call 42; refine (reach53 _ _ _).mono ?_; rintro e w' ⟨rfl, rfl⟩)
    go_ret
    exact ⟨rfl, Below.refl _ _⟩
  · cases r2 : reachB lo ll
    · go_enter Try.func8, Try.ntmps8
      go_wp2_with (go_at_call 42; refine (reach53 _ _ _).mono ?_; rintro e w' ⟨rfl, rfl⟩)
      go_ret
      exact ⟨rfl, Below.refl _ _⟩
    · cases r3 : reachB io il
      · go_enter Try.func8, Try.ntmps8
        go_wp2_with (go_at_call 42; refine (reach53 _ _ _).mono ?_; rintro e w' ⟨rfl, rfl⟩)
        go_ret
        exact ⟨rfl, Below.refl _ _⟩
      · cases r4 : reachB eo el
        · go_enter Try.func8, Try.ntmps8
          go_wp2_with (go_at_call 42; refine (reach53 _ _ _).mono ?_; rintro e w' ⟨rfl, rfl⟩)
          go_ret
          exact ⟨rfl, Below.refl _ _⟩
        · by_cases h1 : co ≤ lo
          · by_cases h2 : lo ≤ io
            · by_cases h3 : io ≤ eo
              · exact cop_in co cl lo ll io il eo el w co0 co1 cl0 cl1 lo0 lo1 ll0 ll1 io0 io1 il0 il1 eo0 eo1 el0 el1 r1 r2 r3 r4 h1 h2 h3
              · go_enter Try.func8, Try.ntmps8
                go_wp2_with (go_at_call 42; refine (reach53 _ _ _).mono ?_; rintro e w' ⟨rfl, rfl⟩)
                go_ret
                exact ⟨rfl, Below.refl _ _⟩
            · go_enter Try.func8, Try.ntmps8
              go_wp2_with (go_at_call 42; refine (reach53 _ _ _).mono ?_; rintro e w' ⟨rfl, rfl⟩)
              go_ret
              exact ⟨rfl, Below.refl _ _⟩
          · go_enter Try.func8, Try.ntmps8
            go_wp2_with (go_at_call 42; refine (reach53 _ _ _).mono ?_; rintro e w' ⟨rfl, rfl⟩)
            go_ret
            exact ⟨rfl, Below.refl _ _⟩
end Go.Proofs.Ytjpodhmjmohblaa
