/- The walk of the law FnNakedIndexDollarSwitch: it returns true at every input. -/
import Derived.Test.YtjpodhmjmohblaaNakedK
namespace Go.Proofs.Ytjpodhmjmohblaa
open Go.RowKit
set_option linter.unusedVariables false

theorem nk_facts (o ln c n m : Int) (g1 : 1 ≤ n) (g2 : n ≤ 4096) (g3 : 1 ≤ m) (g4 : m ≤ 4096) (g5 : 2 ≤ c) (g6 : c ≤ 4096) (g7 : 1 ≤ ln) (g8 : ln ≤ 262143) (g9 : 1 ≤ o) (g10 : o ≤ 1073741824) : validB (o + n + 1 + m) (ln * 16384 + (c + n + 1 + m)) = true ∧ (addO (o + n + 1 + m) (ln * 16384 + (c + n + 1 + m)) 1) = (o + n + 1 + m) + 1 ∧ (addL (o + n + 1 + m) (ln * 16384 + (c + n + 1 + m)) 1) = (ln * 16384 + (c + n + 1 + m)) + 1 ∧ offI (o + n + 1 + m) = (o + n + 1 + m) ∧ offI (addO (o + n + 1 + m) (ln * 16384 + (c + n + 1 + m)) 1) = (o + n + 1 + m) + 1 ∧ (addL (o + n + 1 + m) (ln * 16384 + (c + n + 1 + m)) 1) / 16384 = ln ∧ (ln * 16384 + (c + n + 1 + m)) / 16384 = ln ∧ (addL (o + n + 1 + m) (ln * 16384 + (c + n + 1 + m)) 1) % 16384 = c + n + 1 + m + 1 ∧ (ln * 16384 + (c + n + 1 + m)) % 16384 = c + n + 1 + m ∧ validB (o - 1) (ln * 16384 + (c - 1)) = true := by
  have hv : validB (o + n + 1 + m) (ln * 16384 + (c + n + 1 + m)) = true := by simp [validB]; omega
  have ea : (addO (o + n + 1 + m) (ln * 16384 + (c + n + 1 + m)) 1) = (o + n + 1 + m) + 1 := by unfold addO; rw [if_pos hv]; omega
  have hcol : (ln * 16384 + (c + n + 1 + m)) % 16384 = c + n + 1 + m := by omega
  have hci : colI (ln * 16384 + (c + n + 1 + m)) 1 = c + n + 1 + m + 1 := by unfold colI; rw [hcol, if_neg (by omega)]
  have el : (addL (o + n + 1 + m) (ln * 16384 + (c + n + 1 + m)) 1) = (ln * 16384 + (c + n + 1 + m)) + 1 := by unfold addL; rw [if_pos hv, hci]; omega
  refine ⟨hv, ea, el, ?_, ?_, by rw [el]; omega, by omega, by rw [el]; omega, hcol, by simp [validB]; omega⟩
  · unfold offI; rw [if_neg (by omega)]
  · rw [ea]; unfold offI; rw [if_neg (by omega)]

set_option maxHeartbeats 4000000 in
set_option maxRecDepth 50000 in
theorem nk_in (o ln c n m : Int) (w : World) (o0 : 0 ≤ o) (o1 : o < 4294967296) (ln0 : 0 ≤ ln) (ln1 : ln < 4294967296) (c0 : 0 ≤ c) (c1 : c < 4294967296) (n0 : 0 ≤ n) (n1 : n < 4294967296) (m0 : 0 ≤ m) (m1 : m < 4294967296) (g1 : 1 ≤ n) (g2 : n ≤ 4096) (g3 : 1 ≤ m) (g4 : m ≤ 4096) (g5 : 2 ≤ c) (g6 : c ≤ 4096) (g7 : 1 ≤ ln) (g8 : ln ≤ 262143) (g9 : 1 ≤ o) (g10 : o ≤ 1073741824) : Calls Try.prog 9 #[.int .u32 o, .int .u32 ln, .int .u32 c, .int .u32 n, .int .u32 m] w fun e w' => e = .returned (.bool true) ∧ Below w.heap.size w w' := by
  obtain ⟨hv, fa, fl, f1, f2, f3, f4, f5, f6, hvd⟩ := nk_facts o ln c n m g1 g2 g3 g4 g5 g6 g7 g8 g9 g10
  have hz : validB 0 0 = false := by decide
  have x0 : 0 ≤ (o + n + 1 + m) := by omega
  have x1 : (o + n + 1 + m) < 4294967296 := by omega
  have y0 : 0 ≤ (ln * 16384 + (c + n + 1 + m)) := by omega
  have y1 : (ln * 16384 + (c + n + 1 + m)) < 4294967296 := by omega
  have e00 : 0 ≤ (addO (o + n + 1 + m) (ln * 16384 + (c + n + 1 + m)) 1) := by omega
  have e01 : (addO (o + n + 1 + m) (ln * 16384 + (c + n + 1 + m)) 1) < 4294967296 := by omega
  have e10 : 0 ≤ (addL (o + n + 1 + m) (ln * 16384 + (c + n + 1 + m)) 1) := by omega
  have e11 : (addL (o + n + 1 + m) (ln * 16384 + (c + n + 1 + m)) 1) < 4294967296 := by omega
  have Fa := Lib.hid fa
  have Fl := Lib.hid fl
  have W1 := Lib.hid (show IntKind.u64.wrap ((o + n + 1 + m) + 1) = (o + n + 1 + m) + 1 by rw [IntKind.wrap_u64]; omega)
  have W2 := Lib.hid (show IntKind.u64.wrap (c + n + 1 + m + 1) = c + n + 1 + m + 1 by rw [IntKind.wrap_u64]; omega)
  have V1 := Lib.hid (show IntKind.u32.wrap (o + n) = o + n by rw [IntKind.wrap_u32]; omega)
  have V2 := Lib.hid (show IntKind.u32.wrap (o + n + 1) = o + n + 1 by rw [IntKind.wrap_u32]; omega)
  have V3 := Lib.hid (show IntKind.u32.wrap (c + n) = c + n by rw [IntKind.wrap_u32]; omega)
  have V4 := Lib.hid (show IntKind.u32.wrap (c + n + 1) = c + n + 1 by rw [IntKind.wrap_u32]; omega)
  clear fa fl
  go_enter Try.func9, Try.ntmps9
  go_wp2_with fail
  refine (zidx_any (o + n + 1) ln (c + n + 1) m _ (by omega) (by omega) (by omega) (by omega) (by omega) (by omega) (by omega) (by omega)).mono ?_
  rintro e w1 ⟨q, rfl, hB, E⟩
  go_wp2_with fail
  refine (zlit_any o ln c n _ (by omega) (by omega) (by omega) (by omega) (by omega) (by omega) (by omega) (by omega)).mono ?_
  rintro e w2 ⟨p, rfl, hb, a0, a1, a2, a3⟩
  replace E := E.later hb
  replace hB := btrans hB hb
  clear hb a2 a3
  obtain ⟨B, hBB⟩ : ∃ B, B = w2.heap.size := ⟨_, rfl⟩
  have HBB := Lib.hid hBB
  clear hBB
  go_wp2_with fail
  refine (naked_true _ 0 0 (.pointer (some ⟨q, 0, none⟩)) _ (by go_simp) (by go_simp) (by go_simp) (by go_simp) hz).mono ?_
  rintro e w3 ⟨rfl, hb⟩
  have c0 : w3.cell? ⟨w2.heap.size, 0, none⟩ = some (.int .u32 0) := blater hb (by go_simp)
  have c1 : w3.cell? ⟨w2.heap.size, 1, none⟩ = some (.int .u32 0) := blater hb (by go_simp)
  have c4 : w3.cell? ⟨w2.heap.size, 4, none⟩ = some (.bool true) := blater hb (by go_simp)
  have c13 : w3.cell? ⟨w2.heap.size, 13, none⟩ = some (.pointer (some ⟨p, 0, none⟩)) := blater hb (by go_simp)
  have c15 : w3.cell? ⟨w2.heap.size, 15, none⟩ = some (.iface 36 (.pointer (some ⟨q, 0, none⟩))) := blater hb (by go_simp)
  replace a0 := blater hb (later a0 _)
  replace a1 := blater hb (later a1 _)
  replace hB := btrans (balloc hB _) hb
  replace E := E.later (btrans (balloc (Below.refl _ _) _) hb)
  clear hb
  rw [← HBB.out] at c0 c1 c4 c13 c15
  go_wp2_with fail
  rw [← HBB.out]
  go_region_held3 (fun w' => Below w.heap.size w w' ∧ w'.cell? ⟨B, 0, none⟩ = some (.int .u32 0) ∧ w'.cell? ⟨B, 1, none⟩ = some (.int .u32 0) ∧ w'.cell? ⟨B, 4, none⟩ = some (.bool true) ∧ w'.cell? ⟨B, 13, none⟩ = some (.pointer (some ⟨p, 0, none⟩)) ∧ w'.cell? ⟨B, 15, none⟩ = some (.iface 36 (.pointer (some ⟨q, 0, none⟩))) ∧ w'.cell? ⟨p, 0, none⟩ = some (.int .u32 o) ∧ w'.cell? ⟨p, 1, none⟩ = some (.int .u32 (ln * 16384 + c)) ∧ EndsAt w' q (o + n + 1 + m) (ln * 16384 + (c + n + 1 + m))) ((go_split_ands; (refine ⟨?_, ?_, ?_, ?_, ?_, ?_, ?_, ?_, ?_⟩) <;> (first | assumption | (with_reducible refine Below.drew ?_; assumption) | (with_reducible refine EndsAt.drew ?_; assumption) | (with_reducible refine btrans ?_ hb; assumption) | (with_reducible refine blater hb ?_; assumption) | (with_reducible refine EndsAt.later hb ?_; assumption)))) (first | (go_at_call 54; go_split_ands; refine (pePos_no _ p 0 0 o (ln * 16384 + c) _ ?_ ?_ hz ?_ ?_ ?_).mono ?_; (focus assumption); (focus assumption); (focus assumption); (focus assumption); (focus assumption); rintro e w' ⟨rfl, hb⟩) | (go_at_call 55; go_split_ands; refine (litPos_any _ o (ln * 16384 + c) _ ?_ ?_).mono ?_; (focus assumption); (focus assumption); rintro e w' ⟨rfl, hb⟩))
  clear hB c0 c1 c4 c13 c15 a0 a1 E
  obtain ⟨hB, c0, c1, c4, c13, c15, a0, a1, E⟩ : Below w.heap.size w w' ∧ w'.cell? ⟨B, 0, none⟩ = some (.int .u32 0) ∧ w'.cell? ⟨B, 1, none⟩ = some (.int .u32 0) ∧ w'.cell? ⟨B, 4, none⟩ = some (.bool true) ∧ w'.cell? ⟨B, 13, none⟩ = some (.pointer (some ⟨p, 0, none⟩)) ∧ w'.cell? ⟨B, 15, none⟩ = some (.iface 36 (.pointer (some ⟨q, 0, none⟩))) ∧ w'.cell? ⟨p, 0, none⟩ = some (.int .u32 o) ∧ w'.cell? ⟨p, 1, none⟩ = some (.int .u32 (ln * 16384 + c)) ∧ EndsAt w' q (o + n + 1 + m) (ln * 16384 + (c + n + 1 + m)) := by assumption
  go_wp2_with fail
  refine (peEnd B q (o + n + 1 + m) (ln * 16384 + (c + n + 1 + m)) _ x0 y0 y1 c4 c15 E).mono ?_
  rintro e w4 ⟨rfl, hb⟩
  replace E := E.later hb
  replace hB := btrans hB hb
  clear hb c0 c1 c4 c13 c15 a0 a1
  obtain ⟨B1, hB1⟩ : ∃ B, B = w4.heap.size := ⟨_, rfl⟩
  have HB1 := Lib.hid hB1
  clear hB1
  go_wp2_with fail
  refine (E _ (balloc (Below.refl _ _) _)).mono ?_
  rintro e w5 ⟨rfl, hb⟩
  have e0 : w5.cell? ⟨w4.heap.size, 0, none⟩ = some (.int .u32 (addO (o + n + 1 + m) (ln * 16384 + (c + n + 1 + m)) 1)) := blater hb (by go_simp)
  have e1 : w5.cell? ⟨w4.heap.size, 1, none⟩ = some (.int .u32 (addL (o + n + 1 + m) (ln * 16384 + (c + n + 1 + m)) 1)) := blater hb (by go_simp)
  replace hB := btrans (balloc hB _) hb
  clear hb E
  rw [← HB1.out] at e0 e1
  obtain ⟨B2, hB2⟩ : ∃ B, B = w5.heap.size := ⟨_, rfl⟩
  have HB2 := Lib.hid hB2
  clear hB2
  have w1e := W1.out
  have w2e := W2.out
  go_wp2_with fail
  rw [← HB1.out]
  refine gen (fun W => Below w.heap.size w W ∧ W.cell? ⟨B1, 0, none⟩ = some (.int .u32 (addO (o + n + 1 + m) (ln * 16384 + (c + n + 1 + m)) 1)) ∧ W.cell? ⟨B1, 1, none⟩ = some (.int .u32 (addL (o + n + 1 + m) (ln * 16384 + (c + n + 1 + m)) 1)) ∧ W.cell? ⟨B2, 0, none⟩ = some (.int .u32 (o + n + 1 + m)) ∧ W.cell? ⟨B2, 1, none⟩ = some (.int .u32 (ln * 16384 + (c + n + 1 + m)))) ?_ ?_
  · rw [HB2.out]
    exact ⟨balloc hB _, later e0 _, later e1 _, by go_simp, by go_simp⟩
  clear hB e0 e1
  rintro W ⟨hB, e0, e1, i0, i1⟩
  rw [← HB2.out]
  go_region_held3 (fun w' => Below w.heap.size w w' ∧ w'.cell? ⟨B1, 0, none⟩ = some (.int .u32 (addO (o + n + 1 + m) (ln * 16384 + (c + n + 1 + m)) 1)) ∧ w'.cell? ⟨B1, 1, none⟩ = some (.int .u32 (addL (o + n + 1 + m) (ln * 16384 + (c + n + 1 + m)) 1)) ∧ w'.cell? ⟨B2, 0, none⟩ = some (.int .u32 (o + n + 1 + m)) ∧ w'.cell? ⟨B2, 1, none⟩ = some (.int .u32 (ln * 16384 + (c + n + 1 + m)))) ((go_split_ands; (refine ⟨?_, ?_, ?_, ?_, ?_⟩) <;> (first | assumption | (with_reducible refine Below.drew ?_; assumption) | (with_reducible refine EndsAt.drew ?_; assumption) | (with_reducible refine btrans ?_ hb; assumption) | (with_reducible refine blater hb ?_; assumption) | (with_reducible refine EndsAt.later hb ?_; assumption)))) (first | (go_at_call 28; refine (off_any _ _ _ ?_ ?_).mono ?_; (focus assumption); (focus assumption); rintro e w' ⟨rfl, hb⟩) | (go_at_call 29; refine (line_any _ _ _ ?_ ?_).mono ?_; (focus assumption); (focus assumption); rintro e w' ⟨rfl, hb⟩) | (go_at_call 30; refine (col_any _ _ _ ?_ ?_).mono ?_; (focus assumption); (focus assumption); rintro e w' ⟨rfl, hb⟩))
  clear hB e0 e1 i0 i1
  obtain ⟨hB, e0, e1, i0, i1⟩ : Below w.heap.size w w' ∧ w'.cell? ⟨B1, 0, none⟩ = some (.int .u32 (addO (o + n + 1 + m) (ln * 16384 + (c + n + 1 + m)) 1)) ∧ w'.cell? ⟨B1, 1, none⟩ = some (.int .u32 (addL (o + n + 1 + m) (ln * 16384 + (c + n + 1 + m)) 1)) ∧ w'.cell? ⟨B2, 0, none⟩ = some (.int .u32 (o + n + 1 + m)) ∧ w'.cell? ⟨B2, 1, none⟩ = some (.int .u32 (ln * 16384 + (c + n + 1 + m))) := by assumption
  clear w1e w2e f1 f2 f3 f4 f5 f6
  go_wp2_with fail
  refine (np_any _ _ _ _ (by omega) (by omega) (by omega) (by omega)).mono ?_
  rintro e w6 ⟨rfl, hb⟩
  replace e0 := blater hb e0
  replace e1 := blater hb e1
  replace hB := btrans hB hb
  clear hb i0 i1
  obtain ⟨B3, hB3⟩ : ∃ B, B = w6.heap.size := ⟨_, rfl⟩
  have HB3 := Lib.hid hB3
  clear hB3
  go_wp2_with fail
  refine gen (fun W => Below w.heap.size w W ∧ W.cell? ⟨B1, 0, none⟩ = some (.int .u32 (addO (o + n + 1 + m) (ln * 16384 + (c + n + 1 + m)) 1)) ∧ W.cell? ⟨B1, 1, none⟩ = some (.int .u32 (addL (o + n + 1 + m) (ln * 16384 + (c + n + 1 + m)) 1)) ∧ W.cell? ⟨B3, 0, none⟩ = some (.int .u32 (o - 1)) ∧ W.cell? ⟨B3, 1, none⟩ = some (.int .u32 (ln * 16384 + (c - 1)))) ?_ ?_
  · rw [HB3.out]
    exact ⟨balloc hB _, later e0 _, later e1 _, by go_simp, by go_simp⟩
  clear hB e0 e1
  rintro W ⟨hB, e0, e1, d0, d1⟩
  rw [← HB3.out]
  have v1 := V1.out
  have v2 := V2.out
  have v3 := V3.out
  have v4 := V4.out
  go_region_held3 (fun w' => Below w.heap.size w w' ∧ w'.cell? ⟨B1, 0, none⟩ = some (.int .u32 (addO (o + n + 1 + m) (ln * 16384 + (c + n + 1 + m)) 1)) ∧ w'.cell? ⟨B1, 1, none⟩ = some (.int .u32 (addL (o + n + 1 + m) (ln * 16384 + (c + n + 1 + m)) 1)) ∧ w'.cell? ⟨B3, 0, none⟩ = some (.int .u32 (o - 1)) ∧ w'.cell? ⟨B3, 1, none⟩ = some (.int .u32 (ln * 16384 + (c - 1)))) ((go_split_ands; (refine ⟨?_, ?_, ?_, ?_, ?_⟩) <;> (first | assumption | (with_reducible refine balloc ?_ _; assumption) | (with_reducible refine later ?_ _; assumption) | (with_reducible refine Below.drew ?_; assumption) | (with_reducible refine EndsAt.drew ?_; assumption) | (with_reducible refine btrans ?_ hb; assumption) | (with_reducible refine blater hb ?_; assumption) | (with_reducible refine EndsAt.later hb ?_; assumption)))) (first | (go_at_call 52; refine (zlit_any _ _ _ _ _ ?_ ?_ ?_ ?_ ?_ ?_ ?_ ?_).mono ?_; (focus omega); (focus omega); (focus omega); (focus omega); (focus omega); (focus omega); (focus omega); (focus omega); rintro e w' ⟨p2, rfl, hb, b0, b1, b2, b3⟩; (try (replace E2 := EndsAt.later hb E2)); clear b2 b3) | (go_at_call 51; refine (zidx_any _ _ _ _ _ ?_ ?_ ?_ ?_ ?_ ?_ ?_ ?_).mono ?_; (focus omega); (focus omega); (focus omega); (focus omega); (focus omega); (focus omega); (focus omega); (focus omega); rintro e w' ⟨q2, rfl, hb, E2⟩; (try (replace b0 := blater hb b0)); (try (replace b1 := blater hb b1))))
  rename_i hHeld
  clear hB e0 e1 d0 d1 v1 v2 v3 v4 hb
  obtain ⟨hB, e0, e1, d0, d1⟩ := hHeld
  obtain ⟨B4, hB4⟩ : ∃ B, B = w'.heap.size := ⟨_, rfl⟩
  have HB4 := Lib.hid hB4
  clear hB4
  go_wp2_with fail
  refine (naked_false _ (o - 1) (ln * 16384 + (c - 1)) (.pointer (some ⟨q2, 0, none⟩)) _ (by go_simp) (by go_simp) (by go_simp) (by go_simp) hvd).mono ?_
  rintro e w8 ⟨rfl, hb⟩
  have s0 : w8.cell? ⟨w'.heap.size, 0, none⟩ = some (.int .u32 (o - 1)) := blater hb (by go_simp)
  have s1 : w8.cell? ⟨w'.heap.size, 1, none⟩ = some (.int .u32 (ln * 16384 + (c - 1))) := blater hb (by go_simp)
  have s4 : w8.cell? ⟨w'.heap.size, 4, none⟩ = some (.bool true) := blater hb (by go_simp)
  have s13 : w8.cell? ⟨w'.heap.size, 13, none⟩ = some (.pointer (some ⟨p2, 0, none⟩)) := blater hb (by go_simp)
  have s15 : w8.cell? ⟨w'.heap.size, 15, none⟩ = some (.iface 36 (.pointer (some ⟨q2, 0, none⟩))) := blater hb (by go_simp)
  replace e0 := blater hb e0
  replace e1 := blater hb e1
  replace d0 := blater hb d0
  replace d1 := blater hb d1
  replace hB := btrans hB hb
  have E := EndsAt.later (btrans (balloc (Below.refl _ _) _) hb) E2
  clear hb E2 b0 b1
  rw [← HB4.out] at s0 s1 s4 s13 s15
  go_wp2_with fail
  rw [← HB4.out]
  go_region_held3 (fun w' => Below w.heap.size w w' ∧ w'.cell? ⟨B1, 0, none⟩ = some (.int .u32 (addO (o + n + 1 + m) (ln * 16384 + (c + n + 1 + m)) 1)) ∧ w'.cell? ⟨B1, 1, none⟩ = some (.int .u32 (addL (o + n + 1 + m) (ln * 16384 + (c + n + 1 + m)) 1)) ∧ w'.cell? ⟨B3, 0, none⟩ = some (.int .u32 (o - 1)) ∧ w'.cell? ⟨B3, 1, none⟩ = some (.int .u32 (ln * 16384 + (c - 1))) ∧ w'.cell? ⟨B4, 0, none⟩ = some (.int .u32 (o - 1)) ∧ w'.cell? ⟨B4, 1, none⟩ = some (.int .u32 (ln * 16384 + (c - 1))) ∧ w'.cell? ⟨B4, 4, none⟩ = some (.bool true) ∧ w'.cell? ⟨B4, 13, none⟩ = some (.pointer (some ⟨p2, 0, none⟩)) ∧ w'.cell? ⟨B4, 15, none⟩ = some (.iface 36 (.pointer (some ⟨q2, 0, none⟩))) ∧ EndsAt w' q2 (o + n + 1 + m) (ln * 16384 + (c + n + 1 + m))) ((go_split_ands; (refine ⟨?_, ?_, ?_, ?_, ?_, ?_, ?_, ?_, ?_, ?_, ?_⟩) <;> (first | assumption | (with_reducible refine Below.drew ?_; assumption) | (with_reducible refine EndsAt.drew ?_; assumption) | (with_reducible refine btrans ?_ hb; assumption) | (with_reducible refine blater hb ?_; assumption) | (with_reducible refine EndsAt.later hb ?_; assumption)))) (first | (go_at_call 54; go_split_ands; refine (pePos_yes _ (o - 1) (ln * 16384 + (c - 1)) _ ?_ ?_ hvd).mono ?_; (focus assumption); (focus assumption); rintro e w' ⟨rfl, hb⟩) | (go_at_call 56; go_split_ands; refine (peEnd _ q2 (o + n + 1 + m) (ln * 16384 + (c + n + 1 + m)) _ x0 y0 y1 ?_ ?_ ?_).mono ?_; (focus assumption); (focus assumption); (focus assumption); rintro e w' ⟨rfl, hb⟩))
  clear hB e0 e1 d0 d1 s0 s1 s4 s13 s15 E
  obtain ⟨hB, e0, e1, d0, d1, s0, s1, s4, s13, s15, E⟩ : Below w.heap.size w w' ∧ w'.cell? ⟨B1, 0, none⟩ = some (.int .u32 (addO (o + n + 1 + m) (ln * 16384 + (c + n + 1 + m)) 1)) ∧ w'.cell? ⟨B1, 1, none⟩ = some (.int .u32 (addL (o + n + 1 + m) (ln * 16384 + (c + n + 1 + m)) 1)) ∧ w'.cell? ⟨B3, 0, none⟩ = some (.int .u32 (o - 1)) ∧ w'.cell? ⟨B3, 1, none⟩ = some (.int .u32 (ln * 16384 + (c - 1))) ∧ w'.cell? ⟨B4, 0, none⟩ = some (.int .u32 (o - 1)) ∧ w'.cell? ⟨B4, 1, none⟩ = some (.int .u32 (ln * 16384 + (c - 1))) ∧ w'.cell? ⟨B4, 4, none⟩ = some (.bool true) ∧ w'.cell? ⟨B4, 13, none⟩ = some (.pointer (some ⟨p2, 0, none⟩)) ∧ w'.cell? ⟨B4, 15, none⟩ = some (.iface 36 (.pointer (some ⟨q2, 0, none⟩))) ∧ EndsAt w' q2 (o + n + 1 + m) (ln * 16384 + (c + n + 1 + m)) := by assumption
  go_wp2
  go_ret
  exact ⟨ret_bool (by simp), hB⟩
set_option maxRecDepth 50000 in
set_option maxHeartbeats 2000000 in
theorem nk_o0 (o ln c n m : Int) (w : World) (o0 : 0 ≤ o) (o1 : o < 4294967296) (ln0 : 0 ≤ ln) (ln1 : ln < 4294967296) (c0 : 0 ≤ c) (c1 : c < 4294967296) (n0 : 0 ≤ n) (n1 : n < 4294967296) (m0 : 0 ≤ m) (m1 : m < 4294967296)  (h : n < 1) : Calls Try.prog 9 #[.int .u32 o, .int .u32 ln, .int .u32 c, .int .u32 n, .int .u32 m] w fun e w' => e = .returned (.bool true) ∧ Below w.heap.size w w' := by
  go_enter Try.func9, Try.ntmps9
  go_wp2_with fail
  go_ret
  exact ⟨rfl, Below.refl _ _⟩
set_option maxRecDepth 50000 in
set_option maxHeartbeats 2000000 in
theorem nk_o1 (o ln c n m : Int) (w : World) (o0 : 0 ≤ o) (o1 : o < 4294967296) (ln0 : 0 ≤ ln) (ln1 : ln < 4294967296) (c0 : 0 ≤ c) (c1 : c < 4294967296) (n0 : 0 ≤ n) (n1 : n < 4294967296) (m0 : 0 ≤ m) (m1 : m < 4294967296) (g1 : 1 ≤ n) (h : 4096 < n) : Calls Try.prog 9 #[.int .u32 o, .int .u32 ln, .int .u32 c, .int .u32 n, .int .u32 m] w fun e w' => e = .returned (.bool true) ∧ Below w.heap.size w w' := by
  go_enter Try.func9, Try.ntmps9
  go_wp2_with fail
  go_ret
  exact ⟨rfl, Below.refl _ _⟩
set_option maxRecDepth 50000 in
set_option maxHeartbeats 2000000 in
theorem nk_o2 (o ln c n m : Int) (w : World) (o0 : 0 ≤ o) (o1 : o < 4294967296) (ln0 : 0 ≤ ln) (ln1 : ln < 4294967296) (c0 : 0 ≤ c) (c1 : c < 4294967296) (n0 : 0 ≤ n) (n1 : n < 4294967296) (m0 : 0 ≤ m) (m1 : m < 4294967296) (g1 : 1 ≤ n) (g2 : n ≤ 4096) (h : m < 1) : Calls Try.prog 9 #[.int .u32 o, .int .u32 ln, .int .u32 c, .int .u32 n, .int .u32 m] w fun e w' => e = .returned (.bool true) ∧ Below w.heap.size w w' := by
  go_enter Try.func9, Try.ntmps9
  go_wp2_with fail
  go_ret
  exact ⟨rfl, Below.refl _ _⟩
set_option maxRecDepth 50000 in
set_option maxHeartbeats 2000000 in
theorem nk_o3 (o ln c n m : Int) (w : World) (o0 : 0 ≤ o) (o1 : o < 4294967296) (ln0 : 0 ≤ ln) (ln1 : ln < 4294967296) (c0 : 0 ≤ c) (c1 : c < 4294967296) (n0 : 0 ≤ n) (n1 : n < 4294967296) (m0 : 0 ≤ m) (m1 : m < 4294967296) (g1 : 1 ≤ n) (g2 : n ≤ 4096) (g3 : 1 ≤ m) (h : 4096 < m) : Calls Try.prog 9 #[.int .u32 o, .int .u32 ln, .int .u32 c, .int .u32 n, .int .u32 m] w fun e w' => e = .returned (.bool true) ∧ Below w.heap.size w w' := by
  go_enter Try.func9, Try.ntmps9
  go_wp2_with fail
  go_ret
  exact ⟨rfl, Below.refl _ _⟩
set_option maxRecDepth 50000 in
set_option maxHeartbeats 2000000 in
theorem nk_o4 (o ln c n m : Int) (w : World) (o0 : 0 ≤ o) (o1 : o < 4294967296) (ln0 : 0 ≤ ln) (ln1 : ln < 4294967296) (c0 : 0 ≤ c) (c1 : c < 4294967296) (n0 : 0 ≤ n) (n1 : n < 4294967296) (m0 : 0 ≤ m) (m1 : m < 4294967296) (g1 : 1 ≤ n) (g2 : n ≤ 4096) (g3 : 1 ≤ m) (g4 : m ≤ 4096) (h : c < 2) : Calls Try.prog 9 #[.int .u32 o, .int .u32 ln, .int .u32 c, .int .u32 n, .int .u32 m] w fun e w' => e = .returned (.bool true) ∧ Below w.heap.size w w' := by
  go_enter Try.func9, Try.ntmps9
  go_wp2_with fail
  go_ret
  exact ⟨rfl, Below.refl _ _⟩
set_option maxRecDepth 50000 in
set_option maxHeartbeats 2000000 in
theorem nk_o5 (o ln c n m : Int) (w : World) (o0 : 0 ≤ o) (o1 : o < 4294967296) (ln0 : 0 ≤ ln) (ln1 : ln < 4294967296) (c0 : 0 ≤ c) (c1 : c < 4294967296) (n0 : 0 ≤ n) (n1 : n < 4294967296) (m0 : 0 ≤ m) (m1 : m < 4294967296) (g1 : 1 ≤ n) (g2 : n ≤ 4096) (g3 : 1 ≤ m) (g4 : m ≤ 4096) (g5 : 2 ≤ c) (h : 4096 < c) : Calls Try.prog 9 #[.int .u32 o, .int .u32 ln, .int .u32 c, .int .u32 n, .int .u32 m] w fun e w' => e = .returned (.bool true) ∧ Below w.heap.size w w' := by
  go_enter Try.func9, Try.ntmps9
  go_wp2_with fail
  go_ret
  exact ⟨rfl, Below.refl _ _⟩
set_option maxRecDepth 50000 in
set_option maxHeartbeats 2000000 in
theorem nk_o6 (o ln c n m : Int) (w : World) (o0 : 0 ≤ o) (o1 : o < 4294967296) (ln0 : 0 ≤ ln) (ln1 : ln < 4294967296) (c0 : 0 ≤ c) (c1 : c < 4294967296) (n0 : 0 ≤ n) (n1 : n < 4294967296) (m0 : 0 ≤ m) (m1 : m < 4294967296) (g1 : 1 ≤ n) (g2 : n ≤ 4096) (g3 : 1 ≤ m) (g4 : m ≤ 4096) (g5 : 2 ≤ c) (g6 : c ≤ 4096) (h : ln < 1) : Calls Try.prog 9 #[.int .u32 o, .int .u32 ln, .int .u32 c, .int .u32 n, .int .u32 m] w fun e w' => e = .returned (.bool true) ∧ Below w.heap.size w w' := by
  go_enter Try.func9, Try.ntmps9
  go_wp2_with fail
  go_ret
  exact ⟨rfl, Below.refl _ _⟩
set_option maxRecDepth 50000 in
set_option maxHeartbeats 2000000 in
theorem nk_o7 (o ln c n m : Int) (w : World) (o0 : 0 ≤ o) (o1 : o < 4294967296) (ln0 : 0 ≤ ln) (ln1 : ln < 4294967296) (c0 : 0 ≤ c) (c1 : c < 4294967296) (n0 : 0 ≤ n) (n1 : n < 4294967296) (m0 : 0 ≤ m) (m1 : m < 4294967296) (g1 : 1 ≤ n) (g2 : n ≤ 4096) (g3 : 1 ≤ m) (g4 : m ≤ 4096) (g5 : 2 ≤ c) (g6 : c ≤ 4096) (g7 : 1 ≤ ln) (h : 262143 < ln) : Calls Try.prog 9 #[.int .u32 o, .int .u32 ln, .int .u32 c, .int .u32 n, .int .u32 m] w fun e w' => e = .returned (.bool true) ∧ Below w.heap.size w w' := by
  go_enter Try.func9, Try.ntmps9
  go_wp2_with fail
  go_ret
  exact ⟨rfl, Below.refl _ _⟩
set_option maxRecDepth 50000 in
set_option maxHeartbeats 2000000 in
theorem nk_o8 (o ln c n m : Int) (w : World) (o0 : 0 ≤ o) (o1 : o < 4294967296) (ln0 : 0 ≤ ln) (ln1 : ln < 4294967296) (c0 : 0 ≤ c) (c1 : c < 4294967296) (n0 : 0 ≤ n) (n1 : n < 4294967296) (m0 : 0 ≤ m) (m1 : m < 4294967296) (g1 : 1 ≤ n) (g2 : n ≤ 4096) (g3 : 1 ≤ m) (g4 : m ≤ 4096) (g5 : 2 ≤ c) (g6 : c ≤ 4096) (g7 : 1 ≤ ln) (g8 : ln ≤ 262143) (h : o < 1) : Calls Try.prog 9 #[.int .u32 o, .int .u32 ln, .int .u32 c, .int .u32 n, .int .u32 m] w fun e w' => e = .returned (.bool true) ∧ Below w.heap.size w w' := by
  go_enter Try.func9, Try.ntmps9
  go_wp2_with fail
  go_ret
  exact ⟨rfl, Below.refl _ _⟩
set_option maxRecDepth 50000 in
set_option maxHeartbeats 2000000 in
theorem nk_o9 (o ln c n m : Int) (w : World) (o0 : 0 ≤ o) (o1 : o < 4294967296) (ln0 : 0 ≤ ln) (ln1 : ln < 4294967296) (c0 : 0 ≤ c) (c1 : c < 4294967296) (n0 : 0 ≤ n) (n1 : n < 4294967296) (m0 : 0 ≤ m) (m1 : m < 4294967296) (g1 : 1 ≤ n) (g2 : n ≤ 4096) (g3 : 1 ≤ m) (g4 : m ≤ 4096) (g5 : 2 ≤ c) (g6 : c ≤ 4096) (g7 : 1 ≤ ln) (g8 : ln ≤ 262143) (g9 : 1 ≤ o) (h : 1073741824 < o) : Calls Try.prog 9 #[.int .u32 o, .int .u32 ln, .int .u32 c, .int .u32 n, .int .u32 m] w fun e w' => e = .returned (.bool true) ∧ Below w.heap.size w w' := by
  go_enter Try.func9, Try.ntmps9
  go_wp2_with fail
  go_ret
  exact ⟨rfl, Below.refl _ _⟩
theorem nk_law (o ln c n m : Int) (w : World) (o0 : 0 ≤ o) (o1 : o < 4294967296) (ln0 : 0 ≤ ln) (ln1 : ln < 4294967296) (c0 : 0 ≤ c) (c1 : c < 4294967296) (n0 : 0 ≤ n) (n1 : n < 4294967296) (m0 : 0 ≤ m) (m1 : m < 4294967296) : Calls Try.prog 9 #[.int .u32 o, .int .u32 ln, .int .u32 c, .int .u32 n, .int .u32 m] w fun e w' => e = .returned (.bool true) ∧ Below w.heap.size w w' := by
  by_cases g1 : 1 ≤ n
  case neg => exact nk_o0 o ln c n m w o0 o1 ln0 ln1 c0 c1 n0 n1 m0 m1  (by omega)
  by_cases g2 : n ≤ 4096
  case neg => exact nk_o1 o ln c n m w o0 o1 ln0 ln1 c0 c1 n0 n1 m0 m1 g1 (by omega)
  by_cases g3 : 1 ≤ m
  case neg => exact nk_o2 o ln c n m w o0 o1 ln0 ln1 c0 c1 n0 n1 m0 m1 g1 g2 (by omega)
  by_cases g4 : m ≤ 4096
  case neg => exact nk_o3 o ln c n m w o0 o1 ln0 ln1 c0 c1 n0 n1 m0 m1 g1 g2 g3 (by omega)
  by_cases g5 : 2 ≤ c
  case neg => exact nk_o4 o ln c n m w o0 o1 ln0 ln1 c0 c1 n0 n1 m0 m1 g1 g2 g3 g4 (by omega)
  by_cases g6 : c ≤ 4096
  case neg => exact nk_o5 o ln c n m w o0 o1 ln0 ln1 c0 c1 n0 n1 m0 m1 g1 g2 g3 g4 g5 (by omega)
  by_cases g7 : 1 ≤ ln
  case neg => exact nk_o6 o ln c n m w o0 o1 ln0 ln1 c0 c1 n0 n1 m0 m1 g1 g2 g3 g4 g5 g6 (by omega)
  by_cases g8 : ln ≤ 262143
  case neg => exact nk_o7 o ln c n m w o0 o1 ln0 ln1 c0 c1 n0 n1 m0 m1 g1 g2 g3 g4 g5 g6 g7 (by omega)
  by_cases g9 : 1 ≤ o
  case neg => exact nk_o8 o ln c n m w o0 o1 ln0 ln1 c0 c1 n0 n1 m0 m1 g1 g2 g3 g4 g5 g6 g7 g8 (by omega)
  by_cases g10 : o ≤ 1073741824
  case neg => exact nk_o9 o ln c n m w o0 o1 ln0 ln1 c0 c1 n0 n1 m0 m1 g1 g2 g3 g4 g5 g6 g7 g8 g9 (by omega)
  exact nk_in o ln c n m w o0 o1 ln0 ln1 c0 c1 n0 n1 m0 m1 g1 g2 g3 g4 g5 g6 g7 g8 g9 g10
end Go.Proofs.Ytjpodhmjmohblaa
