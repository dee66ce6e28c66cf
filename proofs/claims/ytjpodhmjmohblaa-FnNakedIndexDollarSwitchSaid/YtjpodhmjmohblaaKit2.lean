/- Helpers for walks whose worlds are letters; FlagsArithm.End over a word; zzShiftedBy by one. -/
import Derived.Test.YtjpodhmjmohblaaEnds
namespace Go.Proofs.Ytjpodhmjmohblaa
open Go.RowKit
set_option linter.unusedVariables false

theorem bfro2 {w w' : World} {p : Addr} {v : Value} (hb : Below w.heap.size w w') (h : w.cell? p = some v) (hf : w.frozen? p = false) : w'.frozen? p = false := (hb.frozen (World.block_lt_of_cell? w _ h)).trans hf
theorem rcell {w w1 : World} (hb : Below (w.alloc (C2 0 0)).heap.size (w.alloc (C2 0 0)) w1) :
    w1.cell? ⟨w.heap.size, 0, none⟩ = some (.int .u32 0) ∧ w1.cell? ⟨w.heap.size, 1, none⟩ = some (.int .u32 0) ∧ w1.frozen? ⟨w.heap.size, 0, none⟩ = false ∧ w1.frozen? ⟨w.heap.size, 1, none⟩ = false ∧ Below w.heap.size w w1 := by
  have c0 : (w.alloc (C2 0 0)).cell? ⟨w.heap.size, 0, none⟩ = some (.int .u32 0) := by simp
  have c1 : (w.alloc (C2 0 0)).cell? ⟨w.heap.size, 1, none⟩ = some (.int .u32 0) := by simp
  exact ⟨blater hb c0, blater hb c1, bfro2 hb c0 (by simp), bfro2 hb c1 (by simp), btrans (balloc (Below.refl _ _) _) hb⟩
theorem rend {w w1 : World} (h : Below w.heap.size w w1) (x y : Value) : Below w.heap.size w ((w1.setCell ⟨w.heap.size, 0, none⟩ x).setCell ⟨w.heap.size, 1, none⟩ y) := bset (bset h (Nat.le_refl _) _) (Nat.le_refl _) _

theorem EndsAt.drew {w : World} {b : Nat} {o l : Int} (h : EndsAt w b o l) : EndsAt w.drew b o l := h.later (Below.refl _ _).drew
theorem flagsEnd (b wb : Nat) (o l : Int) (w : World) (hx : w.cell? ⟨b, 1, none⟩ = some (.iface 36 (.pointer (some ⟨wb, 0, none⟩)))) (E : EndsAt w wb o l) :
    Calls Try.prog 39 #[.pointer (some ⟨b, 0, none⟩)] w fun e w' => e = .returned (P2 o l) ∧ Below w.heap.size w w' := by
  have gx := later hx
  have n2 := meth_word
  go_enter Try.func39, Try.ntmps39
  go_wp2_with (go_at_call 40; refine (E _ (balloc (Below.refl _ _) _)).mono ?_; rintro e w1 ⟨rfl, hb⟩; obtain ⟨r0, r1, f0, f1, hB⟩ := rcell hb)
  refine bodyPost_ret (v := P2 o l) (by simp [results, Try.results39, go_sem, r0, r1]) rfl ⟨rfl, rend hB _ _⟩

theorem flagsWord_x (o l o2 l2 : Int) (p : Option Addr) (w : World) : Calls Try.prog 38 #[P2 o l, P2 o2 l2, .pointer p] w fun e w' => e = .returned (.pointer (some ⟨w.heap.size + 1 + 1 + 1, 0, none⟩)) ∧
    (((w.alloc (C2 o l)).alloc (C2 o2 l2)).alloc (.cells #[.int .u32 o, .int .u32 l, .int .u32 o2, .int .u32 l2, .string ⟨#[102]⟩] 41)).alloc (.cells #[.pointer (some ⟨w.heap.size + 1 + 1, 0, none⟩), .iface 36 (.pointer p)] 55) = w' := by
  go_enter Try.func38, Try.ntmps38
  go_wp2
  go_ret
  exact ⟨rfl, rfl⟩
theorem flagsWord_any (o l o2 l2 : Int) (p : Option Addr) (w : World) : Calls Try.prog 38 #[P2 o l, P2 o2 l2, .pointer p] w fun e w' => ∃ b, e = .returned (.pointer (some ⟨b, 0, none⟩)) ∧ Below w.heap.size w w' ∧ w'.cell? ⟨b, 1, none⟩ = some (.iface 36 (.pointer p)) :=
  (flagsWord_x o l o2 l2 p w).mono fun _ _ k => by
    obtain ⟨k1, rfl⟩ := k
    exact ⟨_, k1, balloc (balloc (balloc (balloc (Below.refl _ _) _) _) _) _, by go_simp⟩

theorem shift_facts (o l : Int) (o0 : 0 ≤ o) (l0 : 0 ≤ l) (hv : validB o l = true) :
    o ≤ 4294967284 ∧ addL o l 1 / 16384 = l / 16384 ∧ addL o l 1 % 16384 = colI l 1 ∧ offI o = o ∧ (o + 1 ≤ 4294967284 → offI (addO o l 1) = o + 1) ∧ (4294967284 < o + 1 → offI (addO o l 1) = 4294967284) := by
  have hc := colI_bd l 1
  have ho : o ≤ 4294967284 := by simp only [validB, Bool.and_eq_true, decide_eq_true_eq] at hv; exact hv.1
  have ea : addO o l 1 = min (max (o + 1) 0) 4294967284 := by unfold addO; rw [if_pos hv]
  have el : addL o l 1 = l - l % 16384 + colI l 1 := by unfold addL; rw [if_pos hv]
  refine ⟨ho, by omega, by omega, by unfold offI; rw [if_neg (by omega)], fun h => ?_, fun h => ?_⟩
  · unfold offI; rw [if_neg (by omega)]; omega
  · unfold offI; rw [if_neg (by omega)]; omega
set_option maxHeartbeats 1000000 in
theorem shift_BZ (o l : Int) (w : World) (o0 : 0 ≤ o) (o1 : o < 4294967296) (l0 : 0 ≤ l) (l1 : l < 4294967296) (hv : validB o l = true) (q : 4294967284 < o + 1) (m : (l % 16384 == 0) = true) :
    Calls Try.prog 41 #[P2 (addO o l 1) (addL o l 1), P2 o l, .int .u64 1] w fun e w' => e = .returned (.bool true) ∧ Below w.heap.size w w' := by
  obtain ⟨f1, f2, f3, f4, f5, f6⟩ := shift_facts o l o0 l0 hv
  have hf := f6 q
  have hc : colI l 1 = 0 := by unfold colI; rw [if_pos (by left; simpa using m)]
  rw [hc] at f3
  have mm : (l % 16384 != 0) = false := by simpa using m
  have e0 := (addO_bd o l 1 o0 o1).1
  have e1 := (addO_bd o l 1 o0 o1).2
  have e2 := (addL_bd o l 1 l0 l1).1
  have e3 := (addL_bd o l 1 l0 l1).2
  clear f5 f6 hc
  go_enter Try.func41, Try.ntmps41
  go_wp2_with (first | (go_at_call 74; refine (valid_x _ _ _).mono ?_; rintro e w' ⟨rfl, rfl⟩) | (go_at_call 29; refine (line_x _ _ _ ?_ ?_).mono ?_; (focus (assumption)); (focus (assumption)); rintro e w' ⟨rfl, rfl⟩) | (go_at_call 30; refine (col_x _ _ _ ?_ ?_).mono ?_; (focus (assumption)); (focus (assumption)); rintro e w' ⟨rfl, rfl⟩) | (go_at_call 28; refine (off_x _ _ _ ?_ ?_).mono ?_; (focus (assumption)); (focus (assumption)); rintro e w' ⟨rfl, rfl⟩))
  refine gen (fun W => Below w.heap.size w W ∧ W.cell? ⟨w.heap.size, 0, none⟩ = some (.int .u32 (addO o l 1)) ∧ W.cell? ⟨w.heap.size, 1, none⟩ = some (.int .u32 (addL o l 1)) ∧ W.cell? ⟨w.heap.size + 1, 0, none⟩ = some (.int .u32 o) ∧ W.cell? ⟨w.heap.size + 1, 1, none⟩ = some (.int .u32 l)) ?_ ?_
  · refine ⟨?_, ?_, ?_, ?_, ?_⟩
    · repeat (first | (with_reducible refine Below.drew ?_) | (with_reducible refine balloc ?_ _))
      exact Below.refl _ _
    all_goals go_simp
  rintro W ⟨hB, k0, k1, k2, k3⟩
  go_region_held3 (fun w' => w'.cell? ⟨w.heap.size, 0, none⟩ = some (.int .u32 (addO o l 1)) ∧ w'.cell? ⟨w.heap.size, 1, none⟩ = some (.int .u32 (addL o l 1)) ∧ w'.cell? ⟨w.heap.size + 1, 0, none⟩ = some (.int .u32 o) ∧ w'.cell? ⟨w.heap.size + 1, 1, none⟩ = some (.int .u32 l)) (first | (go_split_ands; (refine ⟨?_, ?_, ?_, ?_⟩) <;> assumption) | (go_split_ands; (refine ⟨blater hb ?_, blater hb ?_, blater hb ?_, blater hb ?_⟩) <;> assumption) | go_keep) (first | (go_at_call 74; refine (valid_any _ _ _).mono ?_; rintro e w' ⟨rfl, hb⟩) | (go_at_call 29; refine (line_any _ _ _ ?_ ?_).mono ?_; (focus (assumption)); (focus (assumption)); rintro e w' ⟨rfl, hb⟩) | (go_at_call 30; refine (col_any _ _ _ ?_ ?_).mono ?_; (focus (assumption)); (focus (assumption)); rintro e w' ⟨rfl, hb⟩) | (go_at_call 28; refine (off_any _ _ _ ?_ ?_).mono ?_; (focus (assumption)); (focus (assumption)); rintro e w' ⟨rfl, hb⟩))
  obtain ⟨k0, k1, k2, k3⟩ : w'.cell? ⟨w.heap.size, 0, none⟩ = some (.int .u32 (addO o l 1)) ∧ w'.cell? ⟨w.heap.size, 1, none⟩ = some (.int .u32 (addL o l 1)) ∧ w'.cell? ⟨w.heap.size + 1, 0, none⟩ = some (.int .u32 o) ∧ w'.cell? ⟨w.heap.size + 1, 1, none⟩ = some (.int .u32 l) := by assumption
  go_wp2_with (first | (go_at_call 74; refine (valid_any _ _ _).mono ?_; rintro e w' ⟨rfl, hb⟩; replace k0 := blater hb k0; replace k1 := blater hb k1; replace k2 := blater hb k2; replace k3 := blater hb k3) | (go_at_call 29; refine (line_any _ _ _ ?_ ?_).mono ?_; (focus (assumption)); (focus (assumption)); rintro e w' ⟨rfl, hb⟩; replace k0 := blater hb k0; replace k1 := blater hb k1; replace k2 := blater hb k2; replace k3 := blater hb k3) | (go_at_call 30; refine (col_any _ _ _ ?_ ?_).mono ?_; (focus (assumption)); (focus (assumption)); rintro e w' ⟨rfl, hb⟩; replace k0 := blater hb k0; replace k1 := blater hb k1; replace k2 := blater hb k2; replace k3 := blater hb k3) | (go_at_call 28; refine (off_any _ _ _ ?_ ?_).mono ?_; (focus (assumption)); (focus (assumption)); rintro e w' ⟨rfl, hb⟩; replace k0 := blater hb k0; replace k1 := blater hb k1; replace k2 := blater hb k2; replace k3 := blater hb k3))
  go_ret
  refine ⟨rfl, ?_⟩
  repeat (first | assumption | exact hB.drew | (with_reducible refine Below.drew ?_) | refine btrans ?_ (by assumption))

set_option maxHeartbeats 1000000 in
theorem shift_BH (o l : Int) (w : World) (o0 : 0 ≤ o) (o1 : o < 4294967296) (l0 : 0 ≤ l) (l1 : l < 4294967296) (hv : validB o l = true) (q : 4294967284 < o + 1) (m : (l % 16384 == 0) = false) (m2 : 16383 < l % 16384 + 1) :
    Calls Try.prog 41 #[P2 (addO o l 1) (addL o l 1), P2 o l, .int .u64 1] w fun e w' => e = .returned (.bool true) ∧ Below w.heap.size w w' := by
  obtain ⟨f1, f2, f3, f4, f5, f6⟩ := shift_facts o l o0 l0 hv
  have hf := f6 q
  have hc : colI l 1 = 0 := by unfold colI; rw [if_pos (by omega)]
  rw [hc] at f3
  have mm : (l % 16384 != 0) = true := by simpa using m
  have e0 := (addO_bd o l 1 o0 o1).1
  have e1 := (addO_bd o l 1 o0 o1).2
  have e2 := (addL_bd o l 1 l0 l1).1
  have e3 := (addL_bd o l 1 l0 l1).2
  clear f5 f6 hc
  go_enter Try.func41, Try.ntmps41
  go_wp2_with (first | (go_at_call 74; refine (valid_x _ _ _).mono ?_; rintro e w' ⟨rfl, rfl⟩) | (go_at_call 29; refine (line_x _ _ _ ?_ ?_).mono ?_; (focus (assumption)); (focus (assumption)); rintro e w' ⟨rfl, rfl⟩) | (go_at_call 30; refine (col_x _ _ _ ?_ ?_).mono ?_; (focus (assumption)); (focus (assumption)); rintro e w' ⟨rfl, rfl⟩) | (go_at_call 28; refine (off_x _ _ _ ?_ ?_).mono ?_; (focus (assumption)); (focus (assumption)); rintro e w' ⟨rfl, rfl⟩))
  refine gen (fun W => Below w.heap.size w W ∧ W.cell? ⟨w.heap.size, 0, none⟩ = some (.int .u32 (addO o l 1)) ∧ W.cell? ⟨w.heap.size, 1, none⟩ = some (.int .u32 (addL o l 1)) ∧ W.cell? ⟨w.heap.size + 1, 0, none⟩ = some (.int .u32 o) ∧ W.cell? ⟨w.heap.size + 1, 1, none⟩ = some (.int .u32 l)) ?_ ?_
  · refine ⟨?_, ?_, ?_, ?_, ?_⟩
    · repeat (first | (with_reducible refine Below.drew ?_) | (with_reducible refine balloc ?_ _))
      exact Below.refl _ _
    all_goals go_simp
  rintro W ⟨hB, k0, k1, k2, k3⟩
  go_region_held3 (fun w' => w'.cell? ⟨w.heap.size, 0, none⟩ = some (.int .u32 (addO o l 1)) ∧ w'.cell? ⟨w.heap.size, 1, none⟩ = some (.int .u32 (addL o l 1)) ∧ w'.cell? ⟨w.heap.size + 1, 0, none⟩ = some (.int .u32 o) ∧ w'.cell? ⟨w.heap.size + 1, 1, none⟩ = some (.int .u32 l)) (first | (go_split_ands; (refine ⟨?_, ?_, ?_, ?_⟩) <;> assumption) | (go_split_ands; (refine ⟨blater hb ?_, blater hb ?_, blater hb ?_, blater hb ?_⟩) <;> assumption) | go_keep) (first | (go_at_call 74; refine (valid_any _ _ _).mono ?_; rintro e w' ⟨rfl, hb⟩) | (go_at_call 29; refine (line_any _ _ _ ?_ ?_).mono ?_; (focus (assumption)); (focus (assumption)); rintro e w' ⟨rfl, hb⟩) | (go_at_call 30; refine (col_any _ _ _ ?_ ?_).mono ?_; (focus (assumption)); (focus (assumption)); rintro e w' ⟨rfl, hb⟩) | (go_at_call 28; refine (off_any _ _ _ ?_ ?_).mono ?_; (focus (assumption)); (focus (assumption)); rintro e w' ⟨rfl, hb⟩))
  obtain ⟨k0, k1, k2, k3⟩ : w'.cell? ⟨w.heap.size, 0, none⟩ = some (.int .u32 (addO o l 1)) ∧ w'.cell? ⟨w.heap.size, 1, none⟩ = some (.int .u32 (addL o l 1)) ∧ w'.cell? ⟨w.heap.size + 1, 0, none⟩ = some (.int .u32 o) ∧ w'.cell? ⟨w.heap.size + 1, 1, none⟩ = some (.int .u32 l) := by assumption
  go_wp2_with (first | (go_at_call 74; refine (valid_any _ _ _).mono ?_; rintro e w' ⟨rfl, hb⟩; replace k0 := blater hb k0; replace k1 := blater hb k1; replace k2 := blater hb k2; replace k3 := blater hb k3) | (go_at_call 29; refine (line_any _ _ _ ?_ ?_).mono ?_; (focus (assumption)); (focus (assumption)); rintro e w' ⟨rfl, hb⟩; replace k0 := blater hb k0; replace k1 := blater hb k1; replace k2 := blater hb k2; replace k3 := blater hb k3) | (go_at_call 30; refine (col_any _ _ _ ?_ ?_).mono ?_; (focus (assumption)); (focus (assumption)); rintro e w' ⟨rfl, hb⟩; replace k0 := blater hb k0; replace k1 := blater hb k1; replace k2 := blater hb k2; replace k3 := blater hb k3) | (go_at_call 28; refine (off_any _ _ _ ?_ ?_).mono ?_; (focus (assumption)); (focus (assumption)); rintro e w' ⟨rfl, hb⟩; replace k0 := blater hb k0; replace k1 := blater hb k1; replace k2 := blater hb k2; replace k3 := blater hb k3))
  go_ret
  refine ⟨rfl, ?_⟩
  repeat (first | assumption | exact hB.drew | (with_reducible refine Below.drew ?_) | refine btrans ?_ (by assumption))

set_option maxHeartbeats 1000000 in
theorem shift_BI (o l : Int) (w : World) (o0 : 0 ≤ o) (o1 : o < 4294967296) (l0 : 0 ≤ l) (l1 : l < 4294967296) (hv : validB o l = true) (q : 4294967284 < o + 1) (m : (l % 16384 == 0) = false) (m2 : l % 16384 + 1 ≤ 16383) :
    Calls Try.prog 41 #[P2 (addO o l 1) (addL o l 1), P2 o l, .int .u64 1] w fun e w' => e = .returned (.bool true) ∧ Below w.heap.size w w' := by
  obtain ⟨f1, f2, f3, f4, f5, f6⟩ := shift_facts o l o0 l0 hv
  have hf := f6 q
  have hc : colI l 1 = l % 16384 + 1 := by (have : l % 16384 ≠ 0 := by simpa using m); unfold colI; rw [if_neg (by omega)]
  rw [hc] at f3
  have mm : (l % 16384 != 0) = true := by simpa using m
  have e0 := (addO_bd o l 1 o0 o1).1
  have e1 := (addO_bd o l 1 o0 o1).2
  have e2 := (addL_bd o l 1 l0 l1).1
  have e3 := (addL_bd o l 1 l0 l1).2
  clear f5 f6 hc
  go_enter Try.func41, Try.ntmps41
  go_wp2_with (first | (go_at_call 74; refine (valid_x _ _ _).mono ?_; rintro e w' ⟨rfl, rfl⟩) | (go_at_call 29; refine (line_x _ _ _ ?_ ?_).mono ?_; (focus (assumption)); (focus (assumption)); rintro e w' ⟨rfl, rfl⟩) | (go_at_call 30; refine (col_x _ _ _ ?_ ?_).mono ?_; (focus (assumption)); (focus (assumption)); rintro e w' ⟨rfl, rfl⟩) | (go_at_call 28; refine (off_x _ _ _ ?_ ?_).mono ?_; (focus (assumption)); (focus (assumption)); rintro e w' ⟨rfl, rfl⟩))
  refine gen (fun W => Below w.heap.size w W ∧ W.cell? ⟨w.heap.size, 0, none⟩ = some (.int .u32 (addO o l 1)) ∧ W.cell? ⟨w.heap.size, 1, none⟩ = some (.int .u32 (addL o l 1)) ∧ W.cell? ⟨w.heap.size + 1, 0, none⟩ = some (.int .u32 o) ∧ W.cell? ⟨w.heap.size + 1, 1, none⟩ = some (.int .u32 l)) ?_ ?_
  · refine ⟨?_, ?_, ?_, ?_, ?_⟩
    · repeat (first | (with_reducible refine Below.drew ?_) | (with_reducible refine balloc ?_ _))
      exact Below.refl _ _
    all_goals go_simp
  rintro W ⟨hB, k0, k1, k2, k3⟩
  go_region_held3 (fun w' => w'.cell? ⟨w.heap.size, 0, none⟩ = some (.int .u32 (addO o l 1)) ∧ w'.cell? ⟨w.heap.size, 1, none⟩ = some (.int .u32 (addL o l 1)) ∧ w'.cell? ⟨w.heap.size + 1, 0, none⟩ = some (.int .u32 o) ∧ w'.cell? ⟨w.heap.size + 1, 1, none⟩ = some (.int .u32 l)) (first | (go_split_ands; (refine ⟨?_, ?_, ?_, ?_⟩) <;> assumption) | (go_split_ands; (refine ⟨blater hb ?_, blater hb ?_, blater hb ?_, blater hb ?_⟩) <;> assumption) | go_keep) (first | (go_at_call 74; refine (valid_any _ _ _).mono ?_; rintro e w' ⟨rfl, hb⟩) | (go_at_call 29; refine (line_any _ _ _ ?_ ?_).mono ?_; (focus (assumption)); (focus (assumption)); rintro e w' ⟨rfl, hb⟩) | (go_at_call 30; refine (col_any _ _ _ ?_ ?_).mono ?_; (focus (assumption)); (focus (assumption)); rintro e w' ⟨rfl, hb⟩) | (go_at_call 28; refine (off_any _ _ _ ?_ ?_).mono ?_; (focus (assumption)); (focus (assumption)); rintro e w' ⟨rfl, hb⟩))
  obtain ⟨k0, k1, k2, k3⟩ : w'.cell? ⟨w.heap.size, 0, none⟩ = some (.int .u32 (addO o l 1)) ∧ w'.cell? ⟨w.heap.size, 1, none⟩ = some (.int .u32 (addL o l 1)) ∧ w'.cell? ⟨w.heap.size + 1, 0, none⟩ = some (.int .u32 o) ∧ w'.cell? ⟨w.heap.size + 1, 1, none⟩ = some (.int .u32 l) := by assumption
  go_wp2_with (first | (go_at_call 74; refine (valid_any _ _ _).mono ?_; rintro e w' ⟨rfl, hb⟩; replace k0 := blater hb k0; replace k1 := blater hb k1; replace k2 := blater hb k2; replace k3 := blater hb k3) | (go_at_call 29; refine (line_any _ _ _ ?_ ?_).mono ?_; (focus (assumption)); (focus (assumption)); rintro e w' ⟨rfl, hb⟩; replace k0 := blater hb k0; replace k1 := blater hb k1; replace k2 := blater hb k2; replace k3 := blater hb k3) | (go_at_call 30; refine (col_any _ _ _ ?_ ?_).mono ?_; (focus (assumption)); (focus (assumption)); rintro e w' ⟨rfl, hb⟩; replace k0 := blater hb k0; replace k1 := blater hb k1; replace k2 := blater hb k2; replace k3 := blater hb k3) | (go_at_call 28; refine (off_any _ _ _ ?_ ?_).mono ?_; (focus (assumption)); (focus (assumption)); rintro e w' ⟨rfl, hb⟩; replace k0 := blater hb k0; replace k1 := blater hb k1; replace k2 := blater hb k2; replace k3 := blater hb k3))
  go_ret
  refine ⟨rfl, ?_⟩
  repeat (first | assumption | exact hB.drew | (with_reducible refine Below.drew ?_) | refine btrans ?_ (by assumption))

set_option maxHeartbeats 1000000 in
theorem shift_SZ (o l : Int) (w : World) (o0 : 0 ≤ o) (o1 : o < 4294967296) (l0 : 0 ≤ l) (l1 : l < 4294967296) (hv : validB o l = true) (q : o + 1 ≤ 4294967284) (m : (l % 16384 == 0) = true) :
    Calls Try.prog 41 #[P2 (addO o l 1) (addL o l 1), P2 o l, .int .u64 1] w fun e w' => e = .returned (.bool true) ∧ Below w.heap.size w w' := by
  obtain ⟨f1, f2, f3, f4, f5, f6⟩ := shift_facts o l o0 l0 hv
  have hf := f5 q
  have hc : colI l 1 = 0 := by unfold colI; rw [if_pos (by left; simpa using m)]
  rw [hc] at f3
  have mm : (l % 16384 != 0) = false := by simpa using m
  have e0 := (addO_bd o l 1 o0 o1).1
  have e1 := (addO_bd o l 1 o0 o1).2
  have e2 := (addL_bd o l 1 l0 l1).1
  have e3 := (addL_bd o l 1 l0 l1).2
  clear f5 f6 hc
  go_enter Try.func41, Try.ntmps41
  go_wp2_with (first | (go_at_call 74; refine (valid_x _ _ _).mono ?_; rintro e w' ⟨rfl, rfl⟩) | (go_at_call 29; refine (line_x _ _ _ ?_ ?_).mono ?_; (focus (assumption)); (focus (assumption)); rintro e w' ⟨rfl, rfl⟩) | (go_at_call 30; refine (col_x _ _ _ ?_ ?_).mono ?_; (focus (assumption)); (focus (assumption)); rintro e w' ⟨rfl, rfl⟩) | (go_at_call 28; refine (off_x _ _ _ ?_ ?_).mono ?_; (focus (assumption)); (focus (assumption)); rintro e w' ⟨rfl, rfl⟩))
  refine gen (fun W => Below w.heap.size w W ∧ W.cell? ⟨w.heap.size, 0, none⟩ = some (.int .u32 (addO o l 1)) ∧ W.cell? ⟨w.heap.size, 1, none⟩ = some (.int .u32 (addL o l 1)) ∧ W.cell? ⟨w.heap.size + 1, 0, none⟩ = some (.int .u32 o) ∧ W.cell? ⟨w.heap.size + 1, 1, none⟩ = some (.int .u32 l)) ?_ ?_
  · refine ⟨?_, ?_, ?_, ?_, ?_⟩
    · repeat (first | (with_reducible refine Below.drew ?_) | (with_reducible refine balloc ?_ _))
      exact Below.refl _ _
    all_goals go_simp
  rintro W ⟨hB, k0, k1, k2, k3⟩
  go_region_held3 (fun w' => w'.cell? ⟨w.heap.size, 0, none⟩ = some (.int .u32 (addO o l 1)) ∧ w'.cell? ⟨w.heap.size, 1, none⟩ = some (.int .u32 (addL o l 1)) ∧ w'.cell? ⟨w.heap.size + 1, 0, none⟩ = some (.int .u32 o) ∧ w'.cell? ⟨w.heap.size + 1, 1, none⟩ = some (.int .u32 l)) (first | (go_split_ands; (refine ⟨?_, ?_, ?_, ?_⟩) <;> assumption) | (go_split_ands; (refine ⟨blater hb ?_, blater hb ?_, blater hb ?_, blater hb ?_⟩) <;> assumption) | go_keep) (first | (go_at_call 74; refine (valid_any _ _ _).mono ?_; rintro e w' ⟨rfl, hb⟩) | (go_at_call 29; refine (line_any _ _ _ ?_ ?_).mono ?_; (focus (assumption)); (focus (assumption)); rintro e w' ⟨rfl, hb⟩) | (go_at_call 30; refine (col_any _ _ _ ?_ ?_).mono ?_; (focus (assumption)); (focus (assumption)); rintro e w' ⟨rfl, hb⟩) | (go_at_call 28; refine (off_any _ _ _ ?_ ?_).mono ?_; (focus (assumption)); (focus (assumption)); rintro e w' ⟨rfl, hb⟩))
  obtain ⟨k0, k1, k2, k3⟩ : w'.cell? ⟨w.heap.size, 0, none⟩ = some (.int .u32 (addO o l 1)) ∧ w'.cell? ⟨w.heap.size, 1, none⟩ = some (.int .u32 (addL o l 1)) ∧ w'.cell? ⟨w.heap.size + 1, 0, none⟩ = some (.int .u32 o) ∧ w'.cell? ⟨w.heap.size + 1, 1, none⟩ = some (.int .u32 l) := by assumption
  go_wp2_with (first | (go_at_call 74; refine (valid_any _ _ _).mono ?_; rintro e w' ⟨rfl, hb⟩; replace k0 := blater hb k0; replace k1 := blater hb k1; replace k2 := blater hb k2; replace k3 := blater hb k3) | (go_at_call 29; refine (line_any _ _ _ ?_ ?_).mono ?_; (focus (assumption)); (focus (assumption)); rintro e w' ⟨rfl, hb⟩; replace k0 := blater hb k0; replace k1 := blater hb k1; replace k2 := blater hb k2; replace k3 := blater hb k3) | (go_at_call 30; refine (col_any _ _ _ ?_ ?_).mono ?_; (focus (assumption)); (focus (assumption)); rintro e w' ⟨rfl, hb⟩; replace k0 := blater hb k0; replace k1 := blater hb k1; replace k2 := blater hb k2; replace k3 := blater hb k3) | (go_at_call 28; refine (off_any _ _ _ ?_ ?_).mono ?_; (focus (assumption)); (focus (assumption)); rintro e w' ⟨rfl, hb⟩; replace k0 := blater hb k0; replace k1 := blater hb k1; replace k2 := blater hb k2; replace k3 := blater hb k3))
  go_ret
  refine ⟨rfl, ?_⟩
  repeat (first | assumption | exact hB.drew | (with_reducible refine Below.drew ?_) | refine btrans ?_ (by assumption))

set_option maxHeartbeats 1000000 in
theorem shift_SH (o l : Int) (w : World) (o0 : 0 ≤ o) (o1 : o < 4294967296) (l0 : 0 ≤ l) (l1 : l < 4294967296) (hv : validB o l = true) (q : o + 1 ≤ 4294967284) (m : (l % 16384 == 0) = false) (m2 : 16383 < l % 16384 + 1) :
    Calls Try.prog 41 #[P2 (addO o l 1) (addL o l 1), P2 o l, .int .u64 1] w fun e w' => e = .returned (.bool true) ∧ Below w.heap.size w w' := by
  obtain ⟨f1, f2, f3, f4, f5, f6⟩ := shift_facts o l o0 l0 hv
  have hf := f5 q
  have hc : colI l 1 = 0 := by unfold colI; rw [if_pos (by omega)]
  rw [hc] at f3
  have mm : (l % 16384 != 0) = true := by simpa using m
  have e0 := (addO_bd o l 1 o0 o1).1
  have e1 := (addO_bd o l 1 o0 o1).2
  have e2 := (addL_bd o l 1 l0 l1).1
  have e3 := (addL_bd o l 1 l0 l1).2
  clear f5 f6 hc
  go_enter Try.func41, Try.ntmps41
  go_wp2_with (first | (go_at_call 74; refine (valid_x _ _ _).mono ?_; rintro e w' ⟨rfl, rfl⟩) | (go_at_call 29; refine (line_x _ _ _ ?_ ?_).mono ?_; (focus (assumption)); (focus (assumption)); rintro e w' ⟨rfl, rfl⟩) | (go_at_call 30; refine (col_x _ _ _ ?_ ?_).mono ?_; (focus (assumption)); (focus (assumption)); rintro e w' ⟨rfl, rfl⟩) | (go_at_call 28; refine (off_x _ _ _ ?_ ?_).mono ?_; (focus (assumption)); (focus (assumption)); rintro e w' ⟨rfl, rfl⟩))
  refine gen (fun W => Below w.heap.size w W ∧ W.cell? ⟨w.heap.size, 0, none⟩ = some (.int .u32 (addO o l 1)) ∧ W.cell? ⟨w.heap.size, 1, none⟩ = some (.int .u32 (addL o l 1)) ∧ W.cell? ⟨w.heap.size + 1, 0, none⟩ = some (.int .u32 o) ∧ W.cell? ⟨w.heap.size + 1, 1, none⟩ = some (.int .u32 l)) ?_ ?_
  · refine ⟨?_, ?_, ?_, ?_, ?_⟩
    · repeat (first | (with_reducible refine Below.drew ?_) | (with_reducible refine balloc ?_ _))
      exact Below.refl _ _
    all_goals go_simp
  rintro W ⟨hB, k0, k1, k2, k3⟩
  go_region_held3 (fun w' => w'.cell? ⟨w.heap.size, 0, none⟩ = some (.int .u32 (addO o l 1)) ∧ w'.cell? ⟨w.heap.size, 1, none⟩ = some (.int .u32 (addL o l 1)) ∧ w'.cell? ⟨w.heap.size + 1, 0, none⟩ = some (.int .u32 o) ∧ w'.cell? ⟨w.heap.size + 1, 1, none⟩ = some (.int .u32 l)) (first | (go_split_ands; (refine ⟨?_, ?_, ?_, ?_⟩) <;> assumption) | (go_split_ands; (refine ⟨blater hb ?_, blater hb ?_, blater hb ?_, blater hb ?_⟩) <;> assumption) | go_keep) (first | (go_at_call 74; refine (valid_any _ _ _).mono ?_; rintro e w' ⟨rfl, hb⟩) | (go_at_call 29; refine (line_any _ _ _ ?_ ?_).mono ?_; (focus (assumption)); (focus (assumption)); rintro e w' ⟨rfl, hb⟩) | (go_at_call 30; refine (col_any _ _ _ ?_ ?_).mono ?_; (focus (assumption)); (focus (assumption)); rintro e w' ⟨rfl, hb⟩) | (go_at_call 28; refine (off_any _ _ _ ?_ ?_).mono ?_; (focus (assumption)); (focus (assumption)); rintro e w' ⟨rfl, hb⟩))
  obtain ⟨k0, k1, k2, k3⟩ : w'.cell? ⟨w.heap.size, 0, none⟩ = some (.int .u32 (addO o l 1)) ∧ w'.cell? ⟨w.heap.size, 1, none⟩ = some (.int .u32 (addL o l 1)) ∧ w'.cell? ⟨w.heap.size + 1, 0, none⟩ = some (.int .u32 o) ∧ w'.cell? ⟨w.heap.size + 1, 1, none⟩ = some (.int .u32 l) := by assumption
  go_wp2_with (first | (go_at_call 74; refine (valid_any _ _ _).mono ?_; rintro e w' ⟨rfl, hb⟩; replace k0 := blater hb k0; replace k1 := blater hb k1; replace k2 := blater hb k2; replace k3 := blater hb k3) | (go_at_call 29; refine (line_any _ _ _ ?_ ?_).mono ?_; (focus (assumption)); (focus (assumption)); rintro e w' ⟨rfl, hb⟩; replace k0 := blater hb k0; replace k1 := blater hb k1; replace k2 := blater hb k2; replace k3 := blater hb k3) | (go_at_call 30; refine (col_any _ _ _ ?_ ?_).mono ?_; (focus (assumption)); (focus (assumption)); rintro e w' ⟨rfl, hb⟩; replace k0 := blater hb k0; replace k1 := blater hb k1; replace k2 := blater hb k2; replace k3 := blater hb k3) | (go_at_call 28; refine (off_any _ _ _ ?_ ?_).mono ?_; (focus (assumption)); (focus (assumption)); rintro e w' ⟨rfl, hb⟩; replace k0 := blater hb k0; replace k1 := blater hb k1; replace k2 := blater hb k2; replace k3 := blater hb k3))
  go_ret
  refine ⟨rfl, ?_⟩
  repeat (first | assumption | exact hB.drew | (with_reducible refine Below.drew ?_) | refine btrans ?_ (by assumption))

set_option maxHeartbeats 1000000 in
theorem shift_SI (o l : Int) (w : World) (o0 : 0 ≤ o) (o1 : o < 4294967296) (l0 : 0 ≤ l) (l1 : l < 4294967296) (hv : validB o l = true) (q : o + 1 ≤ 4294967284) (m : (l % 16384 == 0) = false) (m2 : l % 16384 + 1 ≤ 16383) :
    Calls Try.prog 41 #[P2 (addO o l 1) (addL o l 1), P2 o l, .int .u64 1] w fun e w' => e = .returned (.bool true) ∧ Below w.heap.size w w' := by
  obtain ⟨f1, f2, f3, f4, f5, f6⟩ := shift_facts o l o0 l0 hv
  have hf := f5 q
  have hc : colI l 1 = l % 16384 + 1 := by (have : l % 16384 ≠ 0 := by simpa using m); unfold colI; rw [if_neg (by omega)]
  rw [hc] at f3
  have mm : (l % 16384 != 0) = true := by simpa using m
  have e0 := (addO_bd o l 1 o0 o1).1
  have e1 := (addO_bd o l 1 o0 o1).2
  have e2 := (addL_bd o l 1 l0 l1).1
  have e3 := (addL_bd o l 1 l0 l1).2
  clear f5 f6 hc
  go_enter Try.func41, Try.ntmps41
  go_wp2_with (first | (go_at_call 74; refine (valid_x _ _ _).mono ?_; rintro e w' ⟨rfl, rfl⟩) | (go_at_call 29; refine (line_x _ _ _ ?_ ?_).mono ?_; (focus (assumption)); (focus (assumption)); rintro e w' ⟨rfl, rfl⟩) | (go_at_call 30; refine (col_x _ _ _ ?_ ?_).mono ?_; (focus (assumption)); (focus (assumption)); rintro e w' ⟨rfl, rfl⟩) | (go_at_call 28; refine (off_x _ _ _ ?_ ?_).mono ?_; (focus (assumption)); (focus (assumption)); rintro e w' ⟨rfl, rfl⟩))
  refine gen (fun W => Below w.heap.size w W ∧ W.cell? ⟨w.heap.size, 0, none⟩ = some (.int .u32 (addO o l 1)) ∧ W.cell? ⟨w.heap.size, 1, none⟩ = some (.int .u32 (addL o l 1)) ∧ W.cell? ⟨w.heap.size + 1, 0, none⟩ = some (.int .u32 o) ∧ W.cell? ⟨w.heap.size + 1, 1, none⟩ = some (.int .u32 l)) ?_ ?_
  · refine ⟨?_, ?_, ?_, ?_, ?_⟩
    · repeat (first | (with_reducible refine Below.drew ?_) | (with_reducible refine balloc ?_ _))
      exact Below.refl _ _
    all_goals go_simp
  rintro W ⟨hB, k0, k1, k2, k3⟩
  go_region_held3 (fun w' => w'.cell? ⟨w.heap.size, 0, none⟩ = some (.int .u32 (addO o l 1)) ∧ w'.cell? ⟨w.heap.size, 1, none⟩ = some (.int .u32 (addL o l 1)) ∧ w'.cell? ⟨w.heap.size + 1, 0, none⟩ = some (.int .u32 o) ∧ w'.cell? ⟨w.heap.size + 1, 1, none⟩ = some (.int .u32 l)) (first | (go_split_ands; (refine ⟨?_, ?_, ?_, ?_⟩) <;> assumption) | (go_split_ands; (refine ⟨blater hb ?_, blater hb ?_, blater hb ?_, blater hb ?_⟩) <;> assumption) | go_keep) (first | (go_at_call 74; refine (valid_any _ _ _).mono ?_; rintro e w' ⟨rfl, hb⟩) | (go_at_call 29; refine (line_any _ _ _ ?_ ?_).mono ?_; (focus (assumption)); (focus (assumption)); rintro e w' ⟨rfl, hb⟩) | (go_at_call 30; refine (col_any _ _ _ ?_ ?_).mono ?_; (focus (assumption)); (focus (assumption)); rintro e w' ⟨rfl, hb⟩) | (go_at_call 28; refine (off_any _ _ _ ?_ ?_).mono ?_; (focus (assumption)); (focus (assumption)); rintro e w' ⟨rfl, hb⟩))
  obtain ⟨k0, k1, k2, k3⟩ : w'.cell? ⟨w.heap.size, 0, none⟩ = some (.int .u32 (addO o l 1)) ∧ w'.cell? ⟨w.heap.size, 1, none⟩ = some (.int .u32 (addL o l 1)) ∧ w'.cell? ⟨w.heap.size + 1, 0, none⟩ = some (.int .u32 o) ∧ w'.cell? ⟨w.heap.size + 1, 1, none⟩ = some (.int .u32 l) := by assumption
  go_wp2_with (first | (go_at_call 74; refine (valid_any _ _ _).mono ?_; rintro e w' ⟨rfl, hb⟩; replace k0 := blater hb k0; replace k1 := blater hb k1; replace k2 := blater hb k2; replace k3 := blater hb k3) | (go_at_call 29; refine (line_any _ _ _ ?_ ?_).mono ?_; (focus (assumption)); (focus (assumption)); rintro e w' ⟨rfl, hb⟩; replace k0 := blater hb k0; replace k1 := blater hb k1; replace k2 := blater hb k2; replace k3 := blater hb k3) | (go_at_call 30; refine (col_any _ _ _ ?_ ?_).mono ?_; (focus (assumption)); (focus (assumption)); rintro e w' ⟨rfl, hb⟩; replace k0 := blater hb k0; replace k1 := blater hb k1; replace k2 := blater hb k2; replace k3 := blater hb k3) | (go_at_call 28; refine (off_any _ _ _ ?_ ?_).mono ?_; (focus (assumption)); (focus (assumption)); rintro e w' ⟨rfl, hb⟩; replace k0 := blater hb k0; replace k1 := blater hb k1; replace k2 := blater hb k2; replace k3 := blater hb k3))
  go_ret
  refine ⟨rfl, ?_⟩
  repeat (first | assumption | exact hB.drew | (with_reducible refine Below.drew ?_) | refine btrans ?_ (by assumption))

theorem shift_bad (o l : Int) (w : World) (o0 : 0 ≤ o) (o1 : o < 4294967296) (l0 : 0 ≤ l) (l1 : l < 4294967296) (hv : validB o l = false) :
    Calls Try.prog 41 #[P2 o l, P2 o l, .int .u64 1] w fun e w' => e = .returned (.bool true) ∧ Below w.heap.size w w' := by
  go_enter Try.func41, Try.ntmps41
  go_wp2_with (first | (go_at_call 74; refine (valid_x _ _ _).mono ?_; rintro e w' ⟨rfl, rfl⟩) | (go_at_call 29; refine (line_x _ _ _ ?_ ?_).mono ?_; (focus (assumption)); (focus (assumption)); rintro e w' ⟨rfl, rfl⟩) | (go_at_call 30; refine (col_x _ _ _ ?_ ?_).mono ?_; (focus (assumption)); (focus (assumption)); rintro e w' ⟨rfl, rfl⟩) | (go_at_call 28; refine (off_x _ _ _ ?_ ?_).mono ?_; (focus (assumption)); (focus (assumption)); rintro e w' ⟨rfl, rfl⟩))
  go_ret
  refine ⟨ret_bool (by simp), ?_⟩
  repeat (first | (with_reducible refine Below.drew ?_) | (with_reducible refine balloc ?_ _))
  exact Below.refl _ _

theorem shift_any (o l : Int) (w : World) (o0 : 0 ≤ o) (o1 : o < 4294967296) (l0 : 0 ≤ l) (l1 : l < 4294967296) : Calls Try.prog 41 #[P2 (addO o l 1) (addL o l 1), P2 o l, .int .u64 1] w fun e w' => e = .returned (.bool true) ∧ Below w.heap.size w w' := by
  cases hv : validB o l
  · rw [(add_inv o l 1 hv).1, (add_inv o l 1 hv).2]
    exact shift_bad o l w o0 o1 l0 l1 hv
  · rcases Int.lt_or_le 4294967284 (o + 1) with q | q <;> cases m : (l % 16384 == 0)
    · rcases Int.lt_or_le 16383 (l % 16384 + 1) with m2 | m2
      · exact shift_BH o l w o0 o1 l0 l1 hv q m m2
      · exact shift_BI o l w o0 o1 l0 l1 hv q m m2
    · exact shift_BZ o l w o0 o1 l0 l1 hv q m
    · rcases Int.lt_or_le 16383 (l % 16384 + 1) with m2 | m2
      · exact shift_SH o l w o0 o1 l0 l1 hv q m m2
      · exact shift_SI o l w o0 o1 l0 l1 hv q m m2
    · exact shift_SZ o l w o0 o1 l0 l1 hv q m
end Go.Proofs.Ytjpodhmjmohblaa
