/- The walk of the law FnSglQuotedSpanOrder: it returns true at every input. -/
import Derived.Test.YtjpodhmjmohblaaPos
import Derived.Deep.RegionWith
import Derived.Deep.RegionHeld3
namespace Go.Proofs.Ytjpodhmjmohblaa
open Go.RowKit
set_option linter.unusedVariables false

theorem mk21 (o l : Int) (w : World) : Calls Try.prog 63 #[.int .u32 o, .int .u32 l] w fun e w' => e = .returned (P2 o l) ∧ w.alloc (C2 o l) = w' := by
  go_enter Try.func63, Try.ntmps63
  go_wp2
  exact bodyPost_ret (v := P2 o l) (by simp [results, Try.results63, go_sem]) rfl ⟨rfl, rfl⟩

theorem sglPos (b : Nat) (o l : Int) (w : World) (h0 : w.cell? ⟨b, 0, none⟩ = some (.int .u32 o)) (h1 : w.cell? ⟨b, 1, none⟩ = some (.int .u32 l)) :
    Calls Try.prog 64 #[.pointer (some ⟨b, 0, none⟩)] w fun e w' => e = .returned (P2 o l) ∧ w.alloc (C2 o l) = w' := by
  have g0 := later h0
  have g1 := later h1
  go_enter Try.func64, Try.ntmps64
  go_wp2
  exact bodyPost_ret (v := P2 o l) (by simp [results, Try.results64, go_sem]) rfl ⟨rfl, rfl⟩

theorem sglEnd_ok (b : Nat) (o l : Int) (w : World) (hv : validB o l = true) (o0 : 0 ≤ o) (l0 : 0 ≤ l) (l1 : l < 4294967296) (h0 : w.cell? ⟨b, 2, none⟩ = some (.int .u32 o)) (h1 : w.cell? ⟨b, 3, none⟩ = some (.int .u32 l)) :
    Calls Try.prog 65 #[.pointer (some ⟨b, 0, none⟩)] w fun e w' => e = .returned (P2 (addO o l 1) (addL o l 1)) ∧ ((((w.alloc (C2 (addO o l 1) (addL o l 1))).alloc (C2 (addO o l 1) (addL o l 1))).alloc (C2 (addO o l 1) (addL o l 1))).alloc (C2 o l)).alloc (C2 o l) = w' := by
  have g0 := later h0
  have g1 := later h1
  go_enter Try.func65, Try.ntmps65
  go_wp2_with fail
  refine (add_ok _ _ _ _ hv o0 l0 l1 (by omega) (by omega)).mono ?_
  rintro e w1 ⟨rfl, rfl⟩
  clear g0 g1 h0 h1
  go_wp2
  exact bodyPost_ret (v := P2 (addO o l 1) (addL o l 1)) (by simp [results, Try.results65, go_sem]) rfl ⟨rfl, rfl⟩

theorem sglEnd_bad (b : Nat) (o l : Int) (w : World) (hv : validB o l = false) (h0 : w.cell? ⟨b, 2, none⟩ = some (.int .u32 o)) (h1 : w.cell? ⟨b, 3, none⟩ = some (.int .u32 l)) :
    Calls Try.prog 65 #[.pointer (some ⟨b, 0, none⟩)] w fun e w' => e = .returned (P2 o l) ∧ (((w.alloc (C2 o l)).alloc (C2 o l)).alloc (C2 o l)).alloc (C2 o l) = w' := by
  have g0 := later h0
  have g1 := later h1
  go_enter Try.func65, Try.ntmps65
  go_wp2_with fail
  refine (add_bad _ _ _ _ hv).mono ?_
  rintro e w1 ⟨rfl, rfl⟩
  clear g0 g1 h0 h1
  go_wp2
  exact bodyPost_ret (v := P2 o l) (by simp [results, Try.results65, go_sem]) rfl ⟨rfl, rfl⟩

theorem span_facts (lo ll ro rl : Int) (h : lo ≤ ro) (c0 : 0 ≤ ro) (hr : ro < 4294967284) (d0 : 0 ≤ rl) (d1 : rl < 4294967296) (hl : rl / 16384 ≠ 0) :
    validB ro rl = true ∧ afterB (addO ro rl 1) (addL ro rl 1) lo = true ∧ afterB lo ll (addO ro rl 1) = false ∧
    addL ro rl 1 / 16384 = rl / 16384 ∧ offI (addO ro rl 1) = ro + 1 ∧ offI lo = lo := by
  have hv : validB ro rl = true := by simp [validB]; omega
  have eo : addO ro rl 1 = ro + 1 := by unfold addO; rw [if_pos hv]; omega
  have hc := colI_bd rl 1
  have el : addL ro rl 1 = rl - rl % 16384 + colI rl 1 := by unfold addL; rw [if_pos hv]
  have hq : addL ro rl 1 / 16384 = rl / 16384 := by rw [el]; omega
  have hv2 : validB (addO ro rl 1) (addL ro rl 1) = true := by rw [eo]; simp [validB]; omega
  refine ⟨hv, ?_, ?_, hq, by rw [eo]; unfold offI; rw [if_neg (by omega)], by unfold offI; rw [if_neg (by omega)]⟩
  · unfold afterB; rw [hv2, eo]; simp; omega
  · unfold afterB; rw [eo]; simp; omega

set_option maxHeartbeats 2000000 in
theorem sgl_in (lo ll ro rl : Int) (s : ByteArray) (w : World) (a0 : 0 ≤ lo) (a1 : lo < 4294967296) (b0 : 0 ≤ ll) (b1 : ll < 4294967296) (c0 : 0 ≤ ro) (c1 : ro < 4294967296) (d0 : 0 ≤ rl) (d1 : rl < 4294967296) (hs : s.size ≤ 1048576) (hl : (rl / 16384 == 0) = false) (hr : ro < 4294967284) (h : lo ≤ ro) :
    Calls Try.prog 12 #[.int .u32 lo, .int .u32 ll, .int .u32 ro, .int .u32 rl, .string s] w fun e w' => e = .returned (.bool true) ∧ Below w.heap.size w w' := by
  obtain ⟨hv, af, na, ln, of_, ol⟩ := span_facts lo ll ro rl h c0 hr d0 d1 (by simpa using hl)
  have e0 := (addO_bd ro rl 1 c0 c1).1
  have e1 := (addO_bd ro rl 1 c0 c1).2
  have e2 := (addL_bd ro rl 1 d0 d1).1
  have e3 := (addL_bd ro rl 1 d0 d1).2
  have X1 := Lib.hid (show IntKind.u64.wrap (ro + 1 - lo) = ro + 1 - lo by rw [IntKind.wrap_u64]; omega)
  have X2 := Lib.hid (show IntKind.u32.wrap (ro - lo) = ro - lo by rw [IntKind.wrap_u32]; omega)
  have X3 := Lib.hid (show IntKind.u64.wrap (ro - lo) = ro - lo by rw [IntKind.wrap_u64]; omega)
  have X4 := Lib.hid (show IntKind.u64.wrap (ro - lo + 1) = ro - lo + 1 by rw [IntKind.wrap_u64]; omega)
  have X5 := Lib.hid (show (ro + 1 - lo != ro - lo + 1) = false by simp; omega)
  go_enter Try.func12, Try.ntmps12
  go_wp2_with (first | (go_at_call 63; refine (mk21 _ _ _).mono ?_; rintro e w' ⟨rfl, rfl⟩) | (go_at_call 64; refine (sglPos _ lo ll _ ?_ ?_).mono ?_; (focus (go_simp; done)); (focus (go_simp; done)); rintro e w' ⟨rfl, rfl⟩) | (go_at_call 65; refine (sglEnd_ok _ ro rl _ hv c0 d0 d1 ?_ ?_).mono ?_; (focus (go_simp; done)); (focus (go_simp; done)); rintro e w' ⟨rfl, rfl⟩) | (go_at_call 24; refine (after_x _ _ _ _ _).mono ?_; rintro e w' ⟨rfl, rfl⟩) | (go_at_call 62; go_in))
  refine gen (fun W => Below w.heap.size w W ∧ W.cell? ⟨w.heap.size + 1 + 1 + 1 + 1, 0, none⟩ = some (.int .u32 lo) ∧ W.cell? ⟨w.heap.size + 1 + 1 + 1 + 1, 1, none⟩ = some (.int .u32 ll) ∧ W.cell? ⟨w.heap.size + 1 + 1 + 1 + 1 + 1 + 1 + 1 + 1 + 1 + 1, 0, none⟩ = some (.int .u32 (addO ro rl 1)) ∧ W.cell? ⟨w.heap.size + 1 + 1 + 1 + 1 + 1 + 1 + 1 + 1 + 1 + 1, 1, none⟩ = some (.int .u32 (addL ro rl 1)) ∧ W.cell? ⟨w.heap.size + 1 + 1, 2, none⟩ = some (.int .u32 ro) ∧ W.cell? ⟨w.heap.size + 1 + 1, 3, none⟩ = some (.int .u32 rl)) ?_ ?_
  · refine ⟨?_, ?_, ?_, ?_, ?_, ?_, ?_⟩
    · repeat (first | (with_reducible refine Below.drew ?_) | (with_reducible refine balloc ?_ _))
      exact Below.refl _ _
    all_goals go_simp
  rintro W ⟨hB, k0, k1, k2, k3, k4, k5⟩
  have x1 := X1.out
  have x2 := X2.out
  have x3 := X3.out
  have x4 := X4.out
  have x5 := X5.out
  go_region_held3 (fun w' => w'.cell? ⟨w.heap.size + 1 + 1 + 1 + 1, 0, none⟩ = some (.int .u32 lo) ∧ w'.cell? ⟨w.heap.size + 1 + 1 + 1 + 1, 1, none⟩ = some (.int .u32 ll) ∧ w'.cell? ⟨w.heap.size + 1 + 1 + 1 + 1 + 1 + 1 + 1 + 1 + 1 + 1, 0, none⟩ = some (.int .u32 (addO ro rl 1)) ∧ w'.cell? ⟨w.heap.size + 1 + 1 + 1 + 1 + 1 + 1 + 1 + 1 + 1 + 1, 1, none⟩ = some (.int .u32 (addL ro rl 1)) ∧ w'.cell? ⟨w.heap.size + 1 + 1, 2, none⟩ = some (.int .u32 ro) ∧ w'.cell? ⟨w.heap.size + 1 + 1, 3, none⟩ = some (.int .u32 rl)) (first | (go_split_ands; (refine ⟨?_, ?_, ?_, ?_, ?_, ?_⟩) <;> assumption) | (go_split_ands; (refine ⟨blater hb ?_, blater hb ?_, blater hb ?_, blater hb ?_, blater hb ?_, blater hb ?_⟩) <;> assumption) | go_keep) (first | (go_at_call 74; refine (valid_any _ _ _).mono ?_; rintro e w' ⟨rfl, hb⟩) | (go_at_call 24; refine (after_any _ _ _ _ _).mono ?_; rintro e w' ⟨rfl, hb⟩) | (go_at_call 29; refine (line_any _ _ _ ?_ ?_).mono ?_; (focus (assumption)); (focus (assumption)); rintro e w' ⟨rfl, hb⟩) | (go_at_call 30; refine (col_any _ _ _ ?_ ?_).mono ?_; (focus (assumption)); (focus (assumption)); rintro e w' ⟨rfl, hb⟩) | (go_at_call 28; refine (off_any _ _ _ ?_ ?_).mono ?_; (focus (assumption)); (focus (assumption)); rintro e w' ⟨rfl, hb⟩))
  obtain ⟨k0, k1, k2, k3, k4, k5⟩ : w'.cell? ⟨w.heap.size + 1 + 1 + 1 + 1, 0, none⟩ = some (.int .u32 lo) ∧ w'.cell? ⟨w.heap.size + 1 + 1 + 1 + 1, 1, none⟩ = some (.int .u32 ll) ∧ w'.cell? ⟨w.heap.size + 1 + 1 + 1 + 1 + 1 + 1 + 1 + 1 + 1 + 1, 0, none⟩ = some (.int .u32 (addO ro rl 1)) ∧ w'.cell? ⟨w.heap.size + 1 + 1 + 1 + 1 + 1 + 1 + 1 + 1 + 1 + 1, 1, none⟩ = some (.int .u32 (addL ro rl 1)) ∧ w'.cell? ⟨w.heap.size + 1 + 1, 2, none⟩ = some (.int .u32 ro) ∧ w'.cell? ⟨w.heap.size + 1 + 1, 3, none⟩ = some (.int .u32 rl) := by assumption
  clear x1 x2 x3 x4
  go_wp2_with (first | (go_at_call 74; refine (valid_any _ _ _).mono ?_; rintro e w' ⟨rfl, hb⟩; replace k0 := blater hb k0; replace k1 := blater hb k1; replace k2 := blater hb k2; replace k3 := blater hb k3; replace k4 := blater hb k4; replace k5 := blater hb k5) | (go_at_call 24; refine (after_any _ _ _ _ _).mono ?_; rintro e w' ⟨rfl, hb⟩; replace k0 := blater hb k0; replace k1 := blater hb k1; replace k2 := blater hb k2; replace k3 := blater hb k3; replace k4 := blater hb k4; replace k5 := blater hb k5) | (go_at_call 29; refine (line_any _ _ _ ?_ ?_).mono ?_; (focus (assumption)); (focus (assumption)); rintro e w' ⟨rfl, hb⟩; replace k0 := blater hb k0; replace k1 := blater hb k1; replace k2 := blater hb k2; replace k3 := blater hb k3; replace k4 := blater hb k4; replace k5 := blater hb k5) | (go_at_call 30; refine (col_any _ _ _ ?_ ?_).mono ?_; (focus (assumption)); (focus (assumption)); rintro e w' ⟨rfl, hb⟩; replace k0 := blater hb k0; replace k1 := blater hb k1; replace k2 := blater hb k2; replace k3 := blater hb k3; replace k4 := blater hb k4; replace k5 := blater hb k5) | (go_at_call 28; refine (off_any _ _ _ ?_ ?_).mono ?_; (focus (assumption)); (focus (assumption)); rintro e w' ⟨rfl, hb⟩; replace k0 := blater hb k0; replace k1 := blater hb k1; replace k2 := blater hb k2; replace k3 := blater hb k3; replace k4 := blater hb k4; replace k5 := blater hb k5))
  go_region_held3 (fun w' => w'.cell? ⟨w.heap.size + 1 + 1 + 1 + 1, 0, none⟩ = some (.int .u32 lo) ∧ w'.cell? ⟨w.heap.size + 1 + 1 + 1 + 1, 1, none⟩ = some (.int .u32 ll) ∧ w'.cell? ⟨w.heap.size + 1 + 1 + 1 + 1 + 1 + 1 + 1 + 1 + 1 + 1, 0, none⟩ = some (.int .u32 (addO ro rl 1)) ∧ w'.cell? ⟨w.heap.size + 1 + 1 + 1 + 1 + 1 + 1 + 1 + 1 + 1 + 1, 1, none⟩ = some (.int .u32 (addL ro rl 1)) ∧ w'.cell? ⟨w.heap.size + 1 + 1, 2, none⟩ = some (.int .u32 ro) ∧ w'.cell? ⟨w.heap.size + 1 + 1, 3, none⟩ = some (.int .u32 rl)) (first | (go_split_ands; (refine ⟨?_, ?_, ?_, ?_, ?_, ?_⟩) <;> assumption) | (go_split_ands; (refine ⟨blater hb ?_, blater hb ?_, blater hb ?_, blater hb ?_, blater hb ?_, blater hb ?_⟩) <;> assumption) | go_keep) (first | (go_at_call 74; refine (valid_any _ _ _).mono ?_; rintro e w' ⟨rfl, hb⟩) | (go_at_call 24; refine (after_any _ _ _ _ _).mono ?_; rintro e w' ⟨rfl, hb⟩) | (go_at_call 29; refine (line_any _ _ _ ?_ ?_).mono ?_; (focus (assumption)); (focus (assumption)); rintro e w' ⟨rfl, hb⟩) | (go_at_call 30; refine (col_any _ _ _ ?_ ?_).mono ?_; (focus (assumption)); (focus (assumption)); rintro e w' ⟨rfl, hb⟩) | (go_at_call 28; refine (off_any _ _ _ ?_ ?_).mono ?_; (focus (assumption)); (focus (assumption)); rintro e w' ⟨rfl, hb⟩))
  go_wp2
  go_ret
  refine ⟨rfl, ?_⟩
  repeat (first | assumption | exact hB.drew | (with_reducible refine Below.drew ?_) | refine btrans ?_ (by assumption))

theorem sgl_law (lo ll ro rl : Int) (s : ByteArray) (w : World) (a0 : 0 ≤ lo) (a1 : lo < 4294967296) (b0 : 0 ≤ ll) (b1 : ll < 4294967296) (c0 : 0 ≤ ro) (c1 : ro < 4294967296) (d0 : 0 ≤ rl) (d1 : rl < 4294967296) :
    Calls Try.prog 12 #[.int .u32 lo, .int .u32 ll, .int .u32 ro, .int .u32 rl, .string s] w fun e w' => e = .returned (.bool true) ∧ Below w.heap.size w w' := by
  by_cases hs : s.size ≤ 1048576
  · cases hl : (rl / 16384 == 0)
    · by_cases hr : ro < 4294967284
      · by_cases h : lo ≤ ro
        · exact sgl_in lo ll ro rl s w a0 a1 b0 b1 c0 c1 d0 d1 hs hl hr h
        · go_enter Try.func12, Try.ntmps12
          go_wp2
          go_ret
          exact ⟨rfl, Below.refl _ _⟩
      · go_enter Try.func12, Try.ntmps12
        go_wp2
        go_ret
        exact ⟨rfl, Below.refl _ _⟩
    · go_enter Try.func12, Try.ntmps12
      go_wp2
      go_ret
      exact ⟨rfl, Below.refl _ _⟩
  · go_enter Try.func12, Try.ntmps12
    go_wp2
    go_ret
    exact ⟨rfl, Below.refl _ _⟩
end Go.Proofs.Ytjpodhmjmohblaa
