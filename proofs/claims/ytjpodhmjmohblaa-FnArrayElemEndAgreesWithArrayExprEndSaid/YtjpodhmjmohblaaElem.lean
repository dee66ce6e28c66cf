/- The walk of the law FnArrayElemEndAgreesWithArrayExprEnd: it returns true at every input. -/
import Derived.Test.YtjpodhmjmohblaaWords
namespace Go.Proofs.Ytjpodhmjmohblaa
open Go.RowKit
set_option linter.unusedVariables false

theorem mkE (o l : Int) (w : World) : Calls Try.prog 15 #[.int .u32 o, .int .u32 l] w fun e w' => e = .returned (P2 o l) ∧ w.alloc (C2 o l) = w' := by
  go_enter Try.func15, Try.ntmps15
  go_wp2
  exact bodyPost_ret (v := P2 o l) (by simp [results, Try.results15, go_sem]) rfl ⟨rfl, rfl⟩

theorem arrE_ok (b : Nat) (o l : Int) (w : World) (hv : validB o l = true) (o0 : 0 ≤ o) (l0 : 0 ≤ l) (l1 : l < 4294967296) (h0 : w.cell? ⟨b, 2, none⟩ = some (.int .u32 o)) (h1 : w.cell? ⟨b, 3, none⟩ = some (.int .u32 l)) :
    Calls Try.prog 16 #[.pointer (some ⟨b, 0, none⟩)] w fun e w' => e = .returned (P2 (addO o l 1) (addL o l 1)) ∧ ((((w.alloc (C2 (addO o l 1) (addL o l 1))).alloc (C2 (addO o l 1) (addL o l 1))).alloc (C2 (addO o l 1) (addL o l 1))).alloc (C2 o l)).alloc (C2 o l) = w' := by
  have g0 := later h0
  have g1 := later h1
  go_enter Try.func16, Try.ntmps16
  go_wp2_with fail
  refine (add_ok _ _ _ _ hv o0 l0 l1 (by omega) (by omega)).mono ?_
  rintro e w1 ⟨rfl, rfl⟩
  clear g0 g1 h0 h1
  go_wp2
  exact bodyPost_ret (v := P2 (addO o l 1) (addL o l 1)) (by simp [results, Try.results16, go_sem]) rfl ⟨rfl, rfl⟩

theorem arrE_bad (b : Nat) (o l : Int) (w : World) (hv : validB o l = false) (h0 : w.cell? ⟨b, 2, none⟩ = some (.int .u32 o)) (h1 : w.cell? ⟨b, 3, none⟩ = some (.int .u32 l)) :
    Calls Try.prog 16 #[.pointer (some ⟨b, 0, none⟩)] w fun e w' => e = .returned (P2 o l) ∧ (((w.alloc (C2 o l)).alloc (C2 o l)).alloc (C2 o l)).alloc (C2 o l) = w' := by
  have g0 := later h0
  have g1 := later h1
  go_enter Try.func16, Try.ntmps16
  go_wp2_with fail
  refine (add_bad _ _ _ _ hv).mono ?_
  rintro e w1 ⟨rfl, rfl⟩
  clear g0 g1 h0 h1
  go_wp2
  exact bodyPost_ret (v := P2 o l) (by simp [results, Try.results16, go_sem]) rfl ⟨rfl, rfl⟩

theorem elemEnd_ok (b wb s c p : Nat) (o l : Int) (w : World) (hv : validB o l = true) (o0 : 0 ≤ o) (l0 : 0 ≤ l) (l1 : l < 4294967296) (hx : w.cell? ⟨b, 0, none⟩ = some (.iface 36 (.pointer (some ⟨wb, 0, none⟩)))) (hn : w.cell? ⟨b, 1, none⟩ = some (.pointer none)) (h : w.cell? ⟨wb, 0, none⟩ = some (.slice (some ⟨s, 0, none⟩) 1 c)) (hs : w.cell? ⟨s, 0, none⟩ = some (.iface 39 (.pointer (some ⟨p, 0, none⟩)))) (h0 : w.cell? ⟨p, 2, none⟩ = some (.int .u32 o)) (h1 : w.cell? ⟨p, 3, none⟩ = some (.int .u32 l)) :
    Calls Try.prog 19 #[.pointer (some ⟨b, 0, none⟩)] w fun e w' => e = .returned (P2 (addO o l 2) (addL o l 2)) ∧ (((((((w.alloc (C2 (addO o l 2) (addL o l 2))).alloc (C2 o l)).alloc (C2 o l)).alloc (C2 (addO o l 2) (addL o l 2))).alloc (C2 (addO o l 2) (addL o l 2))).alloc (C2 o l)).alloc (C2 o l)).drew = w' := by
  have gx := later hx
  have gn := later hn
  have g := later h
  have gs := later hs
  have g0 := later h0
  have g1 := later h1
  have n2 := meth_word
  go_enter Try.func19, Try.ntmps19
  go_wp2_with (go_at_call 40; refine (wordEnd_x _ s c p o l _ (g _) (gs _) (g0 _) (g1 _)).mono ?_; rintro e w' ⟨rfl, rfl⟩)
  refine (add_ok _ _ _ _ hv o0 l0 l1 (by omega) (by omega)).mono ?_
  rintro e w1 ⟨rfl, rfl⟩
  clear gx gn g gs g0 g1 hx hn h hs h0 h1
  go_wp2
  exact bodyPost_ret (v := P2 (addO o l 2) (addL o l 2)) (by simp [results, Try.results19, go_sem]) rfl ⟨rfl, rfl⟩

theorem elemEnd_bad (b wb s c p : Nat) (o l : Int) (w : World) (hv : validB o l = false) (hx : w.cell? ⟨b, 0, none⟩ = some (.iface 36 (.pointer (some ⟨wb, 0, none⟩)))) (hn : w.cell? ⟨b, 1, none⟩ = some (.pointer none)) (h : w.cell? ⟨wb, 0, none⟩ = some (.slice (some ⟨s, 0, none⟩) 1 c)) (hs : w.cell? ⟨s, 0, none⟩ = some (.iface 39 (.pointer (some ⟨p, 0, none⟩)))) (h0 : w.cell? ⟨p, 2, none⟩ = some (.int .u32 o)) (h1 : w.cell? ⟨p, 3, none⟩ = some (.int .u32 l)) :
    Calls Try.prog 19 #[.pointer (some ⟨b, 0, none⟩)] w fun e w' => e = .returned (P2 o l) ∧ ((((((w.alloc (C2 o l)).alloc (C2 o l)).alloc (C2 o l)).alloc (C2 o l)).alloc (C2 o l)).alloc (C2 o l)).drew = w' := by
  have gx := later hx
  have gn := later hn
  have g := later h
  have gs := later hs
  have g0 := later h0
  have g1 := later h1
  have n2 := meth_word
  go_enter Try.func19, Try.ntmps19
  go_wp2_with (go_at_call 40; refine (wordEnd_x _ s c p o l _ (g _) (gs _) (g0 _) (g1 _)).mono ?_; rintro e w' ⟨rfl, rfl⟩)
  refine (add_bad _ _ _ _ hv).mono ?_
  rintro e w1 ⟨rfl, rfl⟩
  clear gx gn g gs g0 g1 hx hn h hs h0 h1
  go_wp2
  exact bodyPost_ret (v := P2 o l) (by simp [results, Try.results19, go_sem]) rfl ⟨rfl, rfl⟩

theorem twice (o l : Int) (o0 : 0 ≤ o) (l0 : 0 ≤ l) (l1 : l < 4294967296) (hl : l / 16384 ≠ 0) (hv : validB o l = true) :
    validB (addO o l 1) (addL o l 1) = true ∧ addO (addO o l 1) (addL o l 1) 1 = addO o l 2 ∧ addL (addO o l 1) (addL o l 1) 1 = addL o l 2 := by
  have e1 : addO o l 1 = min (max (o + 1) 0) 4294967284 := by unfold addO; rw [if_pos hv]
  have e2 : addO o l 2 = min (max (o + 2) 0) 4294967284 := by unfold addO; rw [if_pos hv]
  have hc := colI_bd l 1
  have l1' : addL o l 1 = l - l % 16384 + colI l 1 := by unfold addL; rw [if_pos hv]
  have l2' : addL o l 2 = l - l % 16384 + colI l 2 := by unfold addL; rw [if_pos hv]
  have hv1 : validB (addO o l 1) (addL o l 1) = true := by
    have : addL o l 1 ≠ 0 := by omega
    simp [validB, this]; omega
  have m1 : addL o l 1 % 16384 = colI l 1 := by omega
  refine ⟨hv1, ?_, ?_⟩
  · have k : addO (addO o l 1) (addL o l 1) 1 = min (max (addO o l 1 + 1) 0) 4294967284 := by
      show (if validB (addO o l 1) (addL o l 1) = true then _ else _) = _
      rw [if_pos hv1]
    omega
  · rw [l2']
    have : addL (addO o l 1) (addL o l 1) 1 = addL o l 1 - addL o l 1 % 16384 + colI (addL o l 1) 1 := by
      show (if validB (addO o l 1) (addL o l 1) = true then _ else _) = _
      rw [if_pos hv1]
    rw [this]
    have k : colI (addL o l 1) 1 = colI l 2 := by
      unfold colI at m1 ⊢
      rw [m1]
      (repeat' split at m1) <;> (repeat' split) <;> omega
    omega

theorem elem_x (p : Option Addr) (w : World) : Calls Try.prog 17 #[.pointer p] w fun e w' => e = .returned (.pointer (some ⟨w.heap.size, 0, none⟩)) ∧ w.alloc (.cells #[.iface 36 (.pointer p), .pointer none, .slice none 0 0] 120) = w' := by
  go_enter Try.func17, Try.ntmps17
  go_wp2
  go_ret
  exact ⟨rfl, rfl⟩

set_option maxHeartbeats 1000000 in
theorem elem_ok (o l : Int) (s : ByteArray) (w : World) (a0 : 0 ≤ o) (a1 : o < 4294967296) (b0 : 0 ≤ l) (b1 : l < 4294967296) (hs : s.size ≤ 1048576) (hl : (l / 16384 == 0) = false) (hv : validB o l = true) :
    Calls Try.prog 3 #[.int .u32 o, .int .u32 l, .string s] w fun e w' => e = .returned (.bool true) ∧ Below w.heap.size w w' := by
  obtain ⟨hv1, t1, t2⟩ := twice o l a0 b0 b1 (by simpa using hl) hv
  have e0 := (addO_bd o l 1 a0 a1).1
  have e2 := (addL_bd o l 1 b0 b1).1
  have e3 := (addL_bd o l 1 b0 b1).2
  go_enter Try.func3, Try.ntmps3
  go_wp2_with (first | (go_at_call 15; refine (mkE _ _ _).mono ?_; rintro e w' ⟨rfl, rfl⟩) | (go_at_call 14; go_in) | (go_at_call 16; refine (arrE_ok _ o l _ hv a0 b0 b1 ?_ ?_).mono ?_; (focus (go_simp; done)); (focus (go_simp; done)); rintro e w' ⟨rfl, rfl⟩) | (go_at_call 16; refine (arrE_ok _ (addO o l 1) (addL o l 1) _ hv1 e0 e2 e3 ?_ ?_).mono ?_; (focus (go_simp; done)); (focus (go_simp; done)); rintro e w' ⟨rfl, rfl⟩) | (go_at_call 19; refine (elemEnd_ok _ (w.heap.size + 1 + 1 + 1 + 1 + 1 + 1 + 1 + 1 + 1 + 1 + 1 + 1 + 1 + 1 + 1 + 1 + 1 + 1 + 1 + 1) (w.heap.size + 1 + 1 + 1 + 1 + 1 + 1 + 1 + 1 + 1 + 1 + 1 + 1 + 1 + 1 + 1 + 1 + 1 + 1 + 1) 1 (w.heap.size + 1 + 1 + 1 + 1 + 1 + 1 + 1 + 1 + 1 + 1 + 1 + 1 + 1 + 1 + 1 + 1 + 1 + 1) o l _ hv a0 b0 b1 ?_ ?_ ?_ ?_ ?_ ?_).mono ?_; (focus (go_simp; done)); (focus (go_simp; done)); (focus (go_simp; done)); (focus (go_simp; done)); (focus (go_simp; done)); (focus (go_simp; done)); rintro e w' ⟨rfl, rfl⟩) | (go_at_call 18; refine (litWord27_x _ _ _ _ _ _).mono ?_; rintro e w' ⟨rfl, rfl⟩) | (go_at_call 17; refine (elem_x _ _).mono ?_; rintro e w' ⟨rfl, rfl⟩))
  go_region_held3 (fun w' => w'.cell? ⟨w.heap.size + 1, 0, none⟩ = some (.int .u32 o) ∧ w'.cell? ⟨w.heap.size + 1, 1, none⟩ = some (.int .u32 l) ∧ w'.cell? ⟨w.heap.size + 1 + 1 + 1 + 1 + 1 + 1 + 1 + 1 + 1 + 1 + 1 + 1 + 1 + 1 + 1, 0, none⟩ = some (.int .u32 (addO o l 2)) ∧ w'.cell? ⟨w.heap.size + 1 + 1 + 1 + 1 + 1 + 1 + 1 + 1 + 1 + 1 + 1 + 1 + 1 + 1 + 1, 1, none⟩ = some (.int .u32 (addL o l 2))) (first | ((refine ⟨?_, ?_, ?_, ?_⟩) <;> (go_simp; done)) | (go_split_ands; (refine ⟨blater hb ?_, blater hb ?_, blater hb ?_, blater hb ?_⟩) <;> assumption) | go_keep) (first | (go_at_call 15; refine (mkE _ _ _).mono ?_; rintro e w' ⟨rfl, rfl⟩) | (go_at_call 14; go_in) | (go_at_call 16; refine (arrE_ok _ o l _ hv a0 b0 b1 ?_ ?_).mono ?_; (focus (go_simp; done)); (focus (go_simp; done)); rintro e w' ⟨rfl, rfl⟩) | (go_at_call 16; refine (arrE_ok _ (addO o l 1) (addL o l 1) _ hv1 e0 e2 e3 ?_ ?_).mono ?_; (focus (go_simp; done)); (focus (go_simp; done)); rintro e w' ⟨rfl, rfl⟩) | (go_at_call 19; refine (elemEnd_ok _ (w.heap.size + 1 + 1 + 1 + 1 + 1 + 1 + 1 + 1 + 1 + 1 + 1 + 1 + 1 + 1 + 1 + 1 + 1 + 1 + 1 + 1) (w.heap.size + 1 + 1 + 1 + 1 + 1 + 1 + 1 + 1 + 1 + 1 + 1 + 1 + 1 + 1 + 1 + 1 + 1 + 1 + 1) 1 (w.heap.size + 1 + 1 + 1 + 1 + 1 + 1 + 1 + 1 + 1 + 1 + 1 + 1 + 1 + 1 + 1 + 1 + 1 + 1) o l _ hv a0 b0 b1 ?_ ?_ ?_ ?_ ?_ ?_).mono ?_; (focus (go_simp; done)); (focus (go_simp; done)); (focus (go_simp; done)); (focus (go_simp; done)); (focus (go_simp; done)); (focus (go_simp; done)); rintro e w' ⟨rfl, rfl⟩) | (go_at_call 18; refine (litWord27_x _ _ _ _ _ _).mono ?_; rintro e w' ⟨rfl, rfl⟩) | (go_at_call 17; refine (elem_x _ _).mono ?_; rintro e w' ⟨rfl, rfl⟩))
  go_wp2
  go_ret
  refine ⟨rfl, ?_⟩
  repeat (first | (with_reducible refine Below.drew ?_) | (with_reducible refine balloc ?_ _))
  exact Below.refl _ _

set_option maxHeartbeats 1000000 in
theorem elem_bad (o l : Int) (s : ByteArray) (w : World) (a0 : 0 ≤ o) (a1 : o < 4294967296) (b0 : 0 ≤ l) (b1 : l < 4294967296) (hs : s.size ≤ 1048576) (hl : (l / 16384 == 0) = false) (hv : validB o l = false) :
    Calls Try.prog 3 #[.int .u32 o, .int .u32 l, .string s] w fun e w' => e = .returned (.bool true) ∧ Below w.heap.size w w' := by
  go_enter Try.func3, Try.ntmps3
  go_wp2_with (first | (go_at_call 15; refine (mkE _ _ _).mono ?_; rintro e w' ⟨rfl, rfl⟩) | (go_at_call 14; go_in) | (go_at_call 16; refine (arrE_bad _ o l _ hv ?_ ?_).mono ?_; (focus (go_simp; done)); (focus (go_simp; done)); rintro e w' ⟨rfl, rfl⟩) | (go_at_call 19; refine (elemEnd_bad _ (w.heap.size + 1 + 1 + 1 + 1 + 1 + 1 + 1 + 1 + 1 + 1 + 1 + 1 + 1 + 1 + 1 + 1 + 1 + 1) (w.heap.size + 1 + 1 + 1 + 1 + 1 + 1 + 1 + 1 + 1 + 1 + 1 + 1 + 1 + 1 + 1 + 1 + 1) 1 (w.heap.size + 1 + 1 + 1 + 1 + 1 + 1 + 1 + 1 + 1 + 1 + 1 + 1 + 1 + 1 + 1 + 1) o l _ hv ?_ ?_ ?_ ?_ ?_ ?_).mono ?_; (focus (go_simp; done)); (focus (go_simp; done)); (focus (go_simp; done)); (focus (go_simp; done)); (focus (go_simp; done)); (focus (go_simp; done)); rintro e w' ⟨rfl, rfl⟩) | (go_at_call 18; refine (litWord27_x _ _ _ _ _ _).mono ?_; rintro e w' ⟨rfl, rfl⟩) | (go_at_call 17; refine (elem_x _ _).mono ?_; rintro e w' ⟨rfl, rfl⟩))
  go_region_held3 (fun w' => w'.cell? ⟨w.heap.size + 1, 0, none⟩ = some (.int .u32 o) ∧ w'.cell? ⟨w.heap.size + 1, 1, none⟩ = some (.int .u32 l) ∧ w'.cell? ⟨w.heap.size + 1 + 1 + 1 + 1 + 1 + 1 + 1 + 1 + 1 + 1 + 1 + 1 + 1, 0, none⟩ = some (.int .u32 o) ∧ w'.cell? ⟨w.heap.size + 1 + 1 + 1 + 1 + 1 + 1 + 1 + 1 + 1 + 1 + 1 + 1 + 1, 1, none⟩ = some (.int .u32 l)) (first | ((refine ⟨?_, ?_, ?_, ?_⟩) <;> (go_simp; done)) | (go_split_ands; (refine ⟨blater hb ?_, blater hb ?_, blater hb ?_, blater hb ?_⟩) <;> assumption) | go_keep) (first | (go_at_call 15; refine (mkE _ _ _).mono ?_; rintro e w' ⟨rfl, rfl⟩) | (go_at_call 14; go_in) | (go_at_call 16; refine (arrE_bad _ o l _ hv ?_ ?_).mono ?_; (focus (go_simp; done)); (focus (go_simp; done)); rintro e w' ⟨rfl, rfl⟩) | (go_at_call 19; refine (elemEnd_bad _ (w.heap.size + 1 + 1 + 1 + 1 + 1 + 1 + 1 + 1 + 1 + 1 + 1 + 1 + 1 + 1 + 1 + 1 + 1 + 1) (w.heap.size + 1 + 1 + 1 + 1 + 1 + 1 + 1 + 1 + 1 + 1 + 1 + 1 + 1 + 1 + 1 + 1 + 1) 1 (w.heap.size + 1 + 1 + 1 + 1 + 1 + 1 + 1 + 1 + 1 + 1 + 1 + 1 + 1 + 1 + 1 + 1) o l _ hv ?_ ?_ ?_ ?_ ?_ ?_).mono ?_; (focus (go_simp; done)); (focus (go_simp; done)); (focus (go_simp; done)); (focus (go_simp; done)); (focus (go_simp; done)); (focus (go_simp; done)); rintro e w' ⟨rfl, rfl⟩) | (go_at_call 18; refine (litWord27_x _ _ _ _ _ _).mono ?_; rintro e w' ⟨rfl, rfl⟩) | (go_at_call 17; refine (elem_x _ _).mono ?_; rintro e w' ⟨rfl, rfl⟩))
  go_wp2
  go_ret
  refine ⟨rfl, ?_⟩
  repeat (first | (with_reducible refine Below.drew ?_) | (with_reducible refine balloc ?_ _))
  exact Below.refl _ _

theorem elem_law (o l : Int) (s : ByteArray) (w : World) (a0 : 0 ≤ o) (a1 : o < 4294967296) (b0 : 0 ≤ l) (b1 : l < 4294967296) :
    Calls Try.prog 3 #[.int .u32 o, .int .u32 l, .string s] w fun e w' => e = .returned (.bool true) ∧ Below w.heap.size w w' := by
  by_cases hs : s.size ≤ 1048576
  · cases hl : (l / 16384 == 0)
    · cases hv : validB o l
      · exact elem_bad o l s w a0 a1 b0 b1 hs hl hv
      · exact elem_ok o l s w a0 a1 b0 b1 hs hl hv
    · go_enter Try.func3, Try.ntmps3
      go_wp2
      go_ret
      exact ⟨rfl, Below.refl _ _⟩
  · go_enter Try.func3, Try.ntmps3
    go_wp2
    go_ret
    exact ⟨rfl, Below.refl _ _⟩
end Go.Proofs.Ytjpodhmjmohblaa
