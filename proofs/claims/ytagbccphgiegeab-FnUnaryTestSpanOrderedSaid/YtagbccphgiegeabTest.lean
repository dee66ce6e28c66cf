/- The walks of the laws FnParenTestSpanNonEmpty and FnUnaryTestSpanOrdered: each returns true at every input. -/
import Derived.Test.YtagbccphgiegeabSub
namespace Go.Proofs.Ytagbccphgiegeab
open Go.RowKit
set_option linter.unusedVariables false

theorem mk35 (o l : Int) (w : World) : Calls Try.prog 9 #[.int .u32 o, .int .u32 l] w fun e w' => e = .returned (P2 o l) ∧ w.alloc (C2 o l) = w' := by
  go_enter Try.func9, Try.ntmps9
  go_wp2
  exact bodyPost_ret (v := P2 o l) (by simp [results, Try.results9, go_sem]) rfl ⟨rfl, rfl⟩

theorem litWord_x (o l o2 l2 : Int) (w : World) : Calls Try.prog 11 #[P2 o l, P2 o2 l2] w fun e w' => e = .returned (.pointer (some ⟨w.heap.size + 1 + 1 + 1 + 1, 0, none⟩)) ∧
    ((((w.alloc (C2 o l)).alloc (C2 o2 l2)).alloc (.cells #[.int .u32 o, .int .u32 l, .int .u32 o2, .int .u32 l2, .string ⟨#[120]⟩] 58)).alloc (.cells #[.iface 56 (.pointer (some ⟨w.heap.size + 1 + 1, 0, none⟩))] 99)).alloc (.cells #[.slice (some ⟨w.heap.size + 1 + 1 + 1, 0, none⟩) 1 1] 61) = w' := by
  go_enter Try.func11, Try.ntmps11
  go_wp2
  go_ret
  exact ⟨rfl, rfl⟩

theorem parenWord_x (o l o2 l2 : Int) (p : Option Addr) (w : World) : Calls Try.prog 26 #[P2 o l, P2 o2 l2, .pointer p] w fun e w' => e = .returned (.pointer (some ⟨w.heap.size + 1 + 1, 0, none⟩)) ∧
    ((w.alloc (C2 o l)).alloc (C2 o2 l2)).alloc (.cells #[.int .u32 o, .int .u32 l, .int .u32 o2, .int .u32 l2, .iface 28 (.pointer p)] 64) = w' := by
  go_enter Try.func26, Try.ntmps26
  go_wp2
  go_ret
  exact ⟨rfl, rfl⟩

theorem parPos (b : Nat) (o l : Int) (w : World) (h0 : w.cell? ⟨b, 0, none⟩ = some (.int .u32 o)) (h1 : w.cell? ⟨b, 1, none⟩ = some (.int .u32 l)) :
    Calls Try.prog 28 #[.pointer (some ⟨b, 0, none⟩)] w fun e w' => e = .returned (P2 o l) ∧ w.alloc (C2 o l) = w' := by
  have g0 := later h0
  have g1 := later h1
  go_enter Try.func28, Try.ntmps28
  go_wp2
  exact bodyPost_ret (v := P2 o l) (by simp [results, Try.results28, go_sem]) rfl ⟨rfl, rfl⟩

theorem parEnd_ok (b : Nat) (o l : Int) (w : World) (hv : validB o l = true) (o0 : 0 ≤ o) (l0 : 0 ≤ l) (l1 : l < 4294967296) (h0 : w.cell? ⟨b, 2, none⟩ = some (.int .u32 o)) (h1 : w.cell? ⟨b, 3, none⟩ = some (.int .u32 l)) :
    Calls Try.prog 27 #[.pointer (some ⟨b, 0, none⟩)] w fun e w' => e = .returned (P2 (addO o l 1) (addL o l 1)) ∧ ((((w.alloc (C2 (addO o l 1) (addL o l 1))).alloc (C2 (addO o l 1) (addL o l 1))).alloc (C2 (addO o l 1) (addL o l 1))).alloc (C2 o l)).alloc (C2 o l) = w' := by
  have g0 := later h0
  have g1 := later h1
  go_enter Try.func27, Try.ntmps27
  go_wp2_with fail
  refine (add_ok _ _ _ _ hv o0 l0 l1 (by omega) (by omega)).mono ?_
  rintro e w1 ⟨rfl, rfl⟩
  clear g0 g1 h0 h1
  go_wp2
  exact bodyPost_ret (v := P2 (addO o l 1) (addL o l 1)) (by simp [results, Try.results27, go_sem]) rfl ⟨rfl, rfl⟩

theorem parEnd_bad (b : Nat) (o l : Int) (w : World) (hv : validB o l = false) (h0 : w.cell? ⟨b, 2, none⟩ = some (.int .u32 o)) (h1 : w.cell? ⟨b, 3, none⟩ = some (.int .u32 l)) :
    Calls Try.prog 27 #[.pointer (some ⟨b, 0, none⟩)] w fun e w' => e = .returned (P2 o l) ∧ (((w.alloc (C2 o l)).alloc (C2 o l)).alloc (C2 o l)).alloc (C2 o l) = w' := by
  have g0 := later h0
  have g1 := later h1
  go_enter Try.func27, Try.ntmps27
  go_wp2_with fail
  refine (add_bad _ _ _ _ hv).mono ?_
  rintro e w1 ⟨rfl, rfl⟩
  clear g0 g1 h0 h1
  go_wp2
  exact bodyPost_ret (v := P2 o l) (by simp [results, Try.results27, go_sem]) rfl ⟨rfl, rfl⟩

set_option maxHeartbeats 2000000 in
theorem paren_in (lo ll ro rl : Int) (w : World) (a0 : 0 ≤ lo) (a1 : lo < 4294967296) (b0 : 0 ≤ ll) (b1 : ll < 4294967296) (c0 : 0 ≤ ro) (c1 : ro < 4294967296) (d0 : 0 ≤ rl) (d1 : rl < 4294967296)
    (hr : ro < 4294967284) (hl : (rl / 16384 == 0) = false) (h : lo ≤ ro) :
    Calls Try.prog 7 #[.int .u32 lo, .int .u32 ll, .int .u32 ro, .int .u32 rl] w fun e w' => e = .returned (.bool true) ∧ Below w.heap.size w w' := by
  obtain ⟨hv, v2, af, na, ln, of_, e0, e1, e2, e3, e4⟩ := span_facts lo ll ro rl h c0 hr d0 d1 (by simpa using hl)
  clear ln of_ e4 e0 e1 e2 e3
  go_enter Try.func7, Try.ntmps7
  go_wp2_with (first | (go_at_call 9; refine (mk35 _ _ _).mono ?_; rintro e w' ⟨rfl, rfl⟩) | (go_at_call 11; refine (litWord_x _ _ _ _ _).mono ?_; rintro e w' ⟨rfl, rfl⟩) | (go_at_call 26; refine (parenWord_x _ _ _ _ _ _).mono ?_; rintro e w' ⟨rfl, rfl⟩) | (go_at_call 28; refine (parPos _ lo ll _ ?_ ?_).mono ?_; (focus (go_simp; done)); (focus (go_simp; done)); rintro e w' ⟨rfl, rfl⟩) | (go_at_call 27; refine (parEnd_ok _ ro rl _ hv c0 d0 d1 ?_ ?_).mono ?_; (focus (go_simp; done)); (focus (go_simp; done)); rintro e w' ⟨rfl, rfl⟩) | (go_at_call 13; refine (after_x _ _ _ _ _).mono ?_; rintro e w' ⟨rfl, rfl⟩))
  go_region_held3 (fun w' => w'.cell? ⟨w.heap.size + 1, 0, none⟩ = some (.int .u32 lo) ∧ w'.cell? ⟨w.heap.size + 1, 1, none⟩ = some (.int .u32 ll) ∧ w'.cell? ⟨w.heap.size + 1 + 1 + 1, 0, none⟩ = some (.int .u32 ro) ∧ w'.cell? ⟨w.heap.size + 1 + 1 + 1, 1, none⟩ = some (.int .u32 rl)) (first | ((refine ⟨?_, ?_, ?_, ?_⟩) <;> (go_simp; done)) | go_keep) (first | (go_at_call 9; refine (mk35 _ _ _).mono ?_; rintro e w' ⟨rfl, rfl⟩) | (go_at_call 11; refine (litWord_x _ _ _ _ _).mono ?_; rintro e w' ⟨rfl, rfl⟩) | (go_at_call 26; refine (parenWord_x _ _ _ _ _ _).mono ?_; rintro e w' ⟨rfl, rfl⟩) | (go_at_call 28; refine (parPos _ lo ll _ ?_ ?_).mono ?_; (focus (go_simp; done)); (focus (go_simp; done)); rintro e w' ⟨rfl, rfl⟩) | (go_at_call 27; refine (parEnd_ok _ ro rl _ hv c0 d0 d1 ?_ ?_).mono ?_; (focus (go_simp; done)); (focus (go_simp; done)); rintro e w' ⟨rfl, rfl⟩) | (go_at_call 13; refine (after_x _ _ _ _ _).mono ?_; rintro e w' ⟨rfl, rfl⟩))
  go_wp2_with (first | (go_at_call 9; refine (mk35 _ _ _).mono ?_; rintro e w' ⟨rfl, rfl⟩) | (go_at_call 11; refine (litWord_x _ _ _ _ _).mono ?_; rintro e w' ⟨rfl, rfl⟩) | (go_at_call 26; refine (parenWord_x _ _ _ _ _ _).mono ?_; rintro e w' ⟨rfl, rfl⟩) | (go_at_call 28; refine (parPos _ lo ll _ ?_ ?_).mono ?_; (focus (go_simp; done)); (focus (go_simp; done)); rintro e w' ⟨rfl, rfl⟩) | (go_at_call 27; refine (parEnd_ok _ ro rl _ hv c0 d0 d1 ?_ ?_).mono ?_; (focus (go_simp; done)); (focus (go_simp; done)); rintro e w' ⟨rfl, rfl⟩) | (go_at_call 13; refine (after_x _ _ _ _ _).mono ?_; rintro e w' ⟨rfl, rfl⟩))
  go_ret
  refine ⟨rfl, ?_⟩
  repeat (first | (with_reducible refine Below.drew ?_) | (with_reducible refine balloc ?_ _))
  exact Below.refl _ _

theorem paren_law (lo ll ro rl : Int) (w : World) (a0 : 0 ≤ lo) (a1 : lo < 4294967296) (b0 : 0 ≤ ll) (b1 : ll < 4294967296) (c0 : 0 ≤ ro) (c1 : ro < 4294967296) (d0 : 0 ≤ rl) (d1 : rl < 4294967296) :
    Calls Try.prog 7 #[.int .u32 lo, .int .u32 ll, .int .u32 ro, .int .u32 rl] w fun e w' => e = .returned (.bool true) ∧ Below w.heap.size w w' := by
  by_cases h : lo ≤ ro
  · by_cases hr : ro < 4294967284
    · cases hl : (rl / 16384 == 0)
      · exact paren_in lo ll ro rl w a0 a1 b0 b1 c0 c1 d0 d1 hr hl h
      · go_enter Try.func7, Try.ntmps7
        go_wp2
        go_ret
        exact ⟨rfl, Below.refl _ _⟩
    · go_enter Try.func7, Try.ntmps7
      go_wp2
      go_ret
      exact ⟨rfl, Below.refl _ _⟩
  · go_enter Try.func7, Try.ntmps7
    go_wp2
    go_ret
    exact ⟨rfl, Below.refl _ _⟩

theorem litEnd (b : Nat) (o l : Int) (w : World) (h0 : w.cell? ⟨b, 2, none⟩ = some (.int .u32 o)) (h1 : w.cell? ⟨b, 3, none⟩ = some (.int .u32 l)) :
    Calls Try.prog 58 #[.pointer (some ⟨b, 0, none⟩)] w fun e w' => e = .returned (P2 o l) ∧ w.alloc (C2 o l) = w' := by
  have g0 := later h0
  have g1 := later h1
  go_enter Try.func58, Try.ntmps58
  go_wp2
  exact bodyPost_ret (v := P2 o l) (by simp [results, Try.results58, go_sem]) rfl ⟨rfl, rfl⟩

theorem unPos (b : Nat) (o l : Int) (w : World) (h0 : w.cell? ⟨b, 0, none⟩ = some (.int .u32 o)) (h1 : w.cell? ⟨b, 1, none⟩ = some (.int .u32 l)) :
    Calls Try.prog 14 #[.pointer (some ⟨b, 0, none⟩)] w fun e w' => e = .returned (P2 o l) ∧ w.alloc (C2 o l) = w' := by
  have g0 := later h0
  have g1 := later h1
  go_enter Try.func14, Try.ntmps14
  go_wp2
  exact bodyPost_ret (v := P2 o l) (by simp [results, Try.results14, go_sem]) rfl ⟨rfl, rfl⟩


theorem nil_lit (a : Addr) (w : World) : (nilAhead 221 56 (.pointer (some a)) "End").run Try.prog w = .ok (some false) w := by kernel_rfl
theorem meth_lit (a : Addr) (w : World) : (method 221 56 (.pointer (some a)) "End").run Try.prog w = .ok (58, .pointer (some a)) w := by kernel_rfl
theorem meth_word (a : Addr) (w : World) : (method 221 28 (.pointer (some a)) "End").run Try.prog w = .ok (51, .pointer (some a)) w := by kernel_rfl

theorem wordEnd_x (b s c p : Nat) (o l : Int) (w : World) (h : w.cell? ⟨b, 0, none⟩ = some (.slice (some ⟨s, 0, none⟩) 1 c)) (hs : w.cell? ⟨s, 0, none⟩ = some (.iface 56 (.pointer (some ⟨p, 0, none⟩))))
    (h0 : w.cell? ⟨p, 2, none⟩ = some (.int .u32 o)) (h1 : w.cell? ⟨p, 3, none⟩ = some (.int .u32 l)) :
    Calls Try.prog 51 #[.pointer (some ⟨b, 0, none⟩)] w fun e w' => e = .returned (P2 o l) ∧ ((w.alloc (C2 o l)).alloc (C2 o l)).drew = w' := by
  have g := later h
  have gs := later hs
  have g0 := later h0
  have g1 := later h1
  have n1 := nil_lit
  have n2 := meth_lit
  have z1 : IntKind.i64.wrap (1 - 1) = 0 := by decide
  have z2 : IntKind.i64.wrap 0 = 0 := by decide
  have z3 : (0 : Int) < 1 := by decide
  have z4 : (0 : Int) ≤ 0 := by decide
  go_enter Try.func51, Try.ntmps51
  go_wp2
  go_region_held3 (fun w' => w'.cell? ⟨b, 0, none⟩ = some (.slice (some ⟨s, 0, none⟩) 1 c) ∧ w'.cell? ⟨s, 0, none⟩ = some (.iface 56 (.pointer (some ⟨p, 0, none⟩)))) (go_keep) (first | (go_at_call 58; refine (litEnd _ o l _ ?_ ?_).mono ?_; (focus (go_simp; done)); (focus (go_simp; done)); rintro e w' ⟨rfl, rfl⟩))
  go_wp2
  exact bodyPost_ret (v := P2 o l) (by simp [results, Try.results51, go_sem]) rfl ⟨rfl, rfl⟩

theorem unEnd_x (b wb s c p : Nat) (o l : Int) (w : World) (hx : w.cell? ⟨b, 3, none⟩ = some (.iface 28 (.pointer (some ⟨wb, 0, none⟩)))) (h : w.cell? ⟨wb, 0, none⟩ = some (.slice (some ⟨s, 0, none⟩) 1 c))
    (hs : w.cell? ⟨s, 0, none⟩ = some (.iface 56 (.pointer (some ⟨p, 0, none⟩)))) (h0 : w.cell? ⟨p, 2, none⟩ = some (.int .u32 o)) (h1 : w.cell? ⟨p, 3, none⟩ = some (.int .u32 l)) :
    Calls Try.prog 12 #[.pointer (some ⟨b, 0, none⟩)] w fun e w' => e = .returned (P2 o l) ∧ (((w.alloc (C2 o l)).alloc (C2 o l)).alloc (C2 o l)).drew = w' := by
  have gx := later hx
  have g := later h
  have gs := later hs
  have g0 := later h0
  have g1 := later h1
  have n2 := meth_word
  go_enter Try.func12, Try.ntmps12
  go_wp2_with (go_at_call 51; refine (wordEnd_x _ s c p o l _ (g _) (gs _) (g0 _) (g1 _)).mono ?_; rintro e w' ⟨rfl, rfl⟩)
  exact bodyPost_ret (v := P2 o l) (by simp [results, Try.results12, go_sem]) rfl ⟨rfl, rfl⟩

theorem unWord_x (o l : Int) (p : Option Addr) (w : World) : Calls Try.prog 10 #[P2 o l, .pointer p] w fun e w' => e = .returned (.pointer (some ⟨w.heap.size + 1, 0, none⟩)) ∧
    (w.alloc (C2 o l)).alloc (.cells #[.int .u32 o, .int .u32 l, .int .u32 125, .iface 28 (.pointer p)] 55) = w' := by
  go_enter Try.func10, Try.ntmps10
  go_wp2
  go_ret
  exact ⟨rfl, rfl⟩

theorem un_facts (lo ll ro rl : Int) (h : lo < ro) (hr : ro ≤ 4294967284) (hl : (rl == 0) = false) : afterB ro rl lo = true ∧ afterB lo ll ro = false := by
  have hn : (rl != 0) = true := by simpa using hl
  have hv : validB ro rl = true := by unfold validB; rw [hn]; simp; omega
  unfold afterB
  rw [hv]
  refine ⟨by simp; omega, by simp; omega⟩

set_option maxHeartbeats 2000000 in
theorem un_in (lo ll ro rl : Int) (w : World) (hr : ro ≤ 4294967284) (hl : (rl == 0) = false) (h : lo < ro) :
    Calls Try.prog 3 #[.int .u32 lo, .int .u32 ll, .int .u32 ro, .int .u32 rl] w fun e w' => e = .returned (.bool true) ∧ Below w.heap.size w w' := by
  obtain ⟨af, na⟩ := un_facts lo ll ro rl h hr hl
  go_enter Try.func3, Try.ntmps3
  go_wp2_with (first | (go_at_call 9; refine (mk35 _ _ _).mono ?_; rintro e w' ⟨rfl, rfl⟩) | (go_at_call 11; refine (litWord_x _ _ _ _ _).mono ?_; rintro e w' ⟨rfl, rfl⟩) | (go_at_call 10; refine (unWord_x _ _ _ _).mono ?_; rintro e w' ⟨rfl, rfl⟩) | (go_at_call 14; refine (unPos _ lo ll _ ?_ ?_).mono ?_; (focus (go_simp; done)); (focus (go_simp; done)); rintro e w' ⟨rfl, rfl⟩) | (go_at_call 12; refine (unEnd_x _ (w.heap.size + 1 + 1 + 1 + 1 + 1 + 1 + 1) (w.heap.size + 1 + 1 + 1 + 1 + 1 + 1) 1 (w.heap.size + 1 + 1 + 1 + 1 + 1) ro rl _ ?_ ?_ ?_ ?_ ?_).mono ?_; (focus (go_simp; done)); (focus (go_simp; done)); (focus (go_simp; done)); (focus (go_simp; done)); (focus (go_simp; done)); rintro e w' ⟨rfl, rfl⟩) | (go_at_call 13; refine (after_x _ _ _ _ _).mono ?_; rintro e w' ⟨rfl, rfl⟩))
  go_region_held3 (fun w' => w'.cell? ⟨w.heap.size + 1, 0, none⟩ = some (.int .u32 lo) ∧ w'.cell? ⟨w.heap.size + 1, 1, none⟩ = some (.int .u32 ll)) (first | ((refine ⟨?_, ?_⟩) <;> (go_simp; done)) | go_keep) (first | (go_at_call 9; refine (mk35 _ _ _).mono ?_; rintro e w' ⟨rfl, rfl⟩) | (go_at_call 11; refine (litWord_x _ _ _ _ _).mono ?_; rintro e w' ⟨rfl, rfl⟩) | (go_at_call 10; refine (unWord_x _ _ _ _).mono ?_; rintro e w' ⟨rfl, rfl⟩) | (go_at_call 14; refine (unPos _ lo ll _ ?_ ?_).mono ?_; (focus (go_simp; done)); (focus (go_simp; done)); rintro e w' ⟨rfl, rfl⟩) | (go_at_call 12; refine (unEnd_x _ (w.heap.size + 1 + 1 + 1 + 1 + 1 + 1 + 1) (w.heap.size + 1 + 1 + 1 + 1 + 1 + 1) 1 (w.heap.size + 1 + 1 + 1 + 1 + 1) ro rl _ ?_ ?_ ?_ ?_ ?_).mono ?_; (focus (go_simp; done)); (focus (go_simp; done)); (focus (go_simp; done)); (focus (go_simp; done)); (focus (go_simp; done)); rintro e w' ⟨rfl, rfl⟩) | (go_at_call 13; refine (after_x _ _ _ _ _).mono ?_; rintro e w' ⟨rfl, rfl⟩))
  go_wp2_with (first | (go_at_call 9; refine (mk35 _ _ _).mono ?_; rintro e w' ⟨rfl, rfl⟩) | (go_at_call 11; refine (litWord_x _ _ _ _ _).mono ?_; rintro e w' ⟨rfl, rfl⟩) | (go_at_call 10; refine (unWord_x _ _ _ _).mono ?_; rintro e w' ⟨rfl, rfl⟩) | (go_at_call 14; refine (unPos _ lo ll _ ?_ ?_).mono ?_; (focus (go_simp; done)); (focus (go_simp; done)); rintro e w' ⟨rfl, rfl⟩) | (go_at_call 12; refine (unEnd_x _ (w.heap.size + 1 + 1 + 1 + 1 + 1 + 1 + 1) (w.heap.size + 1 + 1 + 1 + 1 + 1 + 1) 1 (w.heap.size + 1 + 1 + 1 + 1 + 1) ro rl _ ?_ ?_ ?_ ?_ ?_).mono ?_; (focus (go_simp; done)); (focus (go_simp; done)); (focus (go_simp; done)); (focus (go_simp; done)); (focus (go_simp; done)); rintro e w' ⟨rfl, rfl⟩) | (go_at_call 13; refine (after_x _ _ _ _ _).mono ?_; rintro e w' ⟨rfl, rfl⟩))
  go_ret
  refine ⟨rfl, ?_⟩
  repeat (first | (with_reducible refine Below.drew ?_) | (with_reducible refine balloc ?_ _))
  exact Below.refl _ _

theorem un_law (lo ll ro rl : Int) (w : World) (a0 : 0 ≤ lo) (a1 : lo < 4294967296) (b0 : 0 ≤ ll) (b1 : ll < 4294967296) (c0 : 0 ≤ ro) (c1 : ro < 4294967296) (d0 : 0 ≤ rl) (d1 : rl < 4294967296) :
    Calls Try.prog 3 #[.int .u32 lo, .int .u32 ll, .int .u32 ro, .int .u32 rl] w fun e w' => e = .returned (.bool true) ∧ Below w.heap.size w w' := by
  by_cases h : lo < ro
  · by_cases hr : ro ≤ 4294967284
    · cases hl : (rl == 0)
      · exact un_in lo ll ro rl w hr hl h
      · go_enter Try.func3, Try.ntmps3
        go_wp2
        go_ret
        exact ⟨rfl, Below.refl _ _⟩
    · go_enter Try.func3, Try.ntmps3
      go_wp2
      go_ret
      exact ⟨rfl, Below.refl _ _⟩
  · go_enter Try.func3, Try.ntmps3
    go_wp2
    go_ret
    exact ⟨rfl, Below.refl _ _⟩
end Go.Proofs.Ytagbccphgiegeab
