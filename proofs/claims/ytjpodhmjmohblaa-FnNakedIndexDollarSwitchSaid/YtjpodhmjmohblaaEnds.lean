/- Contracts of Word.End and Word.Pos of a word of one part (a literal or a single-quoted text), in a form that holds in every later world; zzShiftedBy. -/
import Derived.Test.YtjpodhmjmohblaaWords
import Derived.Test.YtjpodhmjmohblaaSgl
namespace Go.Proofs.Ytjpodhmjmohblaa
open Go.RowKit
set_option linter.unusedVariables false

theorem dlater {w : World} {p : Addr} {v : Value} (h : w.cell? p = some v) : w.drew.cell? p = some v := h
theorem nil_sgl (a : Addr) (w : World) : (nilAhead 285 101 (.pointer (some a)) "End").run Try.prog w = .ok (some false) w := by kernel_rfl
theorem meth_sgl (a : Addr) (w : World) : (method 285 101 (.pointer (some a)) "End").run Try.prog w = .ok (65, .pointer (some a)) w := by kernel_rfl
theorem nil_sglP (a : Addr) (w : World) : (nilAhead 285 101 (.pointer (some a)) "Pos").run Try.prog w = .ok (some false) w := by kernel_rfl
theorem meth_sglP (a : Addr) (w : World) : (method 285 101 (.pointer (some a)) "Pos").run Try.prog w = .ok (64, .pointer (some a)) w := by kernel_rfl
theorem wordEndS_ok (b s c p : Nat) (o l : Int) (w : World) (hv : validB o l = true) (o0 : 0 ≤ o) (l0 : 0 ≤ l) (l1 : l < 4294967296) (h : w.cell? ⟨b, 0, none⟩ = some (.slice (some ⟨s, 0, none⟩) 1 c)) (hs : w.cell? ⟨s, 0, none⟩ = some (.iface 101 (.pointer (some ⟨p, 0, none⟩))))
    (h0 : w.cell? ⟨p, 2, none⟩ = some (.int .u32 o)) (h1 : w.cell? ⟨p, 3, none⟩ = some (.int .u32 l)) :
    Calls Try.prog 40 #[.pointer (some ⟨b, 0, none⟩)] w fun e w' => e = .returned (P2 (addO o l 1) (addL o l 1)) ∧ ((((((w.alloc (C2 (addO o l 1) (addL o l 1))).alloc (C2 (addO o l 1) (addL o l 1))).alloc (C2 (addO o l 1) (addL o l 1))).alloc (C2 (addO o l 1) (addL o l 1))).alloc (C2 o l)).alloc (C2 o l)).drew = w' := by
  have g := later h
  have gs := later hs
  have g0 := later h0
  have g1 := later h1
  have n1 := nil_sgl
  have n2 := meth_sgl
  have z1 : IntKind.i64.wrap (1 - 1) = 0 := by decide
  have z2 : IntKind.i64.wrap 0 = 0 := by decide
  have z3 : (0 : Int) < 1 := by decide
  have z4 : (0 : Int) ≤ 0 := by decide
  go_enter Try.func40, Try.ntmps40
  go_wp2
  go_region_held3 (fun w' => w'.cell? ⟨b, 0, none⟩ = some (.slice (some ⟨s, 0, none⟩) 1 c) ∧ w'.cell? ⟨s, 0, none⟩ = some (.iface 101 (.pointer (some ⟨p, 0, none⟩)))) (first | (go_split_ands; (refine ⟨?_, ?_⟩) <;> (repeat (first | assumption | (with_reducible refine dlater ?_) | (with_reducible refine later ?_ _)))) | go_keep) (first | (go_at_call 65; refine (sglEnd_ok _ o l _ hv o0 l0 l1 ?_ ?_).mono ?_; (focus (go_simp; done)); (focus (go_simp; done)); rintro e w' ⟨rfl, rfl⟩))
  go_wp2
  exact bodyPost_ret (v := P2 (addO o l 1) (addL o l 1)) (by simp [results, Try.results40, go_sem]) rfl ⟨rfl, rfl⟩

theorem wordEndS_bad (b s c p : Nat) (o l : Int) (w : World) (hv : validB o l = false) (h : w.cell? ⟨b, 0, none⟩ = some (.slice (some ⟨s, 0, none⟩) 1 c)) (hs : w.cell? ⟨s, 0, none⟩ = some (.iface 101 (.pointer (some ⟨p, 0, none⟩))))
    (h0 : w.cell? ⟨p, 2, none⟩ = some (.int .u32 o)) (h1 : w.cell? ⟨p, 3, none⟩ = some (.int .u32 l)) :
    Calls Try.prog 40 #[.pointer (some ⟨b, 0, none⟩)] w fun e w' => e = .returned (P2 o l) ∧ (((((w.alloc (C2 o l)).alloc (C2 o l)).alloc (C2 o l)).alloc (C2 o l)).alloc (C2 o l)).drew = w' := by
  have g := later h
  have gs := later hs
  have g0 := later h0
  have g1 := later h1
  have n1 := nil_sgl
  have n2 := meth_sgl
  have z1 : IntKind.i64.wrap (1 - 1) = 0 := by decide
  have z2 : IntKind.i64.wrap 0 = 0 := by decide
  have z3 : (0 : Int) < 1 := by decide
  have z4 : (0 : Int) ≤ 0 := by decide
  go_enter Try.func40, Try.ntmps40
  go_wp2
  go_region_held3 (fun w' => w'.cell? ⟨b, 0, none⟩ = some (.slice (some ⟨s, 0, none⟩) 1 c) ∧ w'.cell? ⟨s, 0, none⟩ = some (.iface 101 (.pointer (some ⟨p, 0, none⟩)))) (first | (go_split_ands; (refine ⟨?_, ?_⟩) <;> (repeat (first | assumption | (with_reducible refine dlater ?_) | (with_reducible refine later ?_ _)))) | go_keep) (first | (go_at_call 65; refine (sglEnd_bad _ o l _ hv ?_ ?_).mono ?_; (focus (go_simp; done)); (focus (go_simp; done)); rintro e w' ⟨rfl, rfl⟩))
  go_wp2
  exact bodyPost_ret (v := P2 o l) (by simp [results, Try.results40, go_sem]) rfl ⟨rfl, rfl⟩

/-- Word.End of the word at block b answers (o, l), in every world that keeps what there is. -/
def EndsAt (w : World) (b : Nat) (o l : Int) : Prop := ∀ W, Below w.heap.size w W → Calls Try.prog 40 #[.pointer (some ⟨b, 0, none⟩)] W fun e w' => e = .returned (P2 o l) ∧ Below W.heap.size W w'
theorem EndsAt.later {w W : World} {b : Nat} {o l : Int} (hb : Below w.heap.size w W) (h : EndsAt w b o l) : EndsAt W b o l := fun V hV => h V (btrans hb hV)
theorem EndsAt.here {w : World} {b : Nat} {o l : Int} (h : EndsAt w b o l) : Calls Try.prog 40 #[.pointer (some ⟨b, 0, none⟩)] w fun e w' => e = .returned (P2 o l) ∧ Below w.heap.size w w' := h w (Below.refl _ _)
theorem ends_lit (b s c p : Nat) (o l : Int) (w : World) (h : w.cell? ⟨b, 0, none⟩ = some (.slice (some ⟨s, 0, none⟩) 1 c)) (hs : w.cell? ⟨s, 0, none⟩ = some (.iface 39 (.pointer (some ⟨p, 0, none⟩))))
    (h0 : w.cell? ⟨p, 2, none⟩ = some (.int .u32 o)) (h1 : w.cell? ⟨p, 3, none⟩ = some (.int .u32 l)) : EndsAt w b o l := fun W hB =>
  (wordEnd_x b s c p o l W (blater hB h) (blater hB hs) (blater hB h0) (blater hB h1)).mono fun _ _ k => ⟨k.1, k.2 ▸ (balloc (balloc (Below.refl _ _) _) _).drew⟩
theorem ends_sgl (b s c p : Nat) (o l : Int) (w : World) (o0 : 0 ≤ o) (l0 : 0 ≤ l) (l1 : l < 4294967296) (h : w.cell? ⟨b, 0, none⟩ = some (.slice (some ⟨s, 0, none⟩) 1 c)) (hs : w.cell? ⟨s, 0, none⟩ = some (.iface 101 (.pointer (some ⟨p, 0, none⟩))))
    (h0 : w.cell? ⟨p, 2, none⟩ = some (.int .u32 o)) (h1 : w.cell? ⟨p, 3, none⟩ = some (.int .u32 l)) : EndsAt w b (addO o l 1) (addL o l 1) := fun W hB => by
  cases hv : validB o l
  · rw [(add_inv o l 1 hv).1, (add_inv o l 1 hv).2]
    exact (wordEndS_bad b s c p o l W hv (blater hB h) (blater hB hs) (blater hB h0) (blater hB h1)).mono fun _ _ k => ⟨k.1, k.2 ▸ (balloc (balloc (balloc (balloc (balloc (Below.refl _ _) _) _) _) _) _).drew⟩
  · exact (wordEndS_ok b s c p o l W hv o0 l0 l1 (blater hB h) (blater hB hs) (blater hB h0) (blater hB h1)).mono fun _ _ k => ⟨k.1, k.2 ▸ (balloc (balloc (balloc (balloc (balloc (balloc (Below.refl _ _) _) _) _) _) _) _).drew⟩

theorem reach46 (o l : Int) (w : World) : Calls Try.prog 33 #[.int .u32 o, .int .u32 l] w fun e w' => e = .returned (.bool (reachB o l)) ∧ w = w' := by
  have E1 := Lib.hid (show reachB o l = (decide (o ≤ 4294967284) || (o == 4294967285 && l == 0)) from rfl)
  by_cases a : o ≤ 4294967284
  · go_enter Try.func33, Try.ntmps33
    go_wp2
    go_ret
    exact ⟨ret_bool (by rw [E1.out]; simp [a]), rfl⟩
  · cases b : (o == 4294967285)
    · go_enter Try.func33, Try.ntmps33
      go_wp2
      go_ret
      exact ⟨ret_bool (by rw [E1.out]; simp [b]; omega), rfl⟩
    · go_enter Try.func33, Try.ntmps33
      go_wp2
      go_ret
      exact ⟨ret_bool (by rw [E1.out]; simp [b]; omega), rfl⟩

theorem mkX (o l : Int) (w : World) : Calls Try.prog 34 #[.int .u32 o, .int .u32 l] w fun e w' => e = .returned (P2 o l) ∧ w.alloc (C2 o l) = w' := by
  go_enter Try.func34, Try.ntmps34
  go_wp2
  exact bodyPost_ret (v := P2 o l) (by simp [results, Try.results34, go_sem]) rfl ⟨rfl, rfl⟩

def zO (o l : Int) : Int := if reachB o l = true then o else 0
def zL (o l : Int) : Int := if reachB o l = true then l else 0
theorem zO_bd (o l : Int) (h0 : 0 ≤ o) (h1 : o < 4294967296) : 0 ≤ zO o l ∧ zO o l < 4294967296 := by unfold zO; split <;> omega
theorem zL_bd (o l : Int) (h0 : 0 ≤ l) (h1 : l < 4294967296) : 0 ≤ zL o l ∧ zL o l < 4294967296 := by unfold zL; split <;> omega
theorem zp_true (o l : Int) (w : World) (hr : reachB o l = true) : Calls Try.prog 35 #[.int .u32 o, .int .u32 l] w fun e w' => e = .returned (P2 o l) ∧ (w.alloc (C2 o l)).alloc (C2 o l) = w' := by
  go_enter Try.func35, Try.ntmps35
  go_wp2_with (first | (go_at_call 33; refine (reach46 _ _ _).mono ?_; rintro e w' ⟨rfl, rfl⟩) | (go_at_call 34; refine (mkX _ _ _).mono ?_; rintro e w' ⟨rfl, rfl⟩))
  exact bodyPost_ret (v := P2 o l) (by simp [results, Try.results35, go_sem]) rfl ⟨rfl, rfl⟩
theorem zp_false (o l : Int) (w : World) (hr : reachB o l = false) : Calls Try.prog 35 #[.int .u32 o, .int .u32 l] w fun e w' => e = .returned (P2 0 0) ∧ (w.alloc (C2 0 0)).alloc (C2 0 0) = w' := by
  go_enter Try.func35, Try.ntmps35
  go_wp2_with (first | (go_at_call 33; refine (reach46 _ _ _).mono ?_; rintro e w' ⟨rfl, rfl⟩) | (go_at_call 34; refine (mkX _ _ _).mono ?_; rintro e w' ⟨rfl, rfl⟩))
  exact bodyPost_ret (v := P2 0 0) (by simp [results, Try.results35, go_sem]) rfl ⟨rfl, rfl⟩
theorem zp_any (o l : Int) (w : World) : Calls Try.prog 35 #[.int .u32 o, .int .u32 l] w fun e w' => e = .returned (P2 (zO o l) (zL o l)) ∧ Below w.heap.size w w' := by
  cases hr : reachB o l
  · have e1 : zO o l = 0 := by unfold zO; rw [hr]; rfl
    have e2 : zL o l = 0 := by unfold zL; rw [hr]; rfl
    rw [e1, e2]
    exact (zp_false o l w hr).mono fun _ _ k => ⟨k.1, k.2 ▸ balloc (balloc (Below.refl _ _) _) _⟩
  · have e1 : zO o l = o := by unfold zO; rw [hr]; rfl
    have e2 : zL o l = l := by unfold zL; rw [hr]; rfl
    rw [e1, e2]
    exact (zp_true o l w hr).mono fun _ _ k => ⟨k.1, k.2 ▸ balloc (balloc (Below.refl _ _) _) _⟩
theorem mk_any (o l : Int) (w : World) : Calls Try.prog 34 #[.int .u32 o, .int .u32 l] w fun e w' => e = .returned (P2 o l) ∧ Below w.heap.size w w' :=
  (mkX o l w).mono fun _ _ k => ⟨k.1, k.2 ▸ balloc (Below.refl _ _) _⟩
theorem litWord_x (o l o2 l2 : Int) (w : World) : Calls Try.prog 37 #[P2 o l, P2 o2 l2] w fun e w' => e = .returned (.pointer (some ⟨w.heap.size + 1 + 1 + 1 + 1, 0, none⟩)) ∧
    ((((w.alloc (C2 o l)).alloc (C2 o2 l2)).alloc (.cells #[.int .u32 o, .int .u32 l, .int .u32 o2, .int .u32 l2, .string ⟨#[120]⟩] 41)).alloc (.cells #[.iface 39 (.pointer (some ⟨w.heap.size + 1 + 1, 0, none⟩))] 83)).alloc (.cells #[.slice (some ⟨w.heap.size + 1 + 1 + 1, 0, none⟩) 1 1] 123) = w' := by
  go_enter Try.func37, Try.ntmps37
  go_wp2
  go_ret
  exact ⟨rfl, rfl⟩
theorem litWord_any (o l o2 l2 : Int) (w : World) : Calls Try.prog 37 #[P2 o l, P2 o2 l2] w fun e w' => ∃ b, e = .returned (.pointer (some ⟨b, 0, none⟩)) ∧ Below w.heap.size w w' ∧ EndsAt w' b o2 l2 :=
  (litWord_x o l o2 l2 w).mono fun _ _ k => by
    obtain ⟨k1, rfl⟩ := k
    exact ⟨_, k1, balloc (balloc (balloc (balloc (balloc (Below.refl _ _) _) _) _) _) _, ends_lit _ (w.heap.size + 1 + 1 + 1) 1 (w.heap.size + 1 + 1) _ _ _ (by go_simp) (by go_simp) (by go_simp) (by go_simp)⟩

theorem sglWord_x (o l o2 l2 : Int) (w : World) : Calls Try.prog 36 #[P2 o l, P2 o2 l2] w fun e w' => e = .returned (.pointer (some ⟨w.heap.size + 1 + 1 + 1 + 1, 0, none⟩)) ∧
    ((((w.alloc (C2 o l)).alloc (C2 o2 l2)).alloc (.cells #[.int .u32 o, .int .u32 l, .int .u32 o2, .int .u32 l2, .bool false, .string ⟨#[120]⟩] 103)).alloc (.cells #[.iface 101 (.pointer (some ⟨w.heap.size + 1 + 1, 0, none⟩))] 83)).alloc (.cells #[.slice (some ⟨w.heap.size + 1 + 1 + 1, 0, none⟩) 1 1] 123) = w' := by
  go_enter Try.func36, Try.ntmps36
  go_wp2
  go_ret
  exact ⟨rfl, rfl⟩
theorem sglWord_any (o l o2 l2 : Int) (w : World) (o0 : 0 ≤ o2) (l0 : 0 ≤ l2) (l1 : l2 < 4294967296) : Calls Try.prog 36 #[P2 o l, P2 o2 l2] w fun e w' => ∃ b, e = .returned (.pointer (some ⟨b, 0, none⟩)) ∧ Below w.heap.size w w' ∧ EndsAt w' b (addO o2 l2 1) (addL o2 l2 1) :=
  (sglWord_x o l o2 l2 w).mono fun _ _ k => by
    obtain ⟨k1, rfl⟩ := k
    exact ⟨_, k1, balloc (balloc (balloc (balloc (balloc (Below.refl _ _) _) _) _) _) _, ends_sgl _ (w.heap.size + 1 + 1 + 1) 1 (w.heap.size + 1 + 1) _ _ _ o0 l0 l1 (by go_simp) (by go_simp) (by go_simp) (by go_simp)⟩

end Go.Proofs.Ytjpodhmjmohblaa
