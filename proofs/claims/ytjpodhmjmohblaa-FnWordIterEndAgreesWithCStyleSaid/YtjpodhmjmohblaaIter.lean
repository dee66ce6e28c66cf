/- The walk of the law FnWordIterEndAgreesWithCStyle: it returns true at every input. -/
import Derived.Test.YtjpodhmjmohblaaWords
namespace Go.Proofs.Ytjpodhmjmohblaa
open Go.RowKit
set_option linter.unusedVariables false

theorem ok66 (o l : Int) (w : World) : Calls Try.prog 20 #[.int .u32 o, .int .u32 l] w fun e w' => e = .returned (.bool (reachB o l)) ∧ w = w' := by
  have E1 := Lib.hid (show reachB o l = (decide (o ≤ 4294967284) || (o == 4294967285 && l == 0)) from rfl)
  by_cases a : o ≤ 4294967284
  · go_enter Try.func20, Try.ntmps20
    go_wp2
    go_ret
    exact ⟨ret_bool (by rw [E1.out]; simp [a]), rfl⟩
  · cases b : (o == 4294967285)
    · go_enter Try.func20, Try.ntmps20
      go_wp2
      go_ret
      exact ⟨ret_bool (by rw [E1.out]; simp [b]; omega), rfl⟩
    · go_enter Try.func20, Try.ntmps20
      go_wp2
      go_ret
      exact ⟨ret_bool (by rw [E1.out]; simp [b]; omega), rfl⟩

theorem mk66 (o l : Int) (w : World) : Calls Try.prog 21 #[.int .u32 o, .int .u32 l] w fun e w' => e = .returned (P2 o l) ∧ w.alloc (C2 o l) = w' := by
  go_enter Try.func21, Try.ntmps21
  go_wp2
  exact bodyPost_ret (v := P2 o l) (by simp [results, Try.results21, go_sem]) rfl ⟨rfl, rfl⟩

theorem csEnd_ok (b : Nat) (o l : Int) (w : World) (hv : validB o l = true) (o0 : 0 ≤ o) (l0 : 0 ≤ l) (l1 : l < 4294967296) (h0 : w.cell? ⟨b, 2, none⟩ = some (.int .u32 o)) (h1 : w.cell? ⟨b, 3, none⟩ = some (.int .u32 l)) :
    Calls Try.prog 22 #[.pointer (some ⟨b, 0, none⟩)] w fun e w' => e = .returned (P2 (addO o l 2) (addL o l 2)) ∧ ((((w.alloc (C2 (addO o l 2) (addL o l 2))).alloc (C2 (addO o l 2) (addL o l 2))).alloc (C2 (addO o l 2) (addL o l 2))).alloc (C2 o l)).alloc (C2 o l) = w' := by
  have g0 := later h0
  have g1 := later h1
  go_enter Try.func22, Try.ntmps22
  go_wp2_with fail
  refine (add_ok _ _ _ _ hv o0 l0 l1 (by omega) (by omega)).mono ?_
  rintro e w1 ⟨rfl, rfl⟩
  clear g0 g1 h0 h1
  go_wp2
  exact bodyPost_ret (v := P2 (addO o l 2) (addL o l 2)) (by simp [results, Try.results22, go_sem]) rfl ⟨rfl, rfl⟩

theorem csEnd_bad (b : Nat) (o l : Int) (w : World) (hv : validB o l = false) (h0 : w.cell? ⟨b, 2, none⟩ = some (.int .u32 o)) (h1 : w.cell? ⟨b, 3, none⟩ = some (.int .u32 l)) :
    Calls Try.prog 22 #[.pointer (some ⟨b, 0, none⟩)] w fun e w' => e = .returned (P2 o l) ∧ (((w.alloc (C2 o l)).alloc (C2 o l)).alloc (C2 o l)).alloc (C2 o l) = w' := by
  have g0 := later h0
  have g1 := later h1
  go_enter Try.func22, Try.ntmps22
  go_wp2_with fail
  refine (add_bad _ _ _ _ hv).mono ?_
  rintro e w1 ⟨rfl, rfl⟩
  clear g0 g1 h0 h1
  go_wp2
  exact bodyPost_ret (v := P2 o l) (by simp [results, Try.results22, go_sem]) rfl ⟨rfl, rfl⟩

theorem max_t (o l o2 l2 : Int) (w : World) (ha : afterB o2 l2 o = true) : Calls Try.prog 76 #[P2 o l, P2 o2 l2] w fun e w' => e = .returned (P2 o2 l2) ∧ ((((((w.alloc (C2 o l)).alloc (C2 o2 l2)).alloc (C2 o2 l2)).alloc (C2 o2 l2)).alloc (C2 o l)).alloc (C2 o2 l2)) = w' := by
  go_enter Try.func76, Try.ntmps76
  go_wp2_with (go_at_call 24; refine (after_x _ _ _ _ _).mono ?_; rintro e w' ⟨rfl, rfl⟩)
  exact bodyPost_ret (v := P2 o2 l2) (by simp [results, Try.results76, go_sem]) rfl ⟨rfl, rfl⟩

theorem max_f (o l o2 l2 : Int) (w : World) (ha : afterB o2 l2 o = false) : Calls Try.prog 76 #[P2 o l, P2 o2 l2] w fun e w' => e = .returned (P2 o l) ∧ ((((((w.alloc (C2 o l)).alloc (C2 o2 l2)).alloc (C2 o l)).alloc (C2 o2 l2)).alloc (C2 o l)).alloc (C2 o2 l2)) = w' := by
  go_enter Try.func76, Try.ntmps76
  go_wp2_with (go_at_call 24; refine (after_x _ _ _ _ _).mono ?_; rintro e w' ⟨rfl, rfl⟩)
  exact bodyPost_ret (v := P2 o l) (by simp [results, Try.results76, go_sem]) rfl ⟨rfl, rfl⟩

theorem setl {w W : World} {b k : Nat} {x y v : Value} (hlt : b < w.heap.size) (h : W.cell? ⟨b, k, none⟩ = some v) : ((W.setCell ⟨w.heap.size, 0, none⟩ x).setCell ⟨w.heap.size, 1, none⟩ y).cell? ⟨b, k, none⟩ = some v := by
  rw [World.cell?_setCell_other _ _ _ _ (fun e => by simp only [Addr.mk.injEq] at e; omega), World.cell?_setCell_other _ _ _ _ (fun e => by simp only [Addr.mk.injEq] at e; omega)]
  exact h
theorem bfro {w w' : World} {p : Addr} {v : Value} (hb : Below w.heap.size w w') (h : w.cell? p = some v) (hf : w.frozen? p = false) : w'.frozen? p = false := (hb.frozen (World.block_lt_of_cell? w _ h)).trans hf
theorem litEnd_b (b : Nat) (o l : Int) (w : World) (h0 : w.cell? ⟨b, 2, none⟩ = some (.int .u32 o)) (h1 : w.cell? ⟨b, 3, none⟩ = some (.int .u32 l)) :
    Calls Try.prog 23 #[.pointer (some ⟨b, 0, none⟩)] w fun e w' => e = .returned (P2 o l) ∧ Below w.heap.size w w' :=
  (wLitEnd b o l w h0 h1).mono fun _ _ h => ⟨h.1, h.2 ▸ balloc (Below.refl _ _) _⟩
theorem max_tb (o l o2 l2 : Int) (w : World) (ha : afterB o2 l2 o = true) : Calls Try.prog 76 #[P2 o l, P2 o2 l2] w fun e w' => e = .returned (P2 o2 l2) ∧ Below w.heap.size w w' :=
  (max_t o l o2 l2 w ha).mono fun _ _ h => ⟨h.1, h.2 ▸ balloc (balloc (balloc (balloc (balloc (balloc (Below.refl _ _) _) _) _) _) _) _⟩
theorem max_fb (o l o2 l2 : Int) (w : World) (ha : afterB o2 l2 o = false) : Calls Try.prog 76 #[P2 o l, P2 o2 l2] w fun e w' => e = .returned (P2 o l) ∧ Below w.heap.size w w' :=
  (max_f o l o2 l2 w ha).mono fun _ _ h => ⟨h.1, h.2 ▸ balloc (balloc (balloc (balloc (balloc (balloc (Below.refl _ _) _) _) _) _) _) _⟩
set_option maxHeartbeats 400000 in
theorem iterEnd_t (b p : Nat) (o l no nl : Int) (w : World) (o0 : 0 ≤ o) (l0 : 0 ≤ l) (l1 : l < 4294967296) (ha : afterB (addO o l 2) (addL o l 2) no = true) (hn : w.cell? ⟨b, 3, none⟩ = some (.slice none 0 0)) (hp : w.cell? ⟨b, 0, none⟩ = some (.pointer (some ⟨p, 0, none⟩))) (h0 : w.cell? ⟨b, 1, none⟩ = some (.int .u32 o)) (h1 : w.cell? ⟨b, 2, none⟩ = some (.int .u32 l)) (k0 : w.cell? ⟨p, 2, none⟩ = some (.int .u32 no)) (k1 : w.cell? ⟨p, 3, none⟩ = some (.int .u32 nl)) :
    Calls Try.prog 25 #[.pointer (some ⟨b, 0, none⟩)] w fun e w' => e = .returned (P2 (addO o l 2) (addL o l 2)) ∧ Below w.heap.size w w' := by
  have gn := later hn
  have hlt : b < w.heap.size := World.block_lt_of_cell? w _ hp
  go_enter Try.func25, Try.ntmps25
  go_wp2_with fail
  refine gen (fun W => Below w.heap.size w W ∧ W.cell? ⟨b, 0, none⟩ = some (.pointer (some ⟨p, 0, none⟩)) ∧ W.cell? ⟨b, 1, none⟩ = some (.int .u32 o) ∧ W.cell? ⟨b, 2, none⟩ = some (.int .u32 l) ∧ W.cell? ⟨p, 2, none⟩ = some (.int .u32 no) ∧ W.cell? ⟨p, 3, none⟩ = some (.int .u32 nl) ∧ W.cell? ⟨w.heap.size, 0, none⟩ = some (.int .u32 0) ∧ W.cell? ⟨w.heap.size, 1, none⟩ = some (.int .u32 0) ∧ W.frozen? ⟨w.heap.size, 0, none⟩ = false ∧ W.frozen? ⟨w.heap.size, 1, none⟩ = false) ?_ ?_
  · exact ⟨balloc (Below.refl _ _) _, later hp _, later h0 _, later h1 _, later k0 _, later k1 _, by simp, by simp, by simp, by simp⟩
  clear gn hn hp h0 h1 k0 k1
  rintro W ⟨hB, hp, h0, h1, k0, k1, r0, r1, f0, f1⟩
  go_region_held3 (fun w' => w'.cell? ⟨b, 0, none⟩ = some (.pointer (some ⟨p, 0, none⟩)) ∧ w'.cell? ⟨b, 1, none⟩ = some (.int .u32 o) ∧ w'.cell? ⟨b, 2, none⟩ = some (.int .u32 l)) (first | (go_split_ands; (refine ⟨?_, ?_, ?_⟩) <;> assumption) | (go_split_ands; (refine ⟨blater hb ?_, blater hb ?_, blater hb ?_⟩) <;> assumption) | (go_split_ands; (refine ⟨setl hlt ?_, setl hlt ?_, setl hlt ?_⟩) <;> assumption) | go_keep) (first | (go_at_call 23; refine (litEnd_b _ no nl _ ?_ ?_).mono ?_; (focus (go_simp; done)); (focus (go_simp; done)); rintro e w' ⟨rfl, hb⟩; replace f0 := bfro hb r0 f0; replace f1 := bfro hb r1 f1; replace r0 := blater hb r0; replace r1 := blater hb r1) | (go_at_call 73; refine (add_any _ _ _ _ o0 l0 l1 (by omega) (by omega)).mono ?_; rintro e w' ⟨rfl, hb⟩; replace f0 := bfro hb r0 f0; replace f1 := bfro hb r1 f1; replace r0 := blater hb r0; replace r1 := blater hb r1) | (go_at_call 76; refine (max_tb _ _ _ _ _ ha).mono ?_; rintro e w' ⟨rfl, hb⟩; replace f0 := bfro hb r0 f0; replace f1 := bfro hb r1 f1; replace r0 := blater hb r0; replace r1 := blater hb r1))
  go_wp2
  refine bodyPost_ret (v := P2 (addO o l 2) (addL o l 2)) (by simp [results, Try.results25, go_sem, r0, r1]) rfl ⟨rfl, ?_⟩
  refine bset (bset ?_ (Nat.le_refl _) _) (Nat.le_refl _) _
  repeat (first | assumption | exact hB.drew | (with_reducible refine Below.drew ?_) | refine btrans ?_ (by assumption))

set_option maxHeartbeats 400000 in
theorem iterEnd_f (b p : Nat) (o l no nl : Int) (w : World) (o0 : 0 ≤ o) (l0 : 0 ≤ l) (l1 : l < 4294967296) (ha : afterB (addO o l 2) (addL o l 2) no = false) (hn : w.cell? ⟨b, 3, none⟩ = some (.slice none 0 0)) (hp : w.cell? ⟨b, 0, none⟩ = some (.pointer (some ⟨p, 0, none⟩))) (h0 : w.cell? ⟨b, 1, none⟩ = some (.int .u32 o)) (h1 : w.cell? ⟨b, 2, none⟩ = some (.int .u32 l)) (k0 : w.cell? ⟨p, 2, none⟩ = some (.int .u32 no)) (k1 : w.cell? ⟨p, 3, none⟩ = some (.int .u32 nl)) :
    Calls Try.prog 25 #[.pointer (some ⟨b, 0, none⟩)] w fun e w' => e = .returned (P2 no nl) ∧ Below w.heap.size w w' := by
  have gn := later hn
  have hlt : b < w.heap.size := World.block_lt_of_cell? w _ hp
  go_enter Try.func25, Try.ntmps25
  go_wp2_with fail
  refine gen (fun W => Below w.heap.size w W ∧ W.cell? ⟨b, 0, none⟩ = some (.pointer (some ⟨p, 0, none⟩)) ∧ W.cell? ⟨b, 1, none⟩ = some (.int .u32 o) ∧ W.cell? ⟨b, 2, none⟩ = some (.int .u32 l) ∧ W.cell? ⟨p, 2, none⟩ = some (.int .u32 no) ∧ W.cell? ⟨p, 3, none⟩ = some (.int .u32 nl) ∧ W.cell? ⟨w.heap.size, 0, none⟩ = some (.int .u32 0) ∧ W.cell? ⟨w.heap.size, 1, none⟩ = some (.int .u32 0) ∧ W.frozen? ⟨w.heap.size, 0, none⟩ = false ∧ W.frozen? ⟨w.heap.size, 1, none⟩ = false) ?_ ?_
  · exact ⟨balloc (Below.refl _ _) _, later hp _, later h0 _, later h1 _, later k0 _, later k1 _, by simp, by simp, by simp, by simp⟩
  clear gn hn hp h0 h1 k0 k1
  rintro W ⟨hB, hp, h0, h1, k0, k1, r0, r1, f0, f1⟩
  go_region_held3 (fun w' => w'.cell? ⟨b, 0, none⟩ = some (.pointer (some ⟨p, 0, none⟩)) ∧ w'.cell? ⟨b, 1, none⟩ = some (.int .u32 o) ∧ w'.cell? ⟨b, 2, none⟩ = some (.int .u32 l)) (first | (go_split_ands; (refine ⟨?_, ?_, ?_⟩) <;> assumption) | (go_split_ands; (refine ⟨blater hb ?_, blater hb ?_, blater hb ?_⟩) <;> assumption) | (go_split_ands; (refine ⟨setl hlt ?_, setl hlt ?_, setl hlt ?_⟩) <;> assumption) | go_keep) (first | (go_at_call 23; refine (litEnd_b _ no nl _ ?_ ?_).mono ?_; (focus (go_simp; done)); (focus (go_simp; done)); rintro e w' ⟨rfl, hb⟩; replace f0 := bfro hb r0 f0; replace f1 := bfro hb r1 f1; replace r0 := blater hb r0; replace r1 := blater hb r1) | (go_at_call 73; refine (add_any _ _ _ _ o0 l0 l1 (by omega) (by omega)).mono ?_; rintro e w' ⟨rfl, hb⟩; replace f0 := bfro hb r0 f0; replace f1 := bfro hb r1 f1; replace r0 := blater hb r0; replace r1 := blater hb r1) | (go_at_call 76; refine (max_fb _ _ _ _ _ ha).mono ?_; rintro e w' ⟨rfl, hb⟩; replace f0 := bfro hb r0 f0; replace f1 := bfro hb r1 f1; replace r0 := blater hb r0; replace r1 := blater hb r1))
  go_wp2
  refine bodyPost_ret (v := P2 no nl) (by simp [results, Try.results25, go_sem, r0, r1]) rfl ⟨rfl, ?_⟩
  refine bset (bset ?_ (Nat.le_refl _) _) (Nat.le_refl _) _
  repeat (first | assumption | exact hB.drew | (with_reducible refine Below.drew ?_) | refine btrans ?_ (by assumption))

set_option maxHeartbeats 1000000 in
theorem iter_ok_t (po pl no nl io il : Int) (w : World) (a0 : 0 ≤ po) (a1 : po < 4294967296) (b0 : 0 ≤ pl) (b1 : pl < 4294967296) (c0 : 0 ≤ no) (c1 : no < 4294967296) (d0 : 0 ≤ nl) (d1 : nl < 4294967296) (e0 : 0 ≤ io) (e1 : io < 4294967296) (f0 : 0 ≤ il) (f1 : il < 4294967296) (r1 : reachB po pl = true) (r2 : reachB no nl = true) (r3 : reachB io il = true) (hv : validB io il = true) (ha : afterB (addO io il 2) (addL io il 2) no = true) :
    Calls Try.prog 4 #[.int .u32 po, .int .u32 pl, .int .u32 no, .int .u32 nl, .int .u32 io, .int .u32 il] w fun e w' => e = .returned (.bool true) ∧ Below w.heap.size w w' := by
  have hA : afterB (addO io il 2) (addL io il 2) no = true := by exact ha
  go_enter Try.func4, Try.ntmps4
  go_wp2_with (first | (go_at_call 20; refine (ok66 _ _ _).mono ?_; rintro e w' ⟨rfl, rfl⟩) | (go_at_call 21; refine (mk66 _ _ _).mono ?_; rintro e w' ⟨rfl, rfl⟩) | (go_at_call 22; refine (csEnd_ok _ io il _ hv e0 f0 f1 ?_ ?_).mono ?_; (focus (go_simp; done)); (focus (go_simp; done)); rintro e w' ⟨rfl, rfl⟩) | (go_at_call 23; refine (wLitEnd _ no nl _ ?_ ?_).mono ?_; (focus (go_simp; done)); (focus (go_simp; done)); rintro e w' ⟨rfl, rfl⟩) | (go_at_call 24; refine (after_x _ _ _ _ _).mono ?_; rintro e w' ⟨rfl, rfl⟩))
  refine gen (fun W => Below w.heap.size w W ∧ W.cell? ⟨w.heap.size + 1 + 1 + 1 + 1 + 1 + 1 + 1 + 1 + 1 + 1 + 1 + 1 + 1 + 1 + 1, 0, none⟩ = some (.int .u32 (addO io il 2)) ∧ W.cell? ⟨w.heap.size + 1 + 1 + 1 + 1 + 1 + 1 + 1 + 1 + 1 + 1 + 1 + 1 + 1 + 1 + 1, 1, none⟩ = some (.int .u32 (addL io il 2)) ∧ W.cell? ⟨w.heap.size + 1 + 1 + 1 + 1 + 1, 0, none⟩ = some (.pointer (some ⟨w.heap.size + 1 + 1 + 1 + 1, 0, none⟩)) ∧ W.cell? ⟨w.heap.size + 1 + 1 + 1 + 1 + 1, 1, none⟩ = some (.int .u32 io) ∧ W.cell? ⟨w.heap.size + 1 + 1 + 1 + 1 + 1, 2, none⟩ = some (.int .u32 il) ∧ W.cell? ⟨w.heap.size + 1 + 1 + 1 + 1 + 1, 3, none⟩ = some (.slice none 0 0) ∧ W.cell? ⟨w.heap.size + 1 + 1 + 1 + 1, 2, none⟩ = some (.int .u32 no) ∧ W.cell? ⟨w.heap.size + 1 + 1 + 1 + 1, 3, none⟩ = some (.int .u32 nl)) ?_ ?_
  · refine ⟨?_, ?_, ?_, ?_, ?_, ?_, ?_, ?_, ?_⟩
    · repeat (first | (with_reducible refine Below.drew ?_) | (with_reducible refine balloc ?_ _))
      exact Below.refl _ _
    all_goals go_simp
  rintro W ⟨hB, k0, k1, k2, k3, k4, k5, k6, k7⟩
  go_region_held3 (fun w' => w'.cell? ⟨w.heap.size + 1 + 1 + 1 + 1 + 1 + 1 + 1 + 1 + 1 + 1 + 1 + 1 + 1 + 1 + 1, 0, none⟩ = some (.int .u32 (addO io il 2)) ∧ w'.cell? ⟨w.heap.size + 1 + 1 + 1 + 1 + 1 + 1 + 1 + 1 + 1 + 1 + 1 + 1 + 1 + 1 + 1, 1, none⟩ = some (.int .u32 (addL io il 2))) (first | (go_split_ands; (refine ⟨?_, ?_⟩) <;> assumption) | (go_split_ands; (refine ⟨blater hb ?_, blater hb ?_⟩) <;> assumption) | go_keep) (first | (go_at_call 25; refine (iterEnd_t _ (w.heap.size + 1 + 1 + 1 + 1) io il no nl _ e0 f0 f1 hA ?_ ?_ ?_ ?_ ?_ ?_).mono ?_; (focus (go_simp; done)); (focus (go_simp; done)); (focus (go_simp; done)); (focus (go_simp; done)); (focus (go_simp; done)); (focus (go_simp; done)); rintro e w' ⟨rfl, hb⟩))
  go_wp2
  go_ret
  refine ⟨rfl, ?_⟩
  repeat (first | assumption | exact hB.drew | (with_reducible refine Below.drew ?_) | refine btrans ?_ (by assumption))

set_option maxHeartbeats 1000000 in
theorem iter_ok_f (po pl no nl io il : Int) (w : World) (a0 : 0 ≤ po) (a1 : po < 4294967296) (b0 : 0 ≤ pl) (b1 : pl < 4294967296) (c0 : 0 ≤ no) (c1 : no < 4294967296) (d0 : 0 ≤ nl) (d1 : nl < 4294967296) (e0 : 0 ≤ io) (e1 : io < 4294967296) (f0 : 0 ≤ il) (f1 : il < 4294967296) (r1 : reachB po pl = true) (r2 : reachB no nl = true) (r3 : reachB io il = true) (hv : validB io il = true) (ha : afterB (addO io il 2) (addL io il 2) no = false) :
    Calls Try.prog 4 #[.int .u32 po, .int .u32 pl, .int .u32 no, .int .u32 nl, .int .u32 io, .int .u32 il] w fun e w' => e = .returned (.bool true) ∧ Below w.heap.size w w' := by
  have hA : afterB (addO io il 2) (addL io il 2) no = false := by exact ha
  go_enter Try.func4, Try.ntmps4
  go_wp2_with (first | (go_at_call 20; refine (ok66 _ _ _).mono ?_; rintro e w' ⟨rfl, rfl⟩) | (go_at_call 21; refine (mk66 _ _ _).mono ?_; rintro e w' ⟨rfl, rfl⟩) | (go_at_call 22; refine (csEnd_ok _ io il _ hv e0 f0 f1 ?_ ?_).mono ?_; (focus (go_simp; done)); (focus (go_simp; done)); rintro e w' ⟨rfl, rfl⟩) | (go_at_call 23; refine (wLitEnd _ no nl _ ?_ ?_).mono ?_; (focus (go_simp; done)); (focus (go_simp; done)); rintro e w' ⟨rfl, rfl⟩) | (go_at_call 24; refine (after_x _ _ _ _ _).mono ?_; rintro e w' ⟨rfl, rfl⟩))
  refine gen (fun W => Below w.heap.size w W ∧ W.cell? ⟨w.heap.size + 1 + 1 + 1 + 1 + 1 + 1 + 1 + 1 + 1 + 1 + 1 + 1 + 1 + 1 + 1, 0, none⟩ = some (.int .u32 no) ∧ W.cell? ⟨w.heap.size + 1 + 1 + 1 + 1 + 1 + 1 + 1 + 1 + 1 + 1 + 1 + 1 + 1 + 1 + 1, 1, none⟩ = some (.int .u32 nl) ∧ W.cell? ⟨w.heap.size + 1 + 1 + 1 + 1 + 1, 0, none⟩ = some (.pointer (some ⟨w.heap.size + 1 + 1 + 1 + 1, 0, none⟩)) ∧ W.cell? ⟨w.heap.size + 1 + 1 + 1 + 1 + 1, 1, none⟩ = some (.int .u32 io) ∧ W.cell? ⟨w.heap.size + 1 + 1 + 1 + 1 + 1, 2, none⟩ = some (.int .u32 il) ∧ W.cell? ⟨w.heap.size + 1 + 1 + 1 + 1 + 1, 3, none⟩ = some (.slice none 0 0) ∧ W.cell? ⟨w.heap.size + 1 + 1 + 1 + 1, 2, none⟩ = some (.int .u32 no) ∧ W.cell? ⟨w.heap.size + 1 + 1 + 1 + 1, 3, none⟩ = some (.int .u32 nl)) ?_ ?_
  · refine ⟨?_, ?_, ?_, ?_, ?_, ?_, ?_, ?_, ?_⟩
    · repeat (first | (with_reducible refine Below.drew ?_) | (with_reducible refine balloc ?_ _))
      exact Below.refl _ _
    all_goals go_simp
  rintro W ⟨hB, k0, k1, k2, k3, k4, k5, k6, k7⟩
  go_region_held3 (fun w' => w'.cell? ⟨w.heap.size + 1 + 1 + 1 + 1 + 1 + 1 + 1 + 1 + 1 + 1 + 1 + 1 + 1 + 1 + 1, 0, none⟩ = some (.int .u32 no) ∧ w'.cell? ⟨w.heap.size + 1 + 1 + 1 + 1 + 1 + 1 + 1 + 1 + 1 + 1 + 1 + 1 + 1 + 1 + 1, 1, none⟩ = some (.int .u32 nl)) (first | (go_split_ands; (refine ⟨?_, ?_⟩) <;> assumption) | (go_split_ands; (refine ⟨blater hb ?_, blater hb ?_⟩) <;> assumption) | go_keep) (first | (go_at_call 25; refine (iterEnd_f _ (w.heap.size + 1 + 1 + 1 + 1) io il no nl _ e0 f0 f1 hA ?_ ?_ ?_ ?_ ?_ ?_).mono ?_; (focus (go_simp; done)); (focus (go_simp; done)); (focus (go_simp; done)); (focus (go_simp; done)); (focus (go_simp; done)); (focus (go_simp; done)); rintro e w' ⟨rfl, hb⟩))
  go_wp2
  go_ret
  refine ⟨rfl, ?_⟩
  repeat (first | assumption | exact hB.drew | (with_reducible refine Below.drew ?_) | refine btrans ?_ (by assumption))

set_option maxHeartbeats 1000000 in
theorem iter_bad_t (po pl no nl io il : Int) (w : World) (a0 : 0 ≤ po) (a1 : po < 4294967296) (b0 : 0 ≤ pl) (b1 : pl < 4294967296) (c0 : 0 ≤ no) (c1 : no < 4294967296) (d0 : 0 ≤ nl) (d1 : nl < 4294967296) (e0 : 0 ≤ io) (e1 : io < 4294967296) (f0 : 0 ≤ il) (f1 : il < 4294967296) (r1 : reachB po pl = true) (r2 : reachB no nl = true) (r3 : reachB io il = true) (hv : validB io il = false) (ha : afterB io il no = true) :
    Calls Try.prog 4 #[.int .u32 po, .int .u32 pl, .int .u32 no, .int .u32 nl, .int .u32 io, .int .u32 il] w fun e w' => e = .returned (.bool true) ∧ Below w.heap.size w w' := by
  have hA : afterB (addO io il 2) (addL io il 2) no = true := by rw [(add_inv io il 2 hv).1, (add_inv io il 2 hv).2]; exact ha
  obtain ⟨i1, i2⟩ := add_inv io il 2 hv
  go_enter Try.func4, Try.ntmps4
  go_wp2_with (first | (go_at_call 20; refine (ok66 _ _ _).mono ?_; rintro e w' ⟨rfl, rfl⟩) | (go_at_call 21; refine (mk66 _ _ _).mono ?_; rintro e w' ⟨rfl, rfl⟩) | (go_at_call 22; refine (csEnd_bad _ io il _ hv ?_ ?_).mono ?_; (focus (go_simp; done)); (focus (go_simp; done)); rintro e w' ⟨rfl, rfl⟩) | (go_at_call 23; refine (wLitEnd _ no nl _ ?_ ?_).mono ?_; (focus (go_simp; done)); (focus (go_simp; done)); rintro e w' ⟨rfl, rfl⟩) | (go_at_call 24; refine (after_x _ _ _ _ _).mono ?_; rintro e w' ⟨rfl, rfl⟩))
  refine gen (fun W => Below w.heap.size w W ∧ W.cell? ⟨w.heap.size + 1 + 1 + 1 + 1 + 1 + 1 + 1 + 1 + 1 + 1 + 1 + 1 + 1 + 1, 0, none⟩ = some (.int .u32 io) ∧ W.cell? ⟨w.heap.size + 1 + 1 + 1 + 1 + 1 + 1 + 1 + 1 + 1 + 1 + 1 + 1 + 1 + 1, 1, none⟩ = some (.int .u32 il) ∧ W.cell? ⟨w.heap.size + 1 + 1 + 1 + 1 + 1, 0, none⟩ = some (.pointer (some ⟨w.heap.size + 1 + 1 + 1 + 1, 0, none⟩)) ∧ W.cell? ⟨w.heap.size + 1 + 1 + 1 + 1 + 1, 1, none⟩ = some (.int .u32 io) ∧ W.cell? ⟨w.heap.size + 1 + 1 + 1 + 1 + 1, 2, none⟩ = some (.int .u32 il) ∧ W.cell? ⟨w.heap.size + 1 + 1 + 1 + 1 + 1, 3, none⟩ = some (.slice none 0 0) ∧ W.cell? ⟨w.heap.size + 1 + 1 + 1 + 1, 2, none⟩ = some (.int .u32 no) ∧ W.cell? ⟨w.heap.size + 1 + 1 + 1 + 1, 3, none⟩ = some (.int .u32 nl)) ?_ ?_
  · refine ⟨?_, ?_, ?_, ?_, ?_, ?_, ?_, ?_, ?_⟩
    · repeat (first | (with_reducible refine Below.drew ?_) | (with_reducible refine balloc ?_ _))
      exact Below.refl _ _
    all_goals go_simp
  rintro W ⟨hB, k0, k1, k2, k3, k4, k5, k6, k7⟩
  go_region_held3 (fun w' => w'.cell? ⟨w.heap.size + 1 + 1 + 1 + 1 + 1 + 1 + 1 + 1 + 1 + 1 + 1 + 1 + 1 + 1, 0, none⟩ = some (.int .u32 io) ∧ w'.cell? ⟨w.heap.size + 1 + 1 + 1 + 1 + 1 + 1 + 1 + 1 + 1 + 1 + 1 + 1 + 1 + 1, 1, none⟩ = some (.int .u32 il)) (first | (go_split_ands; (refine ⟨?_, ?_⟩) <;> assumption) | (go_split_ands; (refine ⟨blater hb ?_, blater hb ?_⟩) <;> assumption) | go_keep) (first | (go_at_call 25; refine (iterEnd_t _ (w.heap.size + 1 + 1 + 1 + 1) io il no nl _ e0 f0 f1 hA ?_ ?_ ?_ ?_ ?_ ?_).mono ?_; (focus (go_simp; done)); (focus (go_simp; done)); (focus (go_simp; done)); (focus (go_simp; done)); (focus (go_simp; done)); (focus (go_simp; done)); rintro e w' ⟨rfl, hb⟩))
  go_wp2
  go_ret
  refine ⟨rfl, ?_⟩
  repeat (first | assumption | exact hB.drew | (with_reducible refine Below.drew ?_) | refine btrans ?_ (by assumption))

set_option maxHeartbeats 1000000 in
theorem iter_bad_f (po pl no nl io il : Int) (w : World) (a0 : 0 ≤ po) (a1 : po < 4294967296) (b0 : 0 ≤ pl) (b1 : pl < 4294967296) (c0 : 0 ≤ no) (c1 : no < 4294967296) (d0 : 0 ≤ nl) (d1 : nl < 4294967296) (e0 : 0 ≤ io) (e1 : io < 4294967296) (f0 : 0 ≤ il) (f1 : il < 4294967296) (r1 : reachB po pl = true) (r2 : reachB no nl = true) (r3 : reachB io il = true) (hv : validB io il = false) (ha : afterB io il no = false) :
    Calls Try.prog 4 #[.int .u32 po, .int .u32 pl, .int .u32 no, .int .u32 nl, .int .u32 io, .int .u32 il] w fun e w' => e = .returned (.bool true) ∧ Below w.heap.size w w' := by
  have hA : afterB (addO io il 2) (addL io il 2) no = false := by rw [(add_inv io il 2 hv).1, (add_inv io il 2 hv).2]; exact ha
  obtain ⟨i1, i2⟩ := add_inv io il 2 hv
  go_enter Try.func4, Try.ntmps4
  go_wp2_with (first | (go_at_call 20; refine (ok66 _ _ _).mono ?_; rintro e w' ⟨rfl, rfl⟩) | (go_at_call 21; refine (mk66 _ _ _).mono ?_; rintro e w' ⟨rfl, rfl⟩) | (go_at_call 22; refine (csEnd_bad _ io il _ hv ?_ ?_).mono ?_; (focus (go_simp; done)); (focus (go_simp; done)); rintro e w' ⟨rfl, rfl⟩) | (go_at_call 23; refine (wLitEnd _ no nl _ ?_ ?_).mono ?_; (focus (go_simp; done)); (focus (go_simp; done)); rintro e w' ⟨rfl, rfl⟩) | (go_at_call 24; refine (after_x _ _ _ _ _).mono ?_; rintro e w' ⟨rfl, rfl⟩))
  refine gen (fun W => Below w.heap.size w W ∧ W.cell? ⟨w.heap.size + 1 + 1 + 1 + 1 + 1 + 1 + 1 + 1 + 1 + 1 + 1 + 1 + 1 + 1, 0, none⟩ = some (.int .u32 no) ∧ W.cell? ⟨w.heap.size + 1 + 1 + 1 + 1 + 1 + 1 + 1 + 1 + 1 + 1 + 1 + 1 + 1 + 1, 1, none⟩ = some (.int .u32 nl) ∧ W.cell? ⟨w.heap.size + 1 + 1 + 1 + 1 + 1, 0, none⟩ = some (.pointer (some ⟨w.heap.size + 1 + 1 + 1 + 1, 0, none⟩)) ∧ W.cell? ⟨w.heap.size + 1 + 1 + 1 + 1 + 1, 1, none⟩ = some (.int .u32 io) ∧ W.cell? ⟨w.heap.size + 1 + 1 + 1 + 1 + 1, 2, none⟩ = some (.int .u32 il) ∧ W.cell? ⟨w.heap.size + 1 + 1 + 1 + 1 + 1, 3, none⟩ = some (.slice none 0 0) ∧ W.cell? ⟨w.heap.size + 1 + 1 + 1 + 1, 2, none⟩ = some (.int .u32 no) ∧ W.cell? ⟨w.heap.size + 1 + 1 + 1 + 1, 3, none⟩ = some (.int .u32 nl)) ?_ ?_
  · refine ⟨?_, ?_, ?_, ?_, ?_, ?_, ?_, ?_, ?_⟩
    · repeat (first | (with_reducible refine Below.drew ?_) | (with_reducible refine balloc ?_ _))
      exact Below.refl _ _
    all_goals go_simp
  rintro W ⟨hB, k0, k1, k2, k3, k4, k5, k6, k7⟩
  go_region_held3 (fun w' => w'.cell? ⟨w.heap.size + 1 + 1 + 1 + 1 + 1 + 1 + 1 + 1 + 1 + 1 + 1 + 1 + 1 + 1, 0, none⟩ = some (.int .u32 no) ∧ w'.cell? ⟨w.heap.size + 1 + 1 + 1 + 1 + 1 + 1 + 1 + 1 + 1 + 1 + 1 + 1 + 1 + 1, 1, none⟩ = some (.int .u32 nl)) (first | (go_split_ands; (refine ⟨?_, ?_⟩) <;> assumption) | (go_split_ands; (refine ⟨blater hb ?_, blater hb ?_⟩) <;> assumption) | go_keep) (first | (go_at_call 25; refine (iterEnd_f _ (w.heap.size + 1 + 1 + 1 + 1) io il no nl _ e0 f0 f1 hA ?_ ?_ ?_ ?_ ?_ ?_).mono ?_; (focus (go_simp; done)); (focus (go_simp; done)); (focus (go_simp; done)); (focus (go_simp; done)); (focus (go_simp; done)); (focus (go_simp; done)); rintro e w' ⟨rfl, hb⟩))
  go_wp2
  go_ret
  refine ⟨rfl, ?_⟩
  repeat (first | assumption | exact hB.drew | (with_reducible refine Below.drew ?_) | refine btrans ?_ (by assumption))

theorem iter_in (po pl no nl io il : Int) (w : World) (a0 : 0 ≤ po) (a1 : po < 4294967296) (b0 : 0 ≤ pl) (b1 : pl < 4294967296) (c0 : 0 ≤ no) (c1 : no < 4294967296) (d0 : 0 ≤ nl) (d1 : nl < 4294967296) (e0 : 0 ≤ io) (e1 : io < 4294967296) (f0 : 0 ≤ il) (f1 : il < 4294967296) (r1 : reachB po pl = true) (r2 : reachB no nl = true) (r3 : reachB io il = true) : Calls Try.prog 4 #[.int .u32 po, .int .u32 pl, .int .u32 no, .int .u32 nl, .int .u32 io, .int .u32 il] w fun e w' => e = .returned (.bool true) ∧ Below w.heap.size w w' := by
  cases hv : validB io il
  · cases ha : afterB io il no
    · exact iter_bad_f po pl no nl io il w a0 a1 b0 b1 c0 c1 d0 d1 e0 e1 f0 f1 r1 r2 r3 hv ha
    · exact iter_bad_t po pl no nl io il w a0 a1 b0 b1 c0 c1 d0 d1 e0 e1 f0 f1 r1 r2 r3 hv ha
  · cases ha : afterB (addO io il 2) (addL io il 2) no
    · exact iter_ok_f po pl no nl io il w a0 a1 b0 b1 c0 c1 d0 d1 e0 e1 f0 f1 r1 r2 r3 hv ha
    · exact iter_ok_t po pl no nl io il w a0 a1 b0 b1 c0 c1 d0 d1 e0 e1 f0 f1 r1 r2 r3 hv ha
theorem iter_law (po pl no nl io il : Int) (w : World) (a0 : 0 ≤ po) (a1 : po < 4294967296) (b0 : 0 ≤ pl) (b1 : pl < 4294967296) (c0 : 0 ≤ no) (c1 : no < 4294967296) (d0 : 0 ≤ nl) (d1 : nl < 4294967296) (e0 : 0 ≤ io) (e1 : io < 4294967296) (f0 : 0 ≤ il) (f1 : il < 4294967296) : Calls Try.prog 4 #[.int .u32 po, .int .u32 pl, .int .u32 no, .int .u32 nl, .int .u32 io, .int .u32 il] w fun e w' => e = .returned (.bool true) ∧ Below w.heap.size w w' := by
  cases r1 : reachB po pl
  · go_enter Try.func4, Try.ntmps4
    go_wp2_with (go_at_call 20; refine (ok66 _ _ _).mono ?_; rintro e w' ⟨rfl, rfl⟩)
    go_ret
    exact ⟨rfl, Below.refl _ _⟩
  · cases r2 : reachB no nl
    · go_enter Try.func4, Try.ntmps4
      go_wp2_with (go_at_call 20; refine (ok66 _ _ _).mono ?_; rintro e w' ⟨rfl, rfl⟩)
      go_ret
      exact ⟨rfl, Below.refl _ _⟩
    · cases r3 : reachB io il
      · go_enter Try.func4, Try.ntmps4
        go_wp2_with (go_at_call 20; refine (ok66 _ _ _).mono ?_; rintro e w' ⟨rfl, rfl⟩)
        go_ret
        exact ⟨rfl, Below.refl _ _⟩
      · exact iter_in po pl no nl io il w a0 a1 b0 b1 c0 c1 d0 d1 e0 e1 f0 f1 r1 r2 r3
end Go.Proofs.Ytjpodhmjmohblaa
