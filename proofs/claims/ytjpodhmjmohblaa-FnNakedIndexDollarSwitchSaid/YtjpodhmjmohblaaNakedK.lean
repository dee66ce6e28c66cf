/- Contracts for the law FnNakedIndexDollarSwitch: positions, literals, one-literal words, ParamExp.nakedIndex, Pos and End. -/
import Derived.Test.YtjpodhmjmohblaaKit2
namespace Go.Proofs.Ytjpodhmjmohblaa
open Go.RowKit
set_option linter.unusedVariables false

theorem mk38 (o l : Int) (w : World) : Calls Try.prog 81 #[.int .u32 o, .int .u32 l] w fun e w' => e = .returned (P2 o l) ∧ w.alloc (C2 o l) = w' := by
  go_enter Try.func81, Try.ntmps81
  go_wp2
  exact bodyPost_ret (v := P2 o l) (by simp [results, Try.results81, go_sem]) rfl ⟨rfl, rfl⟩

theorem shl14 (ln c : Int) (l0 : 0 ≤ ln) (l1 : ln ≤ 262143) (c0 : 0 ≤ c) (c1 : c ≤ 16383) : bits .or .u32 (ln * 16384) c = ln * 16384 + c := by
  have h := orL (ln * 16384) c (by omega) (by omega) c0 c1
  have e1 : bits .andNot .u32 (ln * 16384) 16383 = ln * 16384 := by
    have e := IntKind.wrap_u32
    show _ = _
    go_bits2
  rw [e1] at h
  rw [h]; omega
theorem np_any (o ln c : Int) (w : World) (l0 : 0 ≤ ln) (l1 : ln ≤ 262143) (c0 : 0 ≤ c) (c1 : c ≤ 16383) :
    Calls Try.prog 57 #[.int .u32 o, .int .u32 ln, .int .u32 c] w fun e w' => e = .returned (P2 o (ln * 16384 + c)) ∧ Below w.heap.size w w' := by
  have hs := shl14 ln c l0 l1 c0 c1
  go_enter Try.func57, Try.ntmps57
  go_wp2_with fail
  refine (mk38 _ _ _).mono ?_
  rintro e w1 ⟨rfl, rfl⟩
  go_wp2
  exact bodyPost_ret (v := P2 o (ln * 16384 + c)) (by simp [results, Try.results57, go_sem]) rfl ⟨rfl, balloc (balloc (Below.refl _ _) _) _⟩

theorem zlit_any (o ln c n : Int) (w : World) (o0 : 0 ≤ o) (o1 : o ≤ 2000000000) (l0 : 0 ≤ ln) (l1 : ln ≤ 262143) (c0 : 0 ≤ c) (c1 : c ≤ 10000) (n0 : 0 ≤ n) (n1 : n ≤ 4096) :
    Calls Try.prog 52 #[.int .u32 o, .int .u32 ln, .int .u32 c, .int .u32 n] w fun e w' => ∃ b, e = .returned (.pointer (some ⟨b, 0, none⟩)) ∧ Below w.heap.size w w' ∧
      w'.cell? ⟨b, 0, none⟩ = some (.int .u32 o) ∧ w'.cell? ⟨b, 1, none⟩ = some (.int .u32 (ln * 16384 + c)) ∧ w'.cell? ⟨b, 2, none⟩ = some (.int .u32 (o + n)) ∧ w'.cell? ⟨b, 3, none⟩ = some (.int .u32 (ln * 16384 + (c + n))) := by
  go_enter Try.func52, Try.ntmps52
  go_wp2_with fail
  refine (np_any _ _ _ _ l0 l1 (by omega) (by omega)).mono ?_
  rintro e w1 ⟨rfl, hb1⟩
  go_wp2_with fail
  refine (np_any _ _ _ _ l0 l1 (by omega) (by omega)).mono ?_
  rintro e w2 ⟨rfl, hb2⟩
  go_wp2
  go_ret
  exact ⟨_, rfl, balloc (btrans hb1 hb2) _, by go_simp, by go_simp, by go_simp, by go_simp⟩
theorem zidx_any (o ln c n : Int) (w : World) (o0 : 0 ≤ o) (o1 : o ≤ 2000000000) (l0 : 0 ≤ ln) (l1 : ln ≤ 262143) (c0 : 0 ≤ c) (c1 : c ≤ 10000) (n0 : 0 ≤ n) (n1 : n ≤ 4096) :
    Calls Try.prog 51 #[.int .u32 o, .int .u32 ln, .int .u32 c, .int .u32 n] w fun e w' => ∃ b, e = .returned (.pointer (some ⟨b, 0, none⟩)) ∧ Below w.heap.size w w' ∧ EndsAt w' b (o + n) (ln * 16384 + (c + n)) := by
  go_enter Try.func51, Try.ntmps51
  go_wp2_with fail
  refine (zlit_any _ _ _ _ _ o0 o1 l0 l1 c0 c1 n0 n1).mono ?_
  rintro e w1 ⟨p, rfl, hb, a0, a1, a2, a3⟩
  have hlt : p < w1.heap.size := World.block_lt_of_cell? w1 _ a0
  go_wp2
  go_ret
  exact ⟨_, rfl, balloc (balloc hb _) _, ends_lit _ w1.heap.size 1 p _ _ _ (by go_simp) (by go_simp) (later (later a2 _) _) (later (later a3 _) _)⟩

theorem naked_true (b : Nat) (d dl : Int) (x : Value) (w : World) (h4 : w.cell? ⟨b, 4, none⟩ = some (.bool true)) (hx : w.cell? ⟨b, 15, none⟩ = some (.iface 36 x)) (h0 : w.cell? ⟨b, 0, none⟩ = some (.int .u32 d)) (h1 : w.cell? ⟨b, 1, none⟩ = some (.int .u32 dl)) (hv : validB d dl = false) :
    Calls Try.prog 53 #[.pointer (some ⟨b, 0, none⟩)] w fun e w' => e = .returned (.bool true) ∧ Below w.heap.size w w' := by
  go_enter Try.func53, Try.ntmps53
  go_wp2_with (first | (go_at_call 74; refine (valid_x _ _ _).mono ?_; rintro e w' ⟨rfl, rfl⟩) | go_in)
  go_ret
  exact ⟨rfl, balloc (Below.refl _ _) _⟩
theorem naked_false (b : Nat) (d dl : Int) (x : Value) (w : World) (h4 : w.cell? ⟨b, 4, none⟩ = some (.bool true)) (hx : w.cell? ⟨b, 15, none⟩ = some (.iface 36 x)) (h0 : w.cell? ⟨b, 0, none⟩ = some (.int .u32 d)) (h1 : w.cell? ⟨b, 1, none⟩ = some (.int .u32 dl)) (hv : validB d dl = true) :
    Calls Try.prog 53 #[.pointer (some ⟨b, 0, none⟩)] w fun e w' => e = .returned (.bool false) ∧ Below w.heap.size w w' := by
  go_enter Try.func53, Try.ntmps53
  go_wp2_with (first | (go_at_call 74; refine (valid_x _ _ _).mono ?_; rintro e w' ⟨rfl, rfl⟩) | go_in)
  go_ret
  exact ⟨rfl, balloc (Below.refl _ _) _⟩
theorem pePos_no (b p : Nat) (d dl o l : Int) (w : World) (h0 : w.cell? ⟨b, 0, none⟩ = some (.int .u32 d)) (h1 : w.cell? ⟨b, 1, none⟩ = some (.int .u32 dl)) (hv : validB d dl = false) (hp : w.cell? ⟨b, 13, none⟩ = some (.pointer (some ⟨p, 0, none⟩))) (a0 : w.cell? ⟨p, 0, none⟩ = some (.int .u32 o)) (a1 : w.cell? ⟨p, 1, none⟩ = some (.int .u32 l)) :
    Calls Try.prog 54 #[.pointer (some ⟨b, 0, none⟩)] w fun e w' => e = .returned (P2 o l) ∧ Below w.heap.size w w' := by
  have g0 := later h0
  have g1 := later h1
  go_enter Try.func54, Try.ntmps54
  go_wp2_with fail
  refine (valid_any _ _ _).mono ?_
  rintro e w1 ⟨rfl, hb⟩
  obtain ⟨r0, r1, f0, f1, hB⟩ := rcell hb
  clear g0 g1 hb
  replace hp := blater hB hp
  replace a0 := blater hB a0
  replace a1 := blater hB a1
  go_wp2_with fail
  refine (wLitPos _ o l _ a0 a1).mono ?_
  rintro e w2 ⟨rfl, rfl⟩
  have hb : Below w1.heap.size w1 (w1.alloc (C2 o l)) := balloc (Below.refl _ _) _
  have s0 := blater hb r0
  have s1 := blater hb r1
  have t0 := bfro2 hb r0 f0
  have t1 := bfro2 hb r1 f1
  replace hB := btrans hB hb
  clear hb r0 r1 f0 f1 hp a0 a1
  go_wp2
  refine bodyPost_ret (v := P2 o l) (by simp [results, Try.results54, go_sem, s0, s1]) rfl ⟨rfl, rend hB _ _⟩
theorem pePos_yes (b : Nat) (d dl : Int) (w : World) (h0 : w.cell? ⟨b, 0, none⟩ = some (.int .u32 d)) (h1 : w.cell? ⟨b, 1, none⟩ = some (.int .u32 dl)) (hv : validB d dl = true) :
    Calls Try.prog 54 #[.pointer (some ⟨b, 0, none⟩)] w fun e w' => e = .returned (P2 d dl) ∧ Below w.heap.size w w' := by
  have g0 := later h0
  have g1 := later h1
  go_enter Try.func54, Try.ntmps54
  go_wp2_with fail
  refine (valid_any _ _ _).mono ?_
  rintro e w1 ⟨rfl, hb⟩
  obtain ⟨r0, r1, f0, f1, hB⟩ := rcell hb
  clear g0 g1 hb
  replace h0 := blater hB h0
  replace h1 := blater hB h1
  go_wp2
  refine bodyPost_ret (v := P2 d dl) (by simp [results, Try.results54, go_sem, r0, r1]) rfl ⟨rfl, rend hB _ _⟩
theorem litPos_any (b : Nat) (o l : Int) (w : World) (h0 : w.cell? ⟨b, 0, none⟩ = some (.int .u32 o)) (h1 : w.cell? ⟨b, 1, none⟩ = some (.int .u32 l)) : Calls Try.prog 55 #[.pointer (some ⟨b, 0, none⟩)] w fun e w' => e = .returned (P2 o l) ∧ Below w.heap.size w w' :=
  (wLitPos b o l w h0 h1).mono fun _ _ k => ⟨k.1, k.2 ▸ balloc (Below.refl _ _) _⟩
theorem peEnd (b q : Nat) (o l : Int) (w : World) (o0 : 0 ≤ o) (l0 : 0 ≤ l) (l1 : l < 4294967296) (h4 : w.cell? ⟨b, 4, none⟩ = some (.bool true)) (hx : w.cell? ⟨b, 15, none⟩ = some (.iface 36 (.pointer (some ⟨q, 0, none⟩)))) (E : EndsAt w q o l) :
    Calls Try.prog 56 #[.pointer (some ⟨b, 0, none⟩)] w fun e w' => e = .returned (P2 (addO o l 1) (addL o l 1)) ∧ Below w.heap.size w w' := by
  have g4 := later h4
  have gx := later hx
  have n1 := nil_word
  have n2 := meth_word
  go_enter Try.func56, Try.ntmps56
  go_wp2_with (first | (go_at_call 40; refine (E _ (balloc (Below.refl _ _) _)).mono ?_; rintro e w1 ⟨rfl, hb⟩; obtain ⟨r0, r1, f0, f1, hB⟩ := rcell hb; clear hb) | (go_at_call 73; refine (add_any _ _ _ _ o0 l0 l1 (by omega) (by omega)).mono ?_; rintro e w1 ⟨rfl, hb⟩; replace f0 := bfro2 hb r0 f0; replace f1 := bfro2 hb r1 f1; replace r0 := blater hb r0; replace r1 := blater hb r1; replace hB := btrans hB hb))
  refine bodyPost_ret (v := P2 (addO o l 1) (addL o l 1)) (by simp [results, Try.results56, go_sem, r0, r1]) rfl ⟨rfl, rend hB _ _⟩
end Go.Proofs.Ytjpodhmjmohblaa
