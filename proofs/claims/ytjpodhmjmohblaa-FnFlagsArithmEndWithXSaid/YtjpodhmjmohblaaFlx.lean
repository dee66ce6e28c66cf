/- The walk of the law FnFlagsArithmEndWithX: it returns true at every input. -/
import Derived.Test.YtjpodhmjmohblaaKit2
namespace Go.Proofs.Ytjpodhmjmohblaa
open Go.RowKit
set_option linter.unusedVariables false

set_option maxHeartbeats 2000000 in
theorem flx_false (fo fl : Int) (go gl : Int) (so sl : Int) (xo xl : Int) (w : World) (fo0 : 0 ≤ fo) (fo1 : fo < 4294967296) (fl0 : 0 ≤ fl) (fl1 : fl < 4294967296) (go0 : 0 ≤ go) (go1 : go < 4294967296) (gl0 : 0 ≤ gl) (gl1 : gl < 4294967296) (so0 : 0 ≤ so) (so1 : so < 4294967296) (sl0 : 0 ≤ sl) (sl1 : sl < 4294967296) (xo0 : 0 ≤ xo) (xo1 : xo < 4294967296) (xl0 : 0 ≤ xl) (xl1 : xl < 4294967296) (hr : reachB xo xl = true) : Calls Try.prog 7 #[.int .u32 fo, .int .u32 fl, .int .u32 go, .int .u32 gl, .int .u32 so, .int .u32 sl, .int .u32 xo, .int .u32 xl, .bool false] w fun e w' => e = .returned (.bool true) ∧ Below w.heap.size w w' := by
  go_enter Try.func7, Try.ntmps7
  go_wp2_with (first | (go_at_call 33; refine (reach46 _ _ _).mono ?_; rintro e w' ⟨rfl, rfl⟩) | (go_at_call 34; refine (mkX _ _ _).mono ?_; rintro e w' ⟨rfl, rfl⟩))
  refine (zp_any _ _ _).mono ?_
  rintro e w1 ⟨rfl, hb⟩
  have hB : Below w.heap.size w w1 := btrans (balloc (balloc (Below.refl _ _) _) _) hb
  have k0 : w1.cell? ⟨w.heap.size + 1, 0, none⟩ = some (.int .u32 xo) := blater hb (by go_simp)
  have k1 : w1.cell? ⟨w.heap.size + 1, 1, none⟩ = some (.int .u32 xl) := blater hb (by go_simp)
  have g0 := later k0
  have g1 := later k1
  clear hb
  go_wp2_with fail
  refine (litWord_any _ _ _ _ _).mono ?_
  rintro e w2 ⟨q, rfl, hb, E⟩
  replace k0 := blater hb (g0 _)
  replace k1 := blater hb (g1 _)
  replace hB := btrans (balloc hB _) hb
  clear hb g0 g1
  go_wp2_with fail
  refine (zp_any _ _ _).mono ?_
  rintro e w3 ⟨rfl, hb⟩
  replace k0 := blater hb k0
  replace k1 := blater hb k1
  replace hB := btrans hB hb
  replace E := E.later hb
  clear hb
  go_wp2_with fail
  refine (zp_any _ _ _).mono ?_
  rintro e w4 ⟨rfl, hb⟩
  replace k0 := blater hb k0
  replace k1 := blater hb k1
  replace hB := btrans hB hb
  replace E := E.later hb
  clear hb
  go_wp2_with fail
  refine (flagsWord_any _ _ _ _ _ _).mono ?_
  rintro e w5 ⟨fb, rfl, hb, F⟩
  replace k0 := blater hb k0
  replace k1 := blater hb k1
  replace hB := btrans hB hb
  replace E := E.later hb
  clear hb
  go_wp2_with fail
  refine (mk_any _ _ _).mono ?_
  rintro e w6 ⟨rfl, hb⟩
  replace k0 := blater hb k0
  replace k1 := blater hb k1
  replace hB := btrans hB hb
  replace E := E.later hb
  replace F := blater hb F
  clear hb
  go_wp2_with fail
  refine (mk_any _ _ _).mono ?_
  rintro e w7 ⟨rfl, hb⟩
  replace k0 := blater hb k0
  replace k1 := blater hb k1
  replace hB := btrans hB hb
  replace E := E.later hb
  replace F := blater hb F
  clear hb
  go_wp2_with fail
  refine (flagsWord_any _ _ _ _ _ _).mono ?_
  rintro e w8 ⟨gb, rfl, hb, G⟩
  replace k0 := blater hb k0
  replace k1 := blater hb k1
  replace hB := btrans hB hb
  replace E := E.later hb
  replace F := blater hb F
  clear hb
  go_wp2_with fail
  refine (flagsEnd _ q xo xl _ F E).mono ?_
  rintro e w9 ⟨rfl, hb⟩
  replace k0 := blater hb k0
  replace k1 := blater hb k1
  replace hB := btrans hB hb
  replace E := E.later hb
  replace F := blater hb F
  replace G := blater hb G
  clear hb
  obtain ⟨B, hBB⟩ : ∃ B, B = w9.heap.size := ⟨_, rfl⟩
  have HBB := Lib.hid hBB
  clear hBB
  go_wp2_with fail
  refine gen (fun W => Below w.heap.size w W ∧ W.cell? ⟨w.heap.size + 1, 0, none⟩ = some (.int .u32 xo) ∧ W.cell? ⟨w.heap.size + 1, 1, none⟩ = some (.int .u32 xl) ∧ W.cell? ⟨B, 0, none⟩ = some (.int .u32 xo) ∧ W.cell? ⟨B, 1, none⟩ = some (.int .u32 xl) ∧ W.cell? ⟨gb, 1, none⟩ = some (.iface 36 (.pointer (some ⟨q, 0, none⟩))) ∧ EndsAt W q xo xl) ?_ ?_
  · rw [HBB.out]
    exact ⟨balloc hB _, later k0 _, later k1 _, by go_simp, by go_simp, later G _, E.later (balloc (Below.refl _ _) _)⟩
  clear hB k0 k1 E F G
  rintro W ⟨hB, k0, k1, k2, k3, G, E⟩
  rw [← HBB.out]
  go_region_held3 (fun w' => Below w.heap.size w w' ∧ w'.cell? ⟨w.heap.size + 1, 0, none⟩ = some (.int .u32 xo) ∧ w'.cell? ⟨w.heap.size + 1, 1, none⟩ = some (.int .u32 xl) ∧ w'.cell? ⟨B, 0, none⟩ = some (.int .u32 xo) ∧ w'.cell? ⟨B, 1, none⟩ = some (.int .u32 xl) ∧ w'.cell? ⟨gb, 1, none⟩ = some (.iface 36 (.pointer (some ⟨q, 0, none⟩))) ∧ EndsAt w' q xo xl) (((go_split_ands; (refine ⟨?_, ?_, ?_, ?_, ?_, ?_, ?_⟩) <;> (first | assumption | (with_reducible refine Below.drew ?_; assumption) | (with_reducible refine EndsAt.drew ?_; assumption) | (with_reducible refine btrans ?_ hb; assumption) | (with_reducible refine blater hb ?_; assumption) | (with_reducible refine EndsAt.later hb ?_; assumption))))) (first | (go_at_call 39; go_split_ands; refine (flagsEnd _ q xo xl _ ?_ ?_).mono ?_; (focus assumption); (focus assumption); rintro e w' ⟨rfl, hb⟩) | (go_at_call 40; go_split_ands; refine (EndsAt.here (o := xo) (l := xl) ?_).mono ?_; (focus assumption); rintro e w' ⟨rfl, hb⟩))
  go_split_ands
  go_wp2
  go_ret
  refine ⟨ret_bool (by simp), ?_⟩
  repeat (first | assumption | exact hB.drew | (with_reducible refine Below.drew ?_) | refine btrans ?_ (by assumption))

set_option maxHeartbeats 2000000 in
theorem flx_true (fo fl : Int) (go gl : Int) (so sl : Int) (xo xl : Int) (w : World) (fo0 : 0 ≤ fo) (fo1 : fo < 4294967296) (fl0 : 0 ≤ fl) (fl1 : fl < 4294967296) (go0 : 0 ≤ go) (go1 : go < 4294967296) (gl0 : 0 ≤ gl) (gl1 : gl < 4294967296) (so0 : 0 ≤ so) (so1 : so < 4294967296) (sl0 : 0 ≤ sl) (sl1 : sl < 4294967296) (xo0 : 0 ≤ xo) (xo1 : xo < 4294967296) (xl0 : 0 ≤ xl) (xl1 : xl < 4294967296) (hr : reachB xo xl = true) : Calls Try.prog 7 #[.int .u32 fo, .int .u32 fl, .int .u32 go, .int .u32 gl, .int .u32 so, .int .u32 sl, .int .u32 xo, .int .u32 xl, .bool true] w fun e w' => e = .returned (.bool true) ∧ Below w.heap.size w w' := by
  go_enter Try.func7, Try.ntmps7
  go_wp2_with (first | (go_at_call 33; refine (reach46 _ _ _).mono ?_; rintro e w' ⟨rfl, rfl⟩) | (go_at_call 34; refine (mkX _ _ _).mono ?_; rintro e w' ⟨rfl, rfl⟩))
  refine (zp_any _ _ _).mono ?_
  rintro e w1 ⟨rfl, hb⟩
  have hB : Below w.heap.size w w1 := btrans (balloc (balloc (Below.refl _ _) _) _) hb
  have k0 : w1.cell? ⟨w.heap.size + 1, 0, none⟩ = some (.int .u32 xo) := blater hb (by go_simp)
  have k1 : w1.cell? ⟨w.heap.size + 1, 1, none⟩ = some (.int .u32 xl) := blater hb (by go_simp)
  have g0 := later k0
  have g1 := later k1
  clear hb
  go_wp2_with fail
  refine (sglWord_any _ _ _ _ _ xo0 xl0 xl1).mono ?_
  rintro e w2 ⟨q, rfl, hb, E⟩
  replace k0 := blater hb (g0 _)
  replace k1 := blater hb (g1 _)
  replace hB := btrans (balloc hB _) hb
  clear hb g0 g1
  go_wp2_with fail
  refine (zp_any _ _ _).mono ?_
  rintro e w3 ⟨rfl, hb⟩
  replace k0 := blater hb k0
  replace k1 := blater hb k1
  replace hB := btrans hB hb
  replace E := E.later hb
  clear hb
  go_wp2_with fail
  refine (zp_any _ _ _).mono ?_
  rintro e w4 ⟨rfl, hb⟩
  replace k0 := blater hb k0
  replace k1 := blater hb k1
  replace hB := btrans hB hb
  replace E := E.later hb
  clear hb
  go_wp2_with fail
  refine (flagsWord_any _ _ _ _ _ _).mono ?_
  rintro e w5 ⟨fb, rfl, hb, F⟩
  replace k0 := blater hb k0
  replace k1 := blater hb k1
  replace hB := btrans hB hb
  replace E := E.later hb
  clear hb
  go_wp2_with fail
  refine (mk_any _ _ _).mono ?_
  rintro e w6 ⟨rfl, hb⟩
  replace k0 := blater hb k0
  replace k1 := blater hb k1
  replace hB := btrans hB hb
  replace E := E.later hb
  replace F := blater hb F
  clear hb
  go_wp2_with fail
  refine (mk_any _ _ _).mono ?_
  rintro e w7 ⟨rfl, hb⟩
  replace k0 := blater hb k0
  replace k1 := blater hb k1
  replace hB := btrans hB hb
  replace E := E.later hb
  replace F := blater hb F
  clear hb
  go_wp2_with fail
  refine (flagsWord_any _ _ _ _ _ _).mono ?_
  rintro e w8 ⟨gb, rfl, hb, G⟩
  replace k0 := blater hb k0
  replace k1 := blater hb k1
  replace hB := btrans hB hb
  replace E := E.later hb
  replace F := blater hb F
  clear hb
  go_wp2_with fail
  refine (flagsEnd _ q (addO xo xl 1) (addL xo xl 1) _ F E).mono ?_
  rintro e w9 ⟨rfl, hb⟩
  replace k0 := blater hb k0
  replace k1 := blater hb k1
  replace hB := btrans hB hb
  replace E := E.later hb
  replace F := blater hb F
  replace G := blater hb G
  clear hb
  obtain ⟨B, hBB⟩ : ∃ B, B = w9.heap.size := ⟨_, rfl⟩
  have HBB := Lib.hid hBB
  clear hBB
  go_wp2_with fail
  refine gen (fun W => Below w.heap.size w W ∧ W.cell? ⟨w.heap.size + 1, 0, none⟩ = some (.int .u32 xo) ∧ W.cell? ⟨w.heap.size + 1, 1, none⟩ = some (.int .u32 xl) ∧ W.cell? ⟨B, 0, none⟩ = some (.int .u32 (addO xo xl 1)) ∧ W.cell? ⟨B, 1, none⟩ = some (.int .u32 (addL xo xl 1)) ∧ W.cell? ⟨gb, 1, none⟩ = some (.iface 36 (.pointer (some ⟨q, 0, none⟩))) ∧ EndsAt W q (addO xo xl 1) (addL xo xl 1)) ?_ ?_
  · rw [HBB.out]
    exact ⟨balloc hB _, later k0 _, later k1 _, by go_simp, by go_simp, later G _, E.later (balloc (Below.refl _ _) _)⟩
  clear hB k0 k1 E F G
  rintro W ⟨hB, k0, k1, k2, k3, G, E⟩
  rw [← HBB.out]
  go_region_held3 (fun w' => Below w.heap.size w w' ∧ w'.cell? ⟨w.heap.size + 1, 0, none⟩ = some (.int .u32 xo) ∧ w'.cell? ⟨w.heap.size + 1, 1, none⟩ = some (.int .u32 xl) ∧ w'.cell? ⟨B, 0, none⟩ = some (.int .u32 (addO xo xl 1)) ∧ w'.cell? ⟨B, 1, none⟩ = some (.int .u32 (addL xo xl 1)) ∧ w'.cell? ⟨gb, 1, none⟩ = some (.iface 36 (.pointer (some ⟨q, 0, none⟩))) ∧ EndsAt w' q (addO xo xl 1) (addL xo xl 1)) (((go_split_ands; (refine ⟨?_, ?_, ?_, ?_, ?_, ?_, ?_⟩) <;> (first | assumption | (with_reducible refine Below.drew ?_; assumption) | (with_reducible refine EndsAt.drew ?_; assumption) | (with_reducible refine btrans ?_ hb; assumption) | (with_reducible refine blater hb ?_; assumption) | (with_reducible refine EndsAt.later hb ?_; assumption))))) (first | (go_at_call 39; go_split_ands; refine (flagsEnd _ q (addO xo xl 1) (addL xo xl 1) _ ?_ ?_).mono ?_; (focus assumption); (focus assumption); rintro e w' ⟨rfl, hb⟩) | (go_at_call 40; go_split_ands; refine (EndsAt.here (o := (addO xo xl 1)) (l := (addL xo xl 1)) ?_).mono ?_; (focus assumption); rintro e w' ⟨rfl, hb⟩))
  go_split_ands
  go_wp2_with (first | (go_at_call 41; refine (shift_any _ _ _ xo0 xo1 xl0 xl1).mono ?_; rintro e w' ⟨rfl, hb⟩))
  go_ret
  refine ⟨ret_bool (by simp), ?_⟩
  repeat (first | assumption | exact hB.drew | (with_reducible refine Below.drew ?_) | refine btrans ?_ (by assumption))

theorem flx_law (fo fl : Int) (go gl : Int) (so sl : Int) (xo xl : Int) (w : World) (fo0 : 0 ≤ fo) (fo1 : fo < 4294967296) (fl0 : 0 ≤ fl) (fl1 : fl < 4294967296) (go0 : 0 ≤ go) (go1 : go < 4294967296) (gl0 : 0 ≤ gl) (gl1 : gl < 4294967296) (so0 : 0 ≤ so) (so1 : so < 4294967296) (sl0 : 0 ≤ sl) (sl1 : sl < 4294967296) (xo0 : 0 ≤ xo) (xo1 : xo < 4294967296) (xl0 : 0 ≤ xl) (xl1 : xl < 4294967296) (s : Bool) : Calls Try.prog 7 #[.int .u32 fo, .int .u32 fl, .int .u32 go, .int .u32 gl, .int .u32 so, .int .u32 sl, .int .u32 xo, .int .u32 xl, .bool s] w fun e w' => e = .returned (.bool true) ∧ Below w.heap.size w w' := by
  cases hr : reachB xo xl
  · go_enter Try.func7, Try.ntmps7
    go_wp2_with (first | (go_at_call 33; refine (reach46 _ _ _).mono ?_; rintro e w' ⟨rfl, rfl⟩))
    go_ret
    exact ⟨rfl, Below.refl _ _⟩
  · cases s
    · exact flx_false fo fl go gl so sl xo xl w fo0 fo1 fl0 fl1 go0 go1 gl0 gl1 so0 so1 sl0 sl1 xo0 xo1 xl0 xl1 hr
    · exact flx_true fo fl go gl so sl xo xl w fo0 fo1 fl0 fl1 go0 go1 gl0 gl1 so0 so1 sl0 sl1 xo0 xo1 xl0 xl1 hr
end Go.Proofs.Ytjpodhmjmohblaa
