/- The walk of the law FnPosErrFirstErrorWins: it returns true at every input. -/
import Derived.Test.YtjhiglfihjehcaaFmtWin
namespace Go.Proofs.YtjhiglfihjehcaaFmt
open Go.RowKit Go.Extern.Stop Go.Stop Go.Extern
set_option linter.unusedVariables false
theorem win_o0 (nm f1 f2 : ByteArray) (tok on o1 l1 o2 l2 : Int) (la : Option Addr) (ll lc : Nat) (ba : Option Addr) (bl bc : Nat) (w : World) (m0 : nm.size ≤ 9223372036854775807) (m1 : ll ≤ 9223372036854775807) (m2 : bl ≤ 9223372036854775807) (m3 : f1.size ≤ 9223372036854775807) (m4 : f2.size ≤ 9223372036854775807) (h : 1048576 < nm.size + ll + bl + f1.size + f2.size) : Calls Tryf.prog 4 #[.string nm, .int .u32 tok, .int .u32 o1, .int .u32 l1, .int .u32 o2, .int .u32 l2, .int .i64 on, .slice la ll lc, .slice ba bl bc, .string f1, .string f2] w fun e w' => e = .returned (.bool true) ∧ Below w.heap.size w w' := by
  have h2 : (1048576 : Int) < (nm.size : Int) + (ll : Int) + (bl : Int) + (f1.size : Int) + (f2.size : Int) := by omega
  go_enter Tryf.func4, Tryf.ntmps4
  go_wp2_with (go_at_call 12; go_in)
  all_goals
    go_ret
    exact ⟨rfl, Below.refl _ _⟩
theorem win_o1 (nm f1 f2 : ByteArray) (tok on o1 l1 o2 l2 : Int) (la : Option Addr) (ll lc : Nat) (ba : Option Addr) (bl bc : Nat) (w : World) (h : nm.size + ll + bl + f1.size + f2.size ≤ 1048576) (ht : 143 < tok) : Calls Tryf.prog 4 #[.string nm, .int .u32 tok, .int .u32 o1, .int .u32 l1, .int .u32 o2, .int .u32 l2, .int .i64 on, .slice la ll lc, .slice ba bl bc, .string f1, .string f2] w fun e w' => e = .returned (.bool true) ∧ Below w.heap.size w w' := by
  have h2 : (nm.size : Int) + (ll : Int) + (bl : Int) + (f1.size : Int) + (f2.size : Int) ≤ 1048576 := by omega
  have d6 : decide (143 < tok) = true := by simp; omega
  go_enter Tryf.func4, Tryf.ntmps4
  go_wp2_with (first | (go_at_call 12; go_in) | (go_at_call 13; go_in))
  all_goals
    go_ret
    exact ⟨rfl, Below.refl _ _⟩
set_option maxHeartbeats 2000000 in
theorem win_in (F : Interp) (nm f1 f2 : ByteArray) (tok on o1 l1 o2 l2 : Int) (la : Option Addr) (ll lc : Nat) (ba : Option Addr) (bl bc : Nat) (w : World) (za zb : List Int) (hF : F.answers w.tape) (h : nm.size + ll + bl + f1.size + f2.size ≤ 1048576) (ht : tok ≤ 143) (ra : IsRowB w la ll lc za) (rb : IsRowB w ba bl bc zb) : Calls Tryf.prog 4 #[.string nm, .int .u32 tok, .int .u32 o1, .int .u32 l1, .int .u32 o2, .int .u32 l2, .int .i64 on, .slice la ll lc, .slice ba bl bc, .string f1, .string f2] w fun e w' => e = .returned (.bool true) ∧ Below w.heap.size w w' := by
  have h2 : (nm.size : Int) + (ll : Int) + (bl : Int) + (f1.size : Int) + (f2.size : Int) ≤ 1048576 := by omega
  have d6 : decide (143 < tok) = false := by simp; omega
  have CA := Lib.hid (clB_any la ll lc za w (by omega) ra)
  have RB := Lib.hid rb
  have HF := Lib.hid hF
  clear ra rb hF
  go_enter Tryf.func4, Tryf.ntmps4
  go_wp2_with (first | (go_at_call 12; go_in) | (go_at_call 13; go_in))
  refine CA.out.mono ?_
  rintro e w1 ⟨la1, lc1, rfl, hb1⟩
  have CB := Lib.hid (clB_any ba bl bc zb w1 (by omega) (RB.out.later hb1))
  have HB1 := Lib.hid hb1
  clear hb1 CA RB
  go_wp2_with fail
  refine CB.out.mono ?_
  rintro e w2 ⟨ba1, bc1, rfl, hb2⟩
  have HB2 := Lib.hid (btr HB1.out hb2)
  clear hb2 CB HB1
  go_wp2_with fail
  refine (mkPosB _ _ _).mono ?_
  rintro e w3 ⟨rfl, hb3⟩
  have HB3 := Lib.hid (btr (btr HB2.out hb3) (bloc _ (.cells #[.int .u32 o1, .int .u32 l1] 31)))
  clear hb3 HB2
  go_wp2_with fail
  refine (mkPosB _ _ _).mono ?_
  rintro e w4 ⟨rfl, hb4⟩
  have k10 : w4.cell? ⟨w3.heap.size, 0, none⟩ = some (.int .u32 o1) := blater hb4 (by go_simp)
  have k11 : w4.cell? ⟨w3.heap.size, 1, none⟩ = some (.int .u32 l1) := blater hb4 (by go_simp)
  have q1 : w3.heap.size < w4.heap.size := lt_of_cell k10
  have hb4' := bloc w4 (.cells #[.int .u32 o2, .int .u32 l2] 31)
  replace k10 := blater hb4' k10
  replace k11 := blater hb4' k11
  have HB4 := Lib.hid (btr (btr HB3.out hb4) hb4')
  have hs4 := Lib.hid (show w.heap.size ≤ w4.heap.size from (btr HB3.out hb4).size)
  clear hb4 hb4' HB3
  go_wp2_with fail
  refine (mkB nm tok o2 l2 on la1 ll lc1 ba1 bl bc1 _).mono ?_
  rintro e w5 ⟨rfl, hz5, hb5⟩
  have k20 : w5.cell? ⟨w4.heap.size, 0, none⟩ = some (.int .u32 o2) := blater hb5 (by go_simp)
  have k21 : w5.cell? ⟨w4.heap.size, 1, none⟩ = some (.int .u32 l2) := blater hb5 (by go_simp)
  replace k10 := blater hb5 k10
  replace k11 := blater hb5 k11
  have HZ5 := Lib.hid hz5
  rw [World.size_alloc] at HZ5
  rw [World.size_alloc]
  have HB5 := Lib.hid (btr HB4.out hb5)
  clear hb5 hz5 HB4
  go_wp2_with fail
  refine (pe_first F _ _ nm tok on la1 ll lc1 ba1 bl bc1 _ _ _ _ _ f1 _ (by rw [HB5.out.tape]; exact HF.out) (by omega) HZ5.out).mono ?_
  rintro e w6 ⟨⟨u6, rfl⟩, ⟨t, hz6⟩, hb6⟩
  have hbp := hb6 _ (Nat.le_refl _)
  replace k10 := (hbp.cell (by show w3.heap.size < _; omega)).trans k10
  replace k11 := (hbp.cell (by show w3.heap.size < _; omega)).trans k11
  replace k20 := (hbp.cell (by show w4.heap.size < _; omega)).trans k20
  replace k21 := (hbp.cell (by show w4.heap.size < _; omega)).trans k21
  have HB6 := Lib.hid (HB5.out.trans (hb6 _ (by have := hs4.out; omega)))
  obtain ⟨ib, hib⟩ : ∃ ib, ib = (decide (tok = 1) && incB on ll) := ⟨_, rfl⟩
  rw [← hib] at hz6
  have HZ6 := Lib.hid hz6
  clear hb6 hbp hz6 HZ5 HB5 hib
  go_wp2_with fail
  refine (rdB _ nm o1 l1 t ib _ HZ6.out.cell_er.1).mono ?_
  rintro e w7 ⟨rfl, hb7⟩
  replace k10 := blater hb7 k10
  replace k11 := blater hb7 k11
  replace k20 := blater hb7 k20
  replace k21 := blater hb7 k21
  have HZ7 := Lib.hid ((HZ6.out.later hb7).later (bloc _ (.cells #[.string nm, .int .u32 o1, .int .u32 l1, .string t, .bool ib] 38)))
  have HB7 := Lib.hid (btr (btr HB6.out hb7) (bloc _ (.cells #[.string nm, .int .u32 o1, .int .u32 l1, .string t, .bool ib] 38)))
  have hb7' := bloc w7 (.cells #[.string nm, .int .u32 o1, .int .u32 l1, .string t, .bool ib] 38)
  replace k10 := blater hb7' k10
  replace k11 := blater hb7' k11
  replace k20 := blater hb7' k20
  replace k21 := blater hb7' k21
  clear hb7 hb7' HZ6 HB6
  go_wp2_with fail
  refine (pe_again F _ _ nm tok on la1 ll lc1 ba1 bl bc1 38 _ _ _ _ _ _ f2 _ (by rw [HB7.out.tape]; exact HF.out) (by exact HZ7.out)).mono ?_
  rintro e w8 ⟨⟨u8, rfl⟩, hz8, hb8⟩
  have e10 : w8.cell? ⟨w7.heap.size, 0, none⟩ = some (.string nm) := blater hb8 (by go_simp)
  have e11 : w8.cell? ⟨w7.heap.size, 1, none⟩ = some (.int .u32 o1) := blater hb8 (by go_simp)
  have e12 : w8.cell? ⟨w7.heap.size, 2, none⟩ = some (.int .u32 l1) := blater hb8 (by go_simp)
  have e13 : w8.cell? ⟨w7.heap.size, 3, none⟩ = some (.string t) := blater hb8 (by go_simp)
  have e14 : w8.cell? ⟨w7.heap.size, 4, none⟩ = some (.bool ib) := blater hb8 (by go_simp)
  replace k10 := blater hb8 k10
  replace k11 := blater hb8 k11
  have HZ8 := Lib.hid hz8
  have HB8 := Lib.hid (btr HB7.out hb8)
  clear hb8 hz8 HZ7 HB7 k20 k21
  go_wp2_with fail
  refine (rdB _ nm o1 l1 t ib _ HZ8.out.cell_er.1).mono ?_
  rintro e w9 ⟨rfl, hb9⟩
  have hb9' := bloc w9 (.cells #[.string nm, .int .u32 o1, .int .u32 l1, .string t, .bool ib] 38)
  replace k10 := blater hb9 k10
  replace k11 := blater hb9 k11
  replace e10 := blater hb9 e10
  replace e11 := blater hb9 e11
  replace e12 := blater hb9 e12
  replace e13 := blater hb9 e13
  replace e14 := blater hb9 e14
  replace k10 := blater hb9' k10
  replace k11 := blater hb9' k11
  replace e10 := blater hb9' e10
  replace e11 := blater hb9' e11
  replace e12 := blater hb9' e12
  replace e13 := blater hb9' e13
  replace e14 := blater hb9' e14
  have HZ9 := Lib.hid ((HZ8.out.later hb9).later hb9')
  have HB9 := Lib.hid (btr (btr HB8.out hb9) hb9')
  clear hb9 hb9' HZ8 HB8
  go_wp2_with fail
  refine (sameF nm o1 l1 t ib _).mono ?_
  rintro e w10 ⟨rfl, hb10⟩
  have e20 : w10.cell? ⟨w9.heap.size, 0, none⟩ = some (.string nm) := blater hb10 (by go_simp)
  have e21 : w10.cell? ⟨w9.heap.size, 1, none⟩ = some (.int .u32 o1) := blater hb10 (by go_simp)
  have e22 : w10.cell? ⟨w9.heap.size, 2, none⟩ = some (.int .u32 l1) := blater hb10 (by go_simp)
  have e23 : w10.cell? ⟨w9.heap.size, 3, none⟩ = some (.string t) := blater hb10 (by go_simp)
  have e24 : w10.cell? ⟨w9.heap.size, 4, none⟩ = some (.bool ib) := blater hb10 (by go_simp)
  replace k10 := blater hb10 k10
  replace k11 := blater hb10 k11
  replace e10 := blater hb10 e10
  replace e11 := blater hb10 e11
  replace e12 := blater hb10 e12
  replace e13 := blater hb10 e13
  replace e14 := blater hb10 e14
  have HZ10 := Lib.hid (HZ9.out.later hb10)
  have HB10 := Lib.hid (btr HB9.out hb10)
  clear hb10 HZ9 HB9
  go_wp2_with fail
  refine (samePos o1 l1 _).mono ?_
  rintro e w11 ⟨rfl, hb11⟩
  have HZ11 := Lib.hid (HZ10.out.later hb11)
  have HB11 := Lib.hid (btr HB10.out hb11)
  clear hb11 HZ10 HB10
  go_wp2_with fail
  refine (lexA _ _ nm on la1 ll lc1 ba1 bl bc1 _ _ (by omega) HZ11.out).mono ?_
  rintro e w12 ⟨rfl, hb12⟩
  have HB12 := Lib.hid (btr HB11.out hb12)
  clear hb12 HZ11 HB11
  go_wp2
  go_ret
  exact ⟨by first | rfl | simp, HB12.out⟩
theorem win_law (F : Interp) (nm f1 f2 : ByteArray) (tok on o1 l1 o2 l2 : Int) (la : Option Addr) (ll lc : Nat) (ba : Option Addr) (bl bc : Nat) (w : World) (za zb : List Int) (hF : F.answers w.tape) (m0 : nm.size ≤ maxLen) (m1 : f1.size ≤ maxLen) (m2 : f2.size ≤ maxLen) (ra : IsRowB w la ll lc za) (rb : IsRowB w ba bl bc zb) : Calls Tryf.prog 4 #[.string nm, .int .u32 tok, .int .u32 o1, .int .u32 l1, .int .u32 o2, .int .u32 l2, .int .i64 on, .slice la ll lc, .slice ba bl bc, .string f1, .string f2] w fun e w' => e = .returned (.bool true) ∧ Below w.heap.size w w' := by
  unfold maxLen at m0 m1 m2
  have m3 := ra.len
  have m4 := rb.len
  by_cases h0 : nm.size + ll + bl + f1.size + f2.size ≤ 1048576
  · by_cases h1 : tok ≤ 143
    · exact win_in F nm f1 f2 tok on o1 l1 o2 l2 la ll lc ba bl bc w za zb hF h0 h1 ra rb
    · exact win_o1 nm f1 f2 tok on o1 l1 o2 l2 la ll lc ba bl bc w h0 (by omega)
  · exact win_o0 nm f1 f2 tok on o1 l1 o2 l2 la ll lc ba bl bc w m0 m3 m4 m1 m2 (by omega)
end Go.Proofs.YtjhiglfihjehcaaFmt
