/- The walk of the law FnFollowErrFirstErrorStands: it returns true at every input. -/
import Derived.Test.YtjhiglfihjehcaaFmtFol
namespace Go.Proofs.YtjhiglfihjehcaaFmt
open Go.RowKit Go.Extern.Stop Go.Stop Go.Extern
set_option linter.unusedVariables false
def IsRowB (w : World) (a : Option Addr) (len cap : Nat) (zs : List Int) : Prop :=
  (a = none ∧ len = 0 ∧ cap = 0 ∧ zs = []) ∨
  ∃ x, a = some x ∧ len ≤ cap ∧ cap ≤ maxLen ∧ zs.length = cap ∧ (∀ i, i < zs.length → w.cell? (x.add i) = some (.int .u8 (zs.getD i 0))) ∧ ∀ n ∈ zs, (Lit.int .u8 n).wf = true
theorem IsRowB.later {w W : World} {a : Option Addr} {len cap : Nat} {zs : List Int} (h : IsRowB w a len cap zs) (hb : Below w.heap.size w W) : IsRowB W a len cap zs := by
  rcases h with h | ⟨x, h1, h2, h3, h4, h5, h6⟩
  · exact .inl h
  · exact .inr ⟨x, h1, h2, h3, h4, fun i hi => (hb.cell (World.block_lt_of_cell? w _ (h5 i hi))).trans (h5 i hi), h6⟩
theorem IsRowB.len {w : World} {a : Option Addr} {len cap : Nat} {zs : List Int} (h : IsRowB w a len cap zs) : len ≤ 9223372036854775807 := by
  rcases h with ⟨_, rfl, _⟩ | ⟨x, _, h1, h2, _⟩
  · omega
  · unfold maxLen at h2; omega
def ClPost (len : Nat) (w : World) (e : Ending) (w' : World) : Prop := ∃ a c, e = .returned (.slice a len c) ∧ Below w.heap.size w w'
theorem clA_any (a : Option Addr) (len cap : Nat) (zs : List Int) (w : World) (hl : len ≤ 1048576) (h : IsRowB w a len cap zs) : Calls Tryf.prog 7 #[.slice a len cap] w (ClPost len w) := by
  have fin : ∀ e w', clAPost a len zs w e w' → ClPost len w e w' := by
    rintro e w' ⟨v', rfl, hown, hB, ⟨ha, hv⟩ | ⟨ha, hv⟩⟩
    · rcases h with ⟨_, rfl, _⟩ | ⟨x, h1, _⟩
      · exact ⟨none, 0, by rw [hv], hB⟩
      · rw [h1] at ha; cases ha
    · exact ⟨_, _, by rw [hv], hB⟩
  rcases h with ⟨rfl, rfl, rfl, rfl⟩ | ⟨x, rfl, hlc, hm, hzl, hcell, hwf⟩
  · exact (clA_nil [] w).mono fin
  · by_cases h0 : len = 0
    · subst h0; exact (clA_empty x cap zs w).mono fin
    · obtain ⟨b, off, spot⟩ := x
      have hc := hcell 0 (by omega)
      have hspot : spot = none := by simpa [Addr.add] using World.cell?_spot hc
      subst hspot
      refine (clA_some b off len cap zs w (by omega) hl (by omega) (fun i hi => ?_)).mono fin
      have := hcell i (by omega)
      by_cases hi0 : i = 0
      · subst hi0; simpa [Addr.add] using this
      · simpa [Addr.add, hi0] using this
theorem clB_any (a : Option Addr) (len cap : Nat) (zs : List Int) (w : World) (hl : len ≤ 1048576) (h : IsRowB w a len cap zs) : Calls Tryf.prog 14 #[.slice a len cap] w (ClPost len w) := by
  have fin : ∀ e w', clBPost a len zs w e w' → ClPost len w e w' := by
    rintro e w' ⟨v', rfl, hown, hB, ⟨ha, hv⟩ | ⟨ha, hv⟩⟩
    · rcases h with ⟨_, rfl, _⟩ | ⟨x, h1, _⟩
      · exact ⟨none, 0, by rw [hv], hB⟩
      · rw [h1] at ha; cases ha
    · exact ⟨_, _, by rw [hv], hB⟩
  rcases h with ⟨rfl, rfl, rfl, rfl⟩ | ⟨x, rfl, hlc, hm, hzl, hcell, hwf⟩
  · exact (clB_nil [] w).mono fin
  · by_cases h0 : len = 0
    · subst h0; exact (clB_empty x cap zs w).mono fin
    · obtain ⟨b, off, spot⟩ := x
      have hc := hcell 0 (by omega)
      have hspot : spot = none := by simpa [Addr.add] using World.cell?_spot hc
      subst hspot
      refine (clB_some b off len cap zs w (by omega) hl (by omega) (fun i hi => ?_)).mono fin
      have := hcell i (by omega)
      by_cases hi0 : i = 0
      · subst hi0; simpa [Addr.add] using this
      · simpa [Addr.add, hi0] using this
theorem fol_o0 (nm lf rt : ByteArray) (tok on o1 l1 o2 l2 : Int) (la : Option Addr) (ll lc : Nat) (ba : Option Addr) (bl bc : Nat) (w : World) (h0 : 65536 < nm.size) (m0 : nm.size ≤ 9223372036854775807) (m1 : lf.size ≤ 9223372036854775807) (m2 : rt.size ≤ 9223372036854775807) (m3 : ll ≤ 9223372036854775807) (m4 : bl ≤ 9223372036854775807) : Calls Tryf.prog 3 #[.string nm, .int .u32 tok, .int .i64 on, .slice la ll lc, .slice ba bl bc, .int .u32 o1, .int .u32 l1, .int .u32 o2, .int .u32 l2, .string lf, .string rt] w fun e w' => e = .returned (.bool true) ∧ Below w.heap.size w w' := by
  have d0 : decide ((65536 : Int) < (nm.size : Int)) = true := by simp; omega
  go_enter Tryf.func3, Tryf.ntmps3
  go_wp2_with (go_at_call 5; go_in)
  all_goals
    go_ret
    exact ⟨rfl, Below.refl _ _⟩
theorem fol_o1 (nm lf rt : ByteArray) (tok on o1 l1 o2 l2 : Int) (la : Option Addr) (ll lc : Nat) (ba : Option Addr) (bl bc : Nat) (w : World) (h0 : nm.size ≤ 65536) (h1 : 65536 < lf.size) (m1 : lf.size ≤ 9223372036854775807) (m2 : rt.size ≤ 9223372036854775807) (m3 : ll ≤ 9223372036854775807) (m4 : bl ≤ 9223372036854775807) : Calls Tryf.prog 3 #[.string nm, .int .u32 tok, .int .i64 on, .slice la ll lc, .slice ba bl bc, .int .u32 o1, .int .u32 l1, .int .u32 o2, .int .u32 l2, .string lf, .string rt] w fun e w' => e = .returned (.bool true) ∧ Below w.heap.size w w' := by
  have d0 : decide ((65536 : Int) < (nm.size : Int)) = false := by simp; omega
  have d1 : decide ((65536 : Int) < (lf.size : Int)) = true := by simp; omega
  go_enter Tryf.func3, Tryf.ntmps3
  go_wp2_with (go_at_call 5; go_in)
  all_goals
    go_ret
    exact ⟨rfl, Below.refl _ _⟩
theorem fol_o2 (nm lf rt : ByteArray) (tok on o1 l1 o2 l2 : Int) (la : Option Addr) (ll lc : Nat) (ba : Option Addr) (bl bc : Nat) (w : World) (h0 : nm.size ≤ 65536) (h1 : lf.size ≤ 65536) (h2 : 65536 < rt.size) (m2 : rt.size ≤ 9223372036854775807) (m3 : ll ≤ 9223372036854775807) (m4 : bl ≤ 9223372036854775807) : Calls Tryf.prog 3 #[.string nm, .int .u32 tok, .int .i64 on, .slice la ll lc, .slice ba bl bc, .int .u32 o1, .int .u32 l1, .int .u32 o2, .int .u32 l2, .string lf, .string rt] w fun e w' => e = .returned (.bool true) ∧ Below w.heap.size w w' := by
  have d0 : decide ((65536 : Int) < (nm.size : Int)) = false := by simp; omega
  have d1 : decide ((65536 : Int) < (lf.size : Int)) = false := by simp; omega
  have d2 : decide ((65536 : Int) < (rt.size : Int)) = true := by simp; omega
  go_enter Tryf.func3, Tryf.ntmps3
  go_wp2_with (go_at_call 5; go_in)
  all_goals
    go_ret
    exact ⟨rfl, Below.refl _ _⟩
theorem fol_o3 (nm lf rt : ByteArray) (tok on o1 l1 o2 l2 : Int) (la : Option Addr) (ll lc : Nat) (ba : Option Addr) (bl bc : Nat) (w : World) (h0 : nm.size ≤ 65536) (h1 : lf.size ≤ 65536) (h2 : rt.size ≤ 65536) (h3 : 65536 < ll) (m3 : ll ≤ 9223372036854775807) (m4 : bl ≤ 9223372036854775807) : Calls Tryf.prog 3 #[.string nm, .int .u32 tok, .int .i64 on, .slice la ll lc, .slice ba bl bc, .int .u32 o1, .int .u32 l1, .int .u32 o2, .int .u32 l2, .string lf, .string rt] w fun e w' => e = .returned (.bool true) ∧ Below w.heap.size w w' := by
  have d0 : decide ((65536 : Int) < (nm.size : Int)) = false := by simp; omega
  have d1 : decide ((65536 : Int) < (lf.size : Int)) = false := by simp; omega
  have d2 : decide ((65536 : Int) < (rt.size : Int)) = false := by simp; omega
  have d3 : decide ((65536 : Int) < (ll : Int)) = true := by simp; omega
  go_enter Tryf.func3, Tryf.ntmps3
  go_wp2_with (go_at_call 5; go_in)
  all_goals
    go_ret
    exact ⟨rfl, Below.refl _ _⟩
theorem fol_o4 (nm lf rt : ByteArray) (tok on o1 l1 o2 l2 : Int) (la : Option Addr) (ll lc : Nat) (ba : Option Addr) (bl bc : Nat) (w : World) (h0 : nm.size ≤ 65536) (h1 : lf.size ≤ 65536) (h2 : rt.size ≤ 65536) (h3 : ll ≤ 65536) (h4 : 65536 < bl) (m4 : bl ≤ 9223372036854775807) : Calls Tryf.prog 3 #[.string nm, .int .u32 tok, .int .i64 on, .slice la ll lc, .slice ba bl bc, .int .u32 o1, .int .u32 l1, .int .u32 o2, .int .u32 l2, .string lf, .string rt] w fun e w' => e = .returned (.bool true) ∧ Below w.heap.size w w' := by
  have d0 : decide ((65536 : Int) < (nm.size : Int)) = false := by simp; omega
  have d1 : decide ((65536 : Int) < (lf.size : Int)) = false := by simp; omega
  have d2 : decide ((65536 : Int) < (rt.size : Int)) = false := by simp; omega
  have d3 : decide ((65536 : Int) < (ll : Int)) = false := by simp; omega
  have d4 : decide ((65536 : Int) < (bl : Int)) = true := by simp; omega
  go_enter Tryf.func3, Tryf.ntmps3
  go_wp2_with (go_at_call 5; go_in)
  all_goals
    go_ret
    exact ⟨rfl, Below.refl _ _⟩
theorem fol_o5 (nm lf rt : ByteArray) (tok on o1 l1 o2 l2 : Int) (la : Option Addr) (ll lc : Nat) (ba : Option Addr) (bl bc : Nat) (w : World) (h0 : nm.size ≤ 65536) (h1 : lf.size ≤ 65536) (h2 : rt.size ≤ 65536) (h3 : ll ≤ 65536) (h4 : bl ≤ 65536) (ht : 143 < tok) : Calls Tryf.prog 3 #[.string nm, .int .u32 tok, .int .i64 on, .slice la ll lc, .slice ba bl bc, .int .u32 o1, .int .u32 l1, .int .u32 o2, .int .u32 l2, .string lf, .string rt] w fun e w' => e = .returned (.bool true) ∧ Below w.heap.size w w' := by
  have d0 : decide ((65536 : Int) < (nm.size : Int)) = false := by simp; omega
  have d1 : decide ((65536 : Int) < (lf.size : Int)) = false := by simp; omega
  have d2 : decide ((65536 : Int) < (rt.size : Int)) = false := by simp; omega
  have d3 : decide ((65536 : Int) < (ll : Int)) = false := by simp; omega
  have d4 : decide ((65536 : Int) < (bl : Int)) = false := by simp; omega
  have d6 : decide (143 < tok) = true := by simp; omega
  go_enter Tryf.func3, Tryf.ntmps3
  go_wp2_with (first | (go_at_call 5; go_in) | (go_at_call 6; go_in))
  all_goals
    go_ret
    exact ⟨rfl, Below.refl _ _⟩
theorem fol_o6 (nm lf rt : ByteArray) (tok on o1 l1 o2 l2 : Int) (la : Option Addr) (ll lc : Nat) (ba : Option Addr) (bl bc : Nat) (w : World) (h0 : nm.size ≤ 65536) (h1 : lf.size ≤ 65536) (h2 : rt.size ≤ 65536) (h3 : ll ≤ 65536) (h4 : bl ≤ 65536) (ht : tok ≤ 143) (ho : on < 0) : Calls Tryf.prog 3 #[.string nm, .int .u32 tok, .int .i64 on, .slice la ll lc, .slice ba bl bc, .int .u32 o1, .int .u32 l1, .int .u32 o2, .int .u32 l2, .string lf, .string rt] w fun e w' => e = .returned (.bool true) ∧ Below w.heap.size w w' := by
  have d0 : decide ((65536 : Int) < (nm.size : Int)) = false := by simp; omega
  have d1 : decide ((65536 : Int) < (lf.size : Int)) = false := by simp; omega
  have d2 : decide ((65536 : Int) < (rt.size : Int)) = false := by simp; omega
  have d3 : decide ((65536 : Int) < (ll : Int)) = false := by simp; omega
  have d4 : decide ((65536 : Int) < (bl : Int)) = false := by simp; omega
  have d6 : decide (143 < tok) = false := by simp; omega
  have d7 : decide (on < 0) = true := by simp; omega
  go_enter Tryf.func3, Tryf.ntmps3
  go_wp2_with (first | (go_at_call 5; go_in) | (go_at_call 6; go_in))
  all_goals
    go_ret
    exact ⟨rfl, Below.refl _ _⟩
set_option maxHeartbeats 1000000 in
theorem fol_in (F : Interp) (nm lf rt : ByteArray) (tok on o1 l1 o2 l2 : Int) (la : Option Addr) (ll lc : Nat) (ba : Option Addr) (bl bc : Nat) (w : World) (za zb : List Int) (hF : F.answers w.tape) (h0 : nm.size ≤ 65536) (h1 : lf.size ≤ 65536) (h2 : rt.size ≤ 65536) (h3 : ll ≤ 65536) (h4 : bl ≤ 65536) (ht : tok ≤ 143) (ho : 0 ≤ on) (ra : IsRowB w la ll lc za) (rb : IsRowB w ba bl bc zb) : Calls Tryf.prog 3 #[.string nm, .int .u32 tok, .int .i64 on, .slice la ll lc, .slice ba bl bc, .int .u32 o1, .int .u32 l1, .int .u32 o2, .int .u32 l2, .string lf, .string rt] w fun e w' => e = .returned (.bool true) ∧ Below w.heap.size w w' := by
  have d0 : decide ((65536 : Int) < (nm.size : Int)) = false := by simp; omega
  have d1 : decide ((65536 : Int) < (lf.size : Int)) = false := by simp; omega
  have d2 : decide ((65536 : Int) < (rt.size : Int)) = false := by simp; omega
  have d3 : decide ((65536 : Int) < (ll : Int)) = false := by simp; omega
  have d4 : decide ((65536 : Int) < (bl : Int)) = false := by simp; omega
  have d6 : decide (143 < tok) = false := by simp; omega
  have d7 : decide (on < 0) = false := by simp; omega
  have CA := Lib.hid (clA_any la ll lc za w (by omega) ra)
  have RB := Lib.hid rb
  have HF := Lib.hid hF
  clear ra rb hF
  go_enter Tryf.func3, Tryf.ntmps3
  go_wp2_with (first | (go_at_call 5; go_in) | (go_at_call 6; go_in))
  refine CA.out.mono ?_
  rintro e w1 ⟨la1, lc1, rfl, hb1⟩
  have CB := Lib.hid (clA_any ba bl bc zb w1 (by omega) (RB.out.later hb1))
  have HB1 := Lib.hid hb1
  clear hb1 CA RB
  go_wp2_with fail
  refine CB.out.mono ?_
  rintro e w2 ⟨ba1, bc1, rfl, hb2⟩
  have HB2 := Lib.hid (btr HB1.out hb2)
  clear hb2 CB HB1
  go_wp2_with fail
  refine (mkA nm tok on la1 ll lc1 ba1 bl bc1 _).mono ?_
  rintro e w3 ⟨rfl, hz, hb3⟩
  have HB3 := Lib.hid (btr HB2.out hb3)
  have HZ3 := Lib.hid hz
  have hsz := Lib.hid HB2.out.size
  clear hb3 hz HB2
  go_wp2_with fail
  refine (mkPosA _ _ _).mono ?_
  rintro e w4 ⟨rfl, hb4⟩
  have HZ4 := Lib.hid (HZ3.out.later hb4)
  have HB4 := Lib.hid (btr HB3.out hb4)
  clear hb4 HZ3 HB3
  go_wp2_with fail
  refine (fol_first F _ _ nm tok on la1 ll lc1 ba1 bl bc1 _ _ _ _ _ lf rt _ (by rw [HB4.out.tape]; exact HF.out) (by omega) HZ4.out).mono ?_
  rintro e w5 ⟨⟨u5, rfl⟩, ⟨t, hz5⟩, hb5⟩
  have HZ5 := Lib.hid hz5
  have HB5 := Lib.hid (HB4.out.trans (hb5 _ (by have := hsz.out; omega)))
  clear hz5 hb5 HZ4 HB4
  go_wp2_with fail
  refine (mkPosA _ _ _).mono ?_
  rintro e w6 ⟨rfl, hb6⟩
  have HZ6 := Lib.hid (HZ5.out.later hb6)
  have HB6 := Lib.hid (btr HB5.out hb6)
  clear hb6 HZ5 HB5
  go_wp2_with fail
  refine (fol_again F _ _ nm tok on la1 ll lc1 ba1 bl bc1 38 _ _ _ _ _ _ rt lf _ (by rw [HB6.out.tape]; exact HF.out) (by exact HZ6.out)).mono ?_
  rintro e w7 ⟨⟨u7, rfl⟩, hz7, hb7⟩
  have HZ7 := Lib.hid hz7
  have HB7 := Lib.hid (btr HB6.out hb7)
  clear hz7 hb7 HZ6 HB6
  go_wp2_with fail
  refine (holds _ _ nm tok on la1 ll lc1 ba1 bl bc1 o1 l1 t _ (by omega) (by omega) HZ7.out).mono ?_
  rintro e w8 ⟨rfl, hb8⟩
  have HB8 := Lib.hid (btr HB7.out hb8)
  clear hb8 HZ7 HB7
  go_wp2
  go_ret
  exact ⟨rfl, HB8.out⟩
theorem fol_law (F : Interp) (nm lf rt : ByteArray) (tok on o1 l1 o2 l2 : Int) (la : Option Addr) (ll lc : Nat) (ba : Option Addr) (bl bc : Nat) (w : World) (za zb : List Int) (hF : F.answers w.tape) (m0 : nm.size ≤ maxLen) (m1 : lf.size ≤ maxLen) (m2 : rt.size ≤ maxLen) (ra : IsRowB w la ll lc za) (rb : IsRowB w ba bl bc zb) : Calls Tryf.prog 3 #[.string nm, .int .u32 tok, .int .i64 on, .slice la ll lc, .slice ba bl bc, .int .u32 o1, .int .u32 l1, .int .u32 o2, .int .u32 l2, .string lf, .string rt] w fun e w' => e = .returned (.bool true) ∧ Below w.heap.size w w' := by
  unfold maxLen at m0 m1 m2
  have m3 := ra.len
  have m4 := rb.len
  by_cases h0 : nm.size ≤ 65536
  · by_cases h1 : lf.size ≤ 65536
    · by_cases h2 : rt.size ≤ 65536
      · by_cases h3 : ll ≤ 65536
        · by_cases h4 : bl ≤ 65536
          · by_cases h5 : tok ≤ 143
            · by_cases h6 : 0 ≤ on
              · exact fol_in F nm lf rt tok on o1 l1 o2 l2 la ll lc ba bl bc w za zb hF h0 h1 h2 h3 h4 h5 h6 ra rb
              · exact fol_o6 nm lf rt tok on o1 l1 o2 l2 la ll lc ba bl bc w h0 h1 h2 h3 h4 h5 (by omega)
            · exact fol_o5 nm lf rt tok on o1 l1 o2 l2 la ll lc ba bl bc w h0 h1 h2 h3 h4 (by omega)
          · exact fol_o4 nm lf rt tok on o1 l1 o2 l2 la ll lc ba bl bc w h0 h1 h2 h3 (by omega) m4
        · exact fol_o3 nm lf rt tok on o1 l1 o2 l2 la ll lc ba bl bc w h0 h1 h2 (by omega) m3 m4
      · exact fol_o2 nm lf rt tok on o1 l1 o2 l2 la ll lc ba bl bc w h0 h1 (by omega) m2 m3 m4
    · exact fol_o1 nm lf rt tok on o1 l1 o2 l2 la ll lc ba bl bc w h0 (by omega) m1 m2 m3 m4
  · exact fol_o0 nm lf rt tok on o1 l1 o2 l2 la ll lc ba bl bc w (by omega) m0 m1 m2 m3 m4
end Go.Proofs.YtjhiglfihjehcaaFmt
