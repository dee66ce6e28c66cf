/- The walk of the law FnFollowErrFirstErrorStands. -/
import Derived.Test.YtjhiglfihjehcaaFmtUse
namespace Go.Proofs.YtjhiglfihjehcaaFmt
open Go.RowKit Go.Extern.Stop Go.Stop Go.Extern
set_option linter.unusedVariables false
theorem below_drewN {B : Nat} {a w : World} (h : Below B a w) (n : Nat) : Below B a (w.drewN n) := ⟨h.os, h.tape, h.output, h.size, h.block⟩
theorem results_tmp4 {fn : Func} {t u v x : Tmp} (h : fn.results = #[.tmp t, .tmp u, .tmp v, .tmp x]) (tmps : Array Value) (P : Program) (w : World) :
    (results fn tmps).run P w = .ok (.tuple #[tmps.getD t undef, tmps.getD u undef, tmps.getD v undef, tmps.getD x undef]) w := by simp [results, h]
theorem results_tmp5 {fn : Func} {t u v x y : Tmp} (h : fn.results = #[.tmp t, .tmp u, .tmp v, .tmp x, .tmp y]) (tmps : Array Value) (P : Program) (w : World) :
    (results fn tmps).run P w = .ok (.tuple #[tmps.getD t undef, tmps.getD u undef, tmps.getD v undef, tmps.getD x undef, tmps.getD y undef]) w := by simp [results, h]
theorem ta38 (v : Value) (w : World) : (Instr.typeAssert (.iface 38 v) 54 38 true).run Tryf.prog w = .ok (.tuple #[v, .bool true]) w := by kernel_rfl
theorem rdA (p : Nat) (name : ByteArray) (o l : Int) (t : ByteArray) (inc : Bool) (w : World) (h : w.cell? ⟨p, 7, none⟩ = some (PE name o l t inc)) :
    Calls Tryf.prog 23 #[.pointer (some ⟨p, 0, none⟩)] w fun e w' => e = .returned (.tuple #[.bool true, .string name, .int .u32 o, .int .u32 l, .bool inc]) ∧ Below w.heap.size w w' := by
  unfold PE at h
  have h1 := ta38
  go_enter Tryf.func23, Tryf.ntmps23
  go_wp2
  go_quiet (fail)
  go_wp2
  refine bodyPost_ret (results_tmp5 rfl _ _ _) rfl ?_
  exact ⟨rfl, below_drewN (bloc _ _) _⟩
theorem stA (p : Nat) (tok : Int) (t0 : TypeId) (v0 bsp r ww : Value) (w : World) (h7 : w.cell? ⟨p, 7, none⟩ = some (.iface t0 v0)) (h2 : w.cell? ⟨p, 2, none⟩ = some bsp) (h3 : w.cell? ⟨p, 3, none⟩ = some r) (h4 : w.cell? ⟨p, 4, none⟩ = some ww) (h10 : w.cell? ⟨p, 10, none⟩ = some (.int .u32 tok)) :
    Calls Tryf.prog 25 #[.pointer (some ⟨p, 0, none⟩)] w fun e w' => e = .returned (.tuple #[.int .u32 tok, r, ww, bsp, .bool true]) ∧ Below w.heap.size w w' := by
  go_enter Tryf.func25, Tryf.ntmps25
  go_wp2
  go_quiet (fail)
  go_wp2
  refine bodyPost_ret (results_tmp5 rfl _ _ _) rfl ?_
  exact ⟨rfl, below_drewN (Below.refl _ _) _⟩
theorem mkPosA (o l : Int) (w : World) : Calls Tryf.prog 10 #[.int .u32 o, .int .u32 l] w fun e w' => e = .returned (.agg #[.int .u32 o, .int .u32 l]) ∧ Below w.heap.size w w' := by
  go_enter Tryf.func10, Tryf.ntmps10
  go_wp2
  exact bodyPost_ret (v := .agg #[.int .u32 o, .int .u32 l]) (by simp [results, Tryf.results10, go_sem]) rfl ⟨rfl, bloc _ _⟩
set_option maxHeartbeats 1000000 in
theorem holds (p f : Nat) (name : ByteArray) (tok on : Int) (la : Option Addr) (ll lc : Nat) (ba : Option Addr) (bl bc : Nat) (o l : Int) (t : ByteArray) (w : World) (hll : ll ≤ 1048576) (hbl : bl ≤ 1048576)
    (h : Pz p f name 1 on (.slice la ll lc) ba bl bc (PE name o l t (decide (tok = 1) && incB on ll)) (.int .u64 (bl + 1)) (.int .i32 1114112) (.int .i64 1) w) :
    Calls Tryf.prog 11 #[.pointer (some ⟨p, 0, none⟩), .string name, .int .u32 tok, .int .i64 on, .int .i64 ll, .int .i64 bl, .int .u32 o, .int .u32 l] w fun e w' => e = .returned (.bool true) ∧ Below w.heap.size w w' := by
  have HP := Lib.hid h
  obtain ⟨c7, c2, c3, c4, c10⟩ := h.cell_er
  clear c2 c3 c4 c10 h
  have R := Lib.hid (rdA p name o l t (decide (tok = 1) && incB on ll) w c7)
  clear c7
  obtain ⟨ib, hib⟩ : ∃ ib, ib = (decide (tok = 1) && incB on ll) := ⟨_, rfl⟩
  have hw : ib = ((tok == 1) && (decide (0 < on) || decide ((0 : Int) < (ll : Int)))) := by
    rw [hib]; unfold incB
    by_cases h1 : tok = 1 <;> by_cases h2 : 0 < on <;> by_cases h3 : 0 < ll <;> simp [h1, h2, h3] <;> omega
  rw [← hib] at R HP
  clear hib
  have hcases : ((tok == 1) = false ∧ ib = false) ∨ ((tok == 1) = true ∧ decide (0 < on) = true ∧ ib = true) ∨ ((tok == 1) = true ∧ decide (0 < on) = false ∧ decide ((0 : Int) < (ll : Int)) = true ∧ ib = true) ∨ ((tok == 1) = true ∧ decide (0 < on) = false ∧ decide ((0 : Int) < (ll : Int)) = false ∧ ib = false) := by
    rw [hw]
    cases (tok == 1) <;> cases decide (0 < on) <;> cases decide ((0 : Int) < (ll : Int)) <;> simp
  clear hw
  have ub : ((bl : Int) + 1 == (bl : Int) + 1) = true := by simp
  have PF := Lib.hid (show ∀ W, Below w.heap.size w W → Calls Tryf.prog 25 #[.pointer (some ⟨p, 0, none⟩)] W fun e w' => e = .returned (.tuple #[.int .u32 1, .int .i32 1114112, .int .i64 1, .int .u64 (bl + 1), .bool true]) ∧ Below W.heap.size W w' from fun W hb => by
    obtain ⟨c7, c2, c3, c4, c10⟩ := (HP.out.later hb).cell_er
    exact stA p 1 38 _ _ _ _ W c7 c2 c3 c4 c10)
  clear HP
  rcases hcases with ⟨k1, rfl⟩ | ⟨k1, k2, rfl⟩ | ⟨k1, k2, k3, rfl⟩ | ⟨k1, k2, k3, rfl⟩
  all_goals
    try (have k4 : decide (0 < ll) = true := by simpa using k3)
    try (have k4 : decide (0 < ll) = false := by simpa using k3)
    try (have k5 : 0 < ll := of_decide_eq_true k4)
    go_enter Tryf.func11, Tryf.ntmps11
    go_wp2_with fail
    refine R.out.mono ?_
    rintro e w1 ⟨rfl, hb1⟩
    have HB1 := Lib.hid hb1
    clear hb1
    go_wp2_with (first | (go_at_call 24; go_in) | (go_at_call 25; refine (PF.out _ HB1.out).mono ?_; rintro e w2 ⟨rfl, hb2⟩))
    go_ret
    exact ⟨by first | rfl | simp, btr HB1.out hb2⟩
end Go.Proofs.YtjhiglfihjehcaaFmt
