/- startsWithLparen and endsWithRparen of a statement in memory, in a form that holds in every later world that keeps the statement's blocks. -/
import Derived.Test.YtfpfeeojnchkaaaProg
import Derived.WalkKit
import Derived.WalkLawsBesides
import Derived.WalkSpells
import Derived.Lib.Hide
import Derived.Below
import Derived.OwnWalk
import Derived.Laws.OwnMore
import Derived.Laws.AppendOwn
import Derived.Laws.Rows
namespace Go.Proofs.Ytfpfeeojnchkaaa
open Go.RowKit
set_option linter.unusedVariables false

theorem ta_25_25 (v : Value) (w : World) : (Instr.typeAssert (.iface 25 v) 70 25 true).run Try.prog w = .ok (.tuple #[v, .bool true]) w := by kernel_rfl
theorem ta_65_25 (v : Value) (w : World) : (Instr.typeAssert (.iface 65 v) 70 25 true).run Try.prog w = .ok (.tuple #[.pointer none, .bool false]) w := by kernel_rfl
theorem ta_49_25 (v : Value) (w : World) : (Instr.typeAssert (.iface 49 v) 70 25 true).run Try.prog w = .ok (.tuple #[.pointer none, .bool false]) w := by kernel_rfl
theorem ta_52_25 (v : Value) (w : World) : (Instr.typeAssert (.iface 52 v) 70 25 true).run Try.prog w = .ok (.tuple #[.pointer none, .bool false]) w := by kernel_rfl
theorem ta_57_25 (v : Value) (w : World) : (Instr.typeAssert (.iface 57 v) 70 25 true).run Try.prog w = .ok (.tuple #[.pointer none, .bool false]) w := by kernel_rfl
theorem ta_62_25 (v : Value) (w : World) : (Instr.typeAssert (.iface 62 v) 70 25 true).run Try.prog w = .ok (.tuple #[.pointer none, .bool false]) w := by kernel_rfl
theorem ta_n_25 (w : World) : (Instr.typeAssert (.nilIface) 70 25 true).run Try.prog w = .ok (.tuple #[.pointer none, .bool false]) w := by kernel_rfl
theorem ta_25_65 (v : Value) (w : World) : (Instr.typeAssert (.iface 25 v) 70 65 true).run Try.prog w = .ok (.tuple #[.pointer none, .bool false]) w := by kernel_rfl
theorem ta_65_65 (v : Value) (w : World) : (Instr.typeAssert (.iface 65 v) 70 65 true).run Try.prog w = .ok (.tuple #[v, .bool true]) w := by kernel_rfl
theorem ta_49_65 (v : Value) (w : World) : (Instr.typeAssert (.iface 49 v) 70 65 true).run Try.prog w = .ok (.tuple #[.pointer none, .bool false]) w := by kernel_rfl
theorem ta_52_65 (v : Value) (w : World) : (Instr.typeAssert (.iface 52 v) 70 65 true).run Try.prog w = .ok (.tuple #[.pointer none, .bool false]) w := by kernel_rfl
theorem ta_57_65 (v : Value) (w : World) : (Instr.typeAssert (.iface 57 v) 70 65 true).run Try.prog w = .ok (.tuple #[.pointer none, .bool false]) w := by kernel_rfl
theorem ta_62_65 (v : Value) (w : World) : (Instr.typeAssert (.iface 62 v) 70 65 true).run Try.prog w = .ok (.tuple #[.pointer none, .bool false]) w := by kernel_rfl
theorem ta_n_65 (w : World) : (Instr.typeAssert (.nilIface) 70 65 true).run Try.prog w = .ok (.tuple #[.pointer none, .bool false]) w := by kernel_rfl
theorem ta_25_49 (v : Value) (w : World) : (Instr.typeAssert (.iface 25 v) 70 49 true).run Try.prog w = .ok (.tuple #[.pointer none, .bool false]) w := by kernel_rfl
theorem ta_65_49 (v : Value) (w : World) : (Instr.typeAssert (.iface 65 v) 70 49 true).run Try.prog w = .ok (.tuple #[.pointer none, .bool false]) w := by kernel_rfl
theorem ta_49_49 (v : Value) (w : World) : (Instr.typeAssert (.iface 49 v) 70 49 true).run Try.prog w = .ok (.tuple #[v, .bool true]) w := by kernel_rfl
theorem ta_52_49 (v : Value) (w : World) : (Instr.typeAssert (.iface 52 v) 70 49 true).run Try.prog w = .ok (.tuple #[.pointer none, .bool false]) w := by kernel_rfl
theorem ta_57_49 (v : Value) (w : World) : (Instr.typeAssert (.iface 57 v) 70 49 true).run Try.prog w = .ok (.tuple #[.pointer none, .bool false]) w := by kernel_rfl
theorem ta_62_49 (v : Value) (w : World) : (Instr.typeAssert (.iface 62 v) 70 49 true).run Try.prog w = .ok (.tuple #[.pointer none, .bool false]) w := by kernel_rfl
theorem ta_n_49 (w : World) : (Instr.typeAssert (.nilIface) 70 49 true).run Try.prog w = .ok (.tuple #[.pointer none, .bool false]) w := by kernel_rfl
theorem ta_25_52 (v : Value) (w : World) : (Instr.typeAssert (.iface 25 v) 70 52 true).run Try.prog w = .ok (.tuple #[.pointer none, .bool false]) w := by kernel_rfl
theorem ta_65_52 (v : Value) (w : World) : (Instr.typeAssert (.iface 65 v) 70 52 true).run Try.prog w = .ok (.tuple #[.pointer none, .bool false]) w := by kernel_rfl
theorem ta_49_52 (v : Value) (w : World) : (Instr.typeAssert (.iface 49 v) 70 52 true).run Try.prog w = .ok (.tuple #[.pointer none, .bool false]) w := by kernel_rfl
theorem ta_52_52 (v : Value) (w : World) : (Instr.typeAssert (.iface 52 v) 70 52 true).run Try.prog w = .ok (.tuple #[v, .bool true]) w := by kernel_rfl
theorem ta_57_52 (v : Value) (w : World) : (Instr.typeAssert (.iface 57 v) 70 52 true).run Try.prog w = .ok (.tuple #[.pointer none, .bool false]) w := by kernel_rfl
theorem ta_62_52 (v : Value) (w : World) : (Instr.typeAssert (.iface 62 v) 70 52 true).run Try.prog w = .ok (.tuple #[.pointer none, .bool false]) w := by kernel_rfl
theorem ta_n_52 (w : World) : (Instr.typeAssert (.nilIface) 70 52 true).run Try.prog w = .ok (.tuple #[.pointer none, .bool false]) w := by kernel_rfl
theorem st_49 (p : Value) (w : World) : Calls Try.prog 19 #[.iface 49 p] w fun e w' => e = .returned (.bool true) ∧ w = w' := by
  have t25 := ta_49_25
  have t65 := ta_49_65
  have t49 := ta_49_49
  go_enter Try.func19, Try.ntmps19
  go_wp2
  go_ret
  exact ⟨rfl, rfl⟩
theorem st_52 (p : Value) (w : World) : Calls Try.prog 19 #[.iface 52 p] w fun e w' => e = .returned (.bool true) ∧ w = w' := by
  have t25 := ta_52_25
  have t65 := ta_52_65
  have t49 := ta_52_49
  have t52 := ta_52_52
  go_enter Try.func19, Try.ntmps19
  go_wp2
  go_ret
  exact ⟨rfl, rfl⟩
theorem st_57 (p : Value) (w : World) : Calls Try.prog 19 #[.iface 57 p] w fun e w' => e = .returned (.bool false) ∧ w = w' := by
  have t25 := ta_57_25
  have t65 := ta_57_65
  have t49 := ta_57_49
  have t52 := ta_57_52
  go_enter Try.func19, Try.ntmps19
  go_wp2
  go_ret
  exact ⟨rfl, rfl⟩
theorem st_62 (p : Value) (w : World) : Calls Try.prog 19 #[.iface 62 p] w fun e w' => e = .returned (.bool false) ∧ w = w' := by
  have t25 := ta_62_25
  have t65 := ta_62_65
  have t49 := ta_62_49
  have t52 := ta_62_52
  go_enter Try.func19, Try.ntmps19
  go_wp2
  go_ret
  exact ⟨rfl, rfl⟩
theorem st_nil (w : World) : Calls Try.prog 19 #[.nilIface] w fun e w' => e = .returned (.bool false) ∧ w = w' := by
  have t25 := ta_n_25
  have t65 := ta_n_65
  have t49 := ta_n_49
  have t52 := ta_n_52
  go_enter Try.func19, Try.ntmps19
  go_wp2
  go_ret
  exact ⟨rfl, rfl⟩
theorem st_bin (c x : Nat) (b : Bool) (w : World) (hx : w.cell? ⟨c, 3, none⟩ = some (.pointer (some ⟨x, 0, none⟩))) (h : Calls Try.prog 19 #[.iface 25 (.pointer (some ⟨x, 0, none⟩))] w fun e w' => e = .returned (.bool b) ∧ w = w') :
    Calls Try.prog 19 #[.iface 65 (.pointer (some ⟨c, 0, none⟩))] w fun e w' => e = .returned (.bool b) ∧ w = w' := by
  have H := Lib.hid h
  clear h
  have t25 := ta_65_25
  have t65 := ta_65_65
  go_enter Try.func19, Try.ntmps19
  go_wp2_with (go_at_call 19; refine H.out.mono ?_; rintro e w' ⟨rfl, rfl⟩)
  go_ret
  exact ⟨rfl, rfl⟩
theorem en_49 (p : Value) (w : World) : Calls Try.prog 20 #[.iface 49 p] w fun e w' => e = .returned (.bool true) ∧ w = w' := by
  have t25 := ta_49_25
  have t65 := ta_49_65
  have t49 := ta_49_49
  go_enter Try.func20, Try.ntmps20
  go_wp2
  go_ret
  exact ⟨rfl, rfl⟩
theorem en_52 (p : Value) (w : World) : Calls Try.prog 20 #[.iface 52 p] w fun e w' => e = .returned (.bool true) ∧ w = w' := by
  have t25 := ta_52_25
  have t65 := ta_52_65
  have t49 := ta_52_49
  have t52 := ta_52_52
  go_enter Try.func20, Try.ntmps20
  go_wp2
  go_ret
  exact ⟨rfl, rfl⟩
theorem en_57 (p : Value) (w : World) : Calls Try.prog 20 #[.iface 57 p] w fun e w' => e = .returned (.bool false) ∧ w = w' := by
  have t25 := ta_57_25
  have t65 := ta_57_65
  have t49 := ta_57_49
  have t52 := ta_57_52
  go_enter Try.func20, Try.ntmps20
  go_wp2
  go_ret
  exact ⟨rfl, rfl⟩
theorem en_62 (p : Value) (w : World) : Calls Try.prog 20 #[.iface 62 p] w fun e w' => e = .returned (.bool false) ∧ w = w' := by
  have t25 := ta_62_25
  have t65 := ta_62_65
  have t49 := ta_62_49
  have t52 := ta_62_52
  go_enter Try.func20, Try.ntmps20
  go_wp2
  go_ret
  exact ⟨rfl, rfl⟩
theorem en_nil (w : World) : Calls Try.prog 20 #[.nilIface] w fun e w' => e = .returned (.bool false) ∧ w = w' := by
  have t25 := ta_n_25
  have t65 := ta_n_65
  have t49 := ta_n_49
  have t52 := ta_n_52
  go_enter Try.func20, Try.ntmps20
  go_wp2
  go_ret
  exact ⟨rfl, rfl⟩
theorem en_bin (c x : Nat) (b : Bool) (w : World) (hx : w.cell? ⟨c, 4, none⟩ = some (.pointer (some ⟨x, 0, none⟩))) (h : Calls Try.prog 20 #[.iface 25 (.pointer (some ⟨x, 0, none⟩))] w fun e w' => e = .returned (.bool b) ∧ w = w') :
    Calls Try.prog 20 #[.iface 65 (.pointer (some ⟨c, 0, none⟩))] w fun e w' => e = .returned (.bool b) ∧ w = w' := by
  have H := Lib.hid h
  clear h
  have t25 := ta_65_25
  have t65 := ta_65_65
  go_enter Try.func20, Try.ntmps20
  go_wp2_with (go_at_call 20; refine H.out.mono ?_; rintro e w' ⟨rfl, rfl⟩)
  go_ret
  exact ⟨rfl, rfl⟩
theorem st_stmt (p : Nat) (c : Value) (b : Bool) (w : World) (hc : w.cell? ⟨p, 1, none⟩ = some c) (h : Calls Try.prog 19 #[c] w fun e w' => e = .returned (.bool b) ∧ w = w') :
    Calls Try.prog 19 #[.iface 25 (.pointer (some ⟨p, 0, none⟩))] w fun e w' => e = .returned (.bool b) ∧ w = w' := by
  have H := Lib.hid h
  clear h
  have t25 := ta_25_25
  go_enter Try.func19, Try.ntmps19
  go_wp2_with (go_at_call 19; refine H.out.mono ?_; rintro e w' ⟨rfl, rfl⟩)
  go_ret
  exact ⟨rfl, rfl⟩
theorem en_stmt_no (p n : Nat) (r : Option Addr) (bg cp ds : Bool) (w : World) (hb : w.cell? ⟨p, 7, none⟩ = some (.bool bg)) (hp : w.cell? ⟨p, 8, none⟩ = some (.bool cp)) (hd : w.cell? ⟨p, 9, none⟩ = some (.bool ds)) (hr : w.cell? ⟨p, 10, none⟩ = some (.slice r n n)) (hf : (bg || cp || ds || decide (0 < n)) = true) :
    Calls Try.prog 20 #[.iface 25 (.pointer (some ⟨p, 0, none⟩))] w fun e w' => e = .returned (.bool false) ∧ w = w' := by
  have t25 := ta_25_25
  cases bg <;> cases cp <;> cases ds <;> simp at hf
  all_goals
    go_enter Try.func20, Try.ntmps20
    go_wp2
    go_ret
    exact ⟨rfl, rfl⟩
theorem en_stmt (p : Nat) (r : Option Addr) (c : Value) (b : Bool) (w : World) (hb : w.cell? ⟨p, 7, none⟩ = some (.bool false)) (hp : w.cell? ⟨p, 8, none⟩ = some (.bool false)) (hd : w.cell? ⟨p, 9, none⟩ = some (.bool false)) (hr : w.cell? ⟨p, 10, none⟩ = some (.slice r 0 0)) (hc : w.cell? ⟨p, 1, none⟩ = some c) (h : Calls Try.prog 20 #[c] w fun e w' => e = .returned (.bool b) ∧ w = w') :
    Calls Try.prog 20 #[.iface 25 (.pointer (some ⟨p, 0, none⟩))] w fun e w' => e = .returned (.bool b) ∧ w = w' := by
  have H := Lib.hid h
  clear h
  have t25 := ta_25_25
  go_enter Try.func20, Try.ntmps20
  go_wp2_with (go_at_call 20; refine H.out.mono ?_; rintro e w' ⟨rfl, rfl⟩)
  go_ret
  exact ⟨rfl, rfl⟩
end Go.Proofs.Ytfpfeeojnchkaaa
