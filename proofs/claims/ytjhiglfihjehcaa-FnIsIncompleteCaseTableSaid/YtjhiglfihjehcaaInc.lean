/- The walk of the law FnIsIncompleteCaseTable: it returns true at every input. -/
import Derived.Test.YtjhiglfihjehcaaProg
import Derived.WalkKit
import Derived.WalkLawsBesides
import Derived.WalkSpells
import Derived.Lib.Hide
import Derived.Below
namespace Go.Proofs.Ytjhiglfihjehcaa
open Go.RowKit
set_option linter.unusedVariables false

theorem btrans {a b c : World} (h : Below a.heap.size a b) (k : Below b.heap.size b c) : Below a.heap.size a c := h.trans (k.mono h.size)
theorem balloc {a b : World} (h : Below a.heap.size a b) (o : Obj) : Below a.heap.size a (b.alloc o) := h.alloc h.size o
theorem blater {w w' : World} {p : Addr} {v : Value} (hb : Below w.heap.size w w') (h : w.cell? p = some v) : w'.cell? p = some v := (hb.cell (World.block_lt_of_cell? w _ h)).trans h
theorem ta1 (v : Value) (w : World) : (Instr.typeAssert (.iface 28 v) 40 28 true).run Try.prog w = .ok (.tuple #[v, .bool true]) w := by kernel_rfl
theorem ta2 (v : Value) (w : World) : (Instr.typeAssert (.iface 35 v) 40 28 true).run Try.prog w = .ok (.tuple #[.agg #[.string ⟨#[]⟩, .int .u32 0, .int .u32 0, .string ⟨#[]⟩, .bool false], .bool false]) w := by kernel_rfl
theorem ta3 (v : Value) (w : World) : (Instr.typeAssert (.iface 32 v) 40 28 true).run Try.prog w = .ok (.tuple #[.agg #[.string ⟨#[]⟩, .int .u32 0, .int .u32 0, .string ⟨#[]⟩, .bool false], .bool false]) w := by kernel_rfl
theorem ta4 (w : World) : (Instr.typeAssert (.nilIface) 40 28 true).run Try.prog w = .ok (.tuple #[.agg #[.string ⟨#[]⟩, .int .u32 0, .int .u32 0, .string ⟨#[]⟩, .bool false], .bool false]) w := by kernel_rfl
theorem isInc (nm tx : ByteArray) (o l : Int) (inc : Bool) (w : World) : Calls Try.prog 6 #[.agg #[.string nm, .int .u32 o, .int .u32 l, .string tx, .bool inc]] w fun e w' => e = .returned (.bool inc) ∧ Below w.heap.size w w' := by
  have t1 := ta1
  go_enter Try.func6, Try.ntmps6
  go_wp2
  go_ret
  exact ⟨rfl, balloc (balloc (Below.refl _ _) _) _⟩
theorem isIncPtr (p : Option Addr) (w : World) : Calls Try.prog 7 #[.pointer p] w fun e w' => e = .returned (.bool false) ∧ Below w.heap.size w w' := by
  have t1 := ta2
  go_enter Try.func7, Try.ntmps7
  go_wp2
  go_ret
  exact ⟨rfl, balloc (Below.refl _ _) _⟩
theorem isIncLang (nm ft : ByteArray) (o l u : Int) (lv : Value) (w : World) : Calls Try.prog 8 #[.agg #[.string nm, .int .u32 o, .int .u32 l, .string ft, lv, .int .i64 u]] w fun e w' => e = .returned (.bool false) ∧ Below w.heap.size w w' := by
  have t1 := ta3
  go_enter Try.func8, Try.ntmps8
  go_wp2
  go_ret
  exact ⟨rfl, balloc (balloc (Below.refl _ _) _) _⟩
theorem isIncNil (w : World) : Calls Try.prog 9 #[] w fun e w' => e = .returned (.bool false) ∧ Below w.heap.size w w' := by
  have t1 := ta4
  go_enter Try.func9, Try.ntmps9
  go_wp2
  go_ret
  exact ⟨rfl, balloc (Below.refl _ _) _⟩
theorem mkP (o l : Int) (w : World) : Calls Try.prog 5 #[.int .u32 o, .int .u32 l] w fun e w' => e = .returned (.agg #[.int .u32 o, .int .u32 l]) ∧ Below w.heap.size w w' := by
  go_enter Try.func5, Try.ntmps5
  go_wp2
  exact bodyPost_ret (v := .agg #[.int .u32 o, .int .u32 l]) (by simp [results, Try.results5, go_sem]) rfl ⟨rfl, balloc (Below.refl _ _) _⟩
set_option maxHeartbeats 1000000 in
theorem inc_in (nm : ByteArray) (o l : Int) (tx : ByteArray) (inc : Bool) (ft : ByteArray) (u : Int) (w : World) (h : nm.size + tx.size + ft.size ≤ 1048576) :
    Calls Try.prog 3 #[.string nm, .int .u32 o, .int .u32 l, .string tx, .bool inc, .string ft, .int .i64 u] w fun e w' => e = .returned (.bool true) ∧ Below w.heap.size w w' := by
  go_enter Try.func3, Try.ntmps3
  go_wp2_with (go_at_call 4; go_in)
  refine (mkP _ _ _).mono ?_
  rintro e w1 ⟨rfl, hB⟩
  go_wp2_with fail
  refine (isInc _ _ _ _ _ _).mono ?_
  rintro e w2 ⟨rfl, hb⟩
  have hB2 := btrans (balloc (balloc (balloc hB _) _) _) hb
  have k0 : w2.cell? ⟨w1.heap.size + 1 + 1, 0, none⟩ = some (.string nm) := blater hb (by go_simp)
  have k1 : w2.cell? ⟨w1.heap.size + 1 + 1, 1, none⟩ = some (.int .u32 o) := blater hb (by go_simp)
  have k2 : w2.cell? ⟨w1.heap.size + 1 + 1, 2, none⟩ = some (.int .u32 l) := blater hb (by go_simp)
  have k3 : w2.cell? ⟨w1.heap.size + 1 + 1, 3, none⟩ = some (.string ft) := blater hb (by go_simp)
  have k4 : w2.cell? ⟨w1.heap.size + 1 + 1, 4, none⟩ = some (.slice none 0 0) := blater hb (by go_simp)
  have k5 : w2.cell? ⟨w1.heap.size + 1 + 1, 5, none⟩ = some (.int .i64 u) := blater hb (by go_simp)
  clear hb hB
  go_wp2_with fail
  refine (isIncPtr _ _).mono ?_
  rintro e w3 ⟨rfl, hb⟩
  replace k0 := blater hb k0
  replace k1 := blater hb k1
  replace k2 := blater hb k2
  replace k3 := blater hb k3
  replace k4 := blater hb k4
  replace k5 := blater hb k5
  replace hB2 := btrans hB2 hb
  clear hb
  go_wp2_with fail
  refine (isIncLang _ _ _ _ _ _ _).mono ?_
  rintro e w4 ⟨rfl, hb⟩
  replace hB2 := btrans hB2 hb
  clear hb
  go_wp2_with fail
  refine (isIncNil _).mono ?_
  rintro e w5 ⟨rfl, hb⟩
  go_wp2
  go_ret
  exact ⟨rfl, btrans hB2 hb⟩
theorem inc_out (nm : ByteArray) (o l : Int) (tx : ByteArray) (inc : Bool) (ft : ByteArray) (u : Int) (w : World) (m1 : nm.size ≤ 9223372036854775807) (m2 : tx.size ≤ 9223372036854775807) (m3 : ft.size ≤ 9223372036854775807) (h : 1048576 < nm.size + tx.size + ft.size) :
    Calls Try.prog 3 #[.string nm, .int .u32 o, .int .u32 l, .string tx, .bool inc, .string ft, .int .i64 u] w fun e w' => e = .returned (.bool true) ∧ Below w.heap.size w w' := by
  go_enter Try.func3, Try.ntmps3
  go_wp2_with (go_at_call 4; go_in)
  all_goals
    go_ret
    exact ⟨rfl, Below.refl _ _⟩
theorem inc_law (nm : ByteArray) (o l : Int) (tx : ByteArray) (inc : Bool) (ft : ByteArray) (u : Int) (w : World) (m1 : nm.size ≤ 9223372036854775807) (m2 : tx.size ≤ 9223372036854775807) (m3 : ft.size ≤ 9223372036854775807) :
    Calls Try.prog 3 #[.string nm, .int .u32 o, .int .u32 l, .string tx, .bool inc, .string ft, .int .i64 u] w fun e w' => e = .returned (.bool true) ∧ Below w.heap.size w w' := by
  by_cases h : nm.size + tx.size + ft.size ≤ 1048576
  · exact inc_in nm o l tx inc ft u w h
  · exact inc_out nm o l tx inc ft u w m1 m2 m3 (by omega)
end Go.Proofs.Ytjhiglfihjehcaa
