/- The walk of the law FnVariantExactTable: it returns true at every input. -/
import Derived.Test.YtaeajidijcdmbaaFmtProg
import Derived.WalkKit
import Derived.WalkLawsBesides
import Derived.WalkSpells
import Derived.Lib.Hide
import Derived.Below
import Derived.Laws.Rows
import Derived.Deep.Cut
namespace Go.Proofs.YtaeajidijcdmbaaFmt
open Go.RowKit
set_option linter.unusedVariables false
def Acc (l lv : Int) : Prop := (l = 0 ∧ lv = 1) ∨ (l = 1 ∧ lv = 1) ∨ (l = 2 ∧ lv = 2) ∨ (l = 4 ∧ lv = 4) ∨ (l = 8 ∧ lv = 8) ∨ (l = 16 ∧ lv = 16)
theorem variant (l lv : Int) (h : Acc l lv) (w : World) : Calls Tryf.prog 7 #[.int .i64 l] w fun e w' => e = .returned (.func (.func 15) #[] #[.pointer (some ⟨w.heap.size, 0, none⟩)]) ∧ w.alloc (.cells #[.int .i64 lv] 28) = w' := by
  rcases h with ⟨rfl, rfl⟩ | ⟨rfl, rfl⟩ | ⟨rfl, rfl⟩ | ⟨rfl, rfl⟩ | ⟨rfl, rfl⟩ | ⟨rfl, rfl⟩
  all_goals
    go_enter Tryf.func7, Tryf.ntmps7
    go_wp2
    go_ret
    exact ⟨rfl, rfl⟩
theorem acc_no (l : Int) (w : World) (h : l < 0 ∨ 32 ≤ l) (hm : -9223372036854775808 ≤ l ∧ l ≤ 9223372036854775807) : Calls Tryf.prog 5 #[.int .i64 l] w fun e w' => e = .returned (.bool false) ∧ w = w' := by
  obtain ⟨h1, h2⟩ := hm
  rcases h with h | h
  · go_enter Tryf.func5, Tryf.ntmps5
    go_wp2
    go_ret
    exact ⟨rfl, rfl⟩
  · have h3 : 0 ≤ l := by omega
    go_enter Tryf.func5, Tryf.ntmps5
    go_wp2
    go_ret
    exact ⟨rfl, rfl⟩
def accB (l : Int) : Bool := l == 0 || l == 1 || l == 2 || l == 4 || l == 8 || l == 16
theorem acc_in (l : Int) (w : World) (h : 0 ≤ l ∧ l < 32) : Calls Tryf.prog 5 #[.int .i64 l] w fun e w' => e = .returned (.bool (accB l)) ∧ w = w' := by
  rcases (show l = 0 ∨ l = 1 ∨ l = 2 ∨ l = 3 ∨ l = 4 ∨ l = 5 ∨ l = 6 ∨ l = 7 ∨ l = 8 ∨ l = 9 ∨ l = 10 ∨ l = 11 ∨ l = 12 ∨ l = 13 ∨ l = 14 ∨ l = 15 ∨ l = 16 ∨ l = 17 ∨ l = 18 ∨ l = 19 ∨ l = 20 ∨ l = 21 ∨ l = 22 ∨ l = 23 ∨ l = 24 ∨ l = 25 ∨ l = 26 ∨ l = 27 ∨ l = 28 ∨ l = 29 ∨ l = 30 ∨ l = 31 by omega) with rfl | rfl | rfl | rfl | rfl | rfl | rfl | rfl | rfl | rfl | rfl | rfl | rfl | rfl | rfl | rfl | rfl | rfl | rfl | rfl | rfl | rfl | rfl | rfl | rfl | rfl | rfl | rfl | rfl | rfl | rfl | rfl
  all_goals
    go_enter Tryf.func5, Tryf.ntmps5
    go_wp2
    go_ret
    exact ⟨rfl, rfl⟩
theorem wpList_build_some {P : Program} {ops : Array Oper} {rest : List Oper} {o : Oper} {a : Act} {w : World} {Q : Exit → Act → World → Prop} (hg : o.guard = none) (t : TypeId) (parts : Array (Nat × Operand)) (ho : o.op = .build t parts)
    (l : List (Nat × Value)) (cells : Array Value) (hf : P.built t l = some cells) (hl : (parts.map fun (i, x) => (i, a.eval x)).toList = l)
    (h : wpList P ops Q rest (a.put o.dst (.agg cells)) w) : wpList P ops Q (o :: rest) a w :=
  wpList_build hg t parts ho (by rw [hl, hf]; rfl) (by rw [hl, hf]; exact h)
theorem builtP : ∃ cs : Array Value, Tryf.prog.built 55 [(19, .int .i64 1)] = some cs ∧ cs[20]? = some (.int .i64 1) ∧ cs[19]? = some (.bool false) := ⟨(Tryf.prog.built 55 [(19, .int .i64 1)]).getD #[], by kernel_rfl, by kernel_rfl, by kernel_rfl⟩
theorem frozen_new (w : World) (cs : Array Value) (t : TypeId) (i : Nat) : (w.alloc (.cells cs t)).frozen? ⟨w.heap.size, i, none⟩ = false := by
  have h : (w.alloc (.cells cs t)).heap[w.heap.size]? = some (.cells cs t (0, 0)) := heap_alloc_new w _
  simp only [World.frozen?]; rw [h]; simp
theorem gen {P : Program} {c : Code} {Q : Exit → Act → World → Prop} {a : Act} {W : World} (S : World → Prop) (h : S W) (k : ∀ W, S W → c.wp P Q a W) : c.wp P Q a W := k W h
/-- the option's closure -/
theorem setl (p c : Nat) (lv : Int) (u : Value) (w : World) (h1 : w.cell? ⟨c, 0, none⟩ = some (.int .i64 lv)) (h2 : w.cell? ⟨p, 20, none⟩ = some u) (h3 : w.frozen? ⟨p, 20, none⟩ = false) :
    Calls Tryf.prog 15 #[.pointer (some ⟨p, 0, none⟩), .pointer (some ⟨c, 0, none⟩)] w fun e w' => (∃ v, e = .returned v) ∧ w.setCell ⟨p, 20, none⟩ (.int .i64 lv) = w' := by
  go_enter Tryf.func15, Tryf.ntmps15
  go_wp2
  go_end0
  exact ⟨⟨_, rfl⟩, rfl⟩
set_option maxRecDepth 100000 in
/-- NewParser with one option, the closure that Variant made -/
theorem newp (s c : Nat) (lv : Int) (w : World) (h0 : w.cell? ⟨s, 0, none⟩ = some (.func (.func 15) #[] #[.pointer (some ⟨c, 0, none⟩)])) (h1 : w.cell? ⟨c, 0, none⟩ = some (.int .i64 lv)) :
    Calls Tryf.prog 6 #[.slice (some ⟨s, 0, none⟩) 1 1] w fun e w' => e = .returned (.pointer (some ⟨w.heap.size, 0, none⟩)) ∧ w'.cell? ⟨w.heap.size, 20, none⟩ = some (.int .i64 lv) ∧ w'.cell? ⟨w.heap.size, 19, none⟩ = some (.bool false) ∧ Below w.heap.size w w' := by
  obtain ⟨cs, hb, h20, h19⟩ := builtP
  have HB := Lib.hid hb
  have H20 := Lib.hid h20
  have H19 := Lib.hid h19
  have hs := World.block_lt_of_cell? w _ h0
  have hc := World.block_lt_of_cell? w _ h1
  replace hs : s < w.heap.size := hs
  replace hc : c < w.heap.size := hc
  clear hb h20 h19
  have G := Lib.hid (show ∀ W, W = w.alloc (.cells cs 55) → W.cell? ⟨s, 0, none⟩ = some (.func (.func 15) #[] #[.pointer (some ⟨c, 0, none⟩)]) ∧ W.cell? ⟨c, 0, none⟩ = some (.int .i64 lv) ∧ W.cell? ⟨w.heap.size, 20, none⟩ = some (.int .i64 1) ∧ W.cell? ⟨w.heap.size, 19, none⟩ = some (.bool false) ∧ W.frozen? ⟨w.heap.size, 20, none⟩ = false ∧ Below w.heap.size w W from fun W hW => by
    subst hW
    refine ⟨(World.cell?_alloc_lt _ _ _ hs).trans h0, (World.cell?_alloc_lt _ _ _ hc).trans h1, ?_, ?_, frozen_new w cs 55 20, (Below.refl _ _).alloc (Nat.le_refl _) _⟩
    · rw [World.cell?_alloc_new]; exact H20.out
    · rw [World.cell?_alloc_new]; exact H19.out)
  clear h0 h1
  go_enter Tryf.func6, Tryf.ntmps6
  go_upto_region 2 with (refine wpList_build_some rfl 55 _ rfl _ cs HB.out ?hl ?_; focus (go_simp; done))
  refine gen (fun W => W.cell? ⟨s, 0, none⟩ = some (.func (.func 15) #[] #[.pointer (some ⟨c, 0, none⟩)]) ∧ W.cell? ⟨c, 0, none⟩ = some (.int .i64 lv) ∧ W.cell? ⟨w.heap.size, 20, none⟩ = some (.int .i64 1) ∧ W.cell? ⟨w.heap.size, 19, none⟩ = some (.bool false) ∧ W.frozen? ⟨w.heap.size, 20, none⟩ = false ∧ Below w.heap.size w W) (G.out _ rfl) ?_
  rintro W ⟨g1, g2, g3, g4, g5, g6⟩
  clear G HB H20 H19
  go_wp2
  refine wp_loop_rounds 2 ?_
  rw [rounds_succ]
  go_wp2_with fail
  refine (setl w.heap.size c lv _ W g2 g3 g5).mono ?_
  rintro e W2 ⟨⟨v, rfl⟩, rfl⟩
  have F1 := Lib.hid (World.cell?_setCell_same _ _ (.int .i64 lv) g3)
  have F2 := Lib.hid (show (W.setCell ⟨w.heap.size, 20, none⟩ (.int .i64 lv)).cell? ⟨w.heap.size, 19, none⟩ = some (.bool false) from (World.cell?_setCell_other _ _ _ _ (fun e => by simp at e)).trans g4)
  have F3 := Lib.hid (g6.setCell (p := ⟨w.heap.size, 20, none⟩) (Nat.le_refl _) (.int .i64 lv))
  clear g1 g2 g3 g4 g5 g6
  generalize W.setCell ⟨w.heap.size, 20, none⟩ (.int .i64 lv) = V at *
  go_wp2
  rw [rounds_succ]
  go_wp2
  go_ret
  exact ⟨rfl, F1.out, F2.out, F3.out⟩
theorem getl (p : Nat) (lv : Int) (w : World) (h : w.cell? ⟨p, 20, none⟩ = some (.int .i64 lv)) : Calls Tryf.prog 8 #[.pointer (some ⟨p, 0, none⟩)] w fun e w' => e = .returned (.int .i64 lv) ∧ w = w' := by
  go_enter Tryf.func8, Tryf.ntmps8
  go_wp2
  go_ret
  exact ⟨rfl, rfl⟩
theorem getk (p : Nat) (w : World) (h : w.cell? ⟨p, 19, none⟩ = some (.bool false)) : Calls Tryf.prog 9 #[.pointer (some ⟨p, 0, none⟩)] w fun e w' => e = .returned (.bool false) ∧ w = w' := by
  go_enter Tryf.func9, Tryf.ntmps9
  go_wp2
  go_ret
  exact ⟨rfl, rfl⟩
theorem var_no (l : Int) (w : World) (h : Calls Tryf.prog 5 #[.int .i64 l] w fun e w' => e = .returned (.bool false) ∧ w = w') :
    Calls Tryf.prog 3 #[.int .i64 l] w fun e w' => e = .returned (.bool true) ∧ Below w.heap.size w w' := by
  have H := Lib.hid h
  clear h
  go_enter Tryf.func3, Tryf.ntmps3
  go_wp2_with fail
  refine H.out.mono ?_
  rintro e w1 ⟨rfl, rfl⟩
  go_wp2
  go_ret
  exact ⟨rfl, Below.refl _ _⟩
theorem Acc.is {l lv : Int} (h : Acc l lv) : 0 ≤ l ∧ l < 32 ∧ accB l = true := by
  rcases h with ⟨rfl, rfl⟩ | ⟨rfl, rfl⟩ | ⟨rfl, rfl⟩ | ⟨rfl, rfl⟩ | ⟨rfl, rfl⟩ | ⟨rfl, rfl⟩ <;> decide
theorem var_yes (l lv : Int) (w : World) (h : Acc l lv) :
    Calls Tryf.prog 3 #[.int .i64 l] w fun e w' => e = .returned (.bool true) ∧ Below w.heap.size w w' := by
  have A := Lib.hid (show Calls Tryf.prog 5 #[.int .i64 l] w fun e w' => e = .returned (.bool true) ∧ w = w' from by rw [← h.is.2.2]; exact acc_in l w ⟨h.is.1, h.is.2.1⟩)
  have V := Lib.hid (variant l lv h w)
  have NP := Lib.hid (fun (W : World) h0 h1 => newp (w.heap.size + 1) w.heap.size lv W h0 h1)
  rcases h with ⟨rfl, rfl⟩ | ⟨rfl, rfl⟩ | ⟨rfl, rfl⟩ | ⟨rfl, rfl⟩ | ⟨rfl, rfl⟩ | ⟨rfl, rfl⟩
  all_goals
    go_enter Tryf.func3, Tryf.ntmps3
    go_wp2_with fail
    refine A.out.mono ?_
    rintro e w1 ⟨rfl, rfl⟩
    clear A
    go_wp2_with fail
    refine V.out.mono ?_
    rintro e w1 ⟨rfl, rfl⟩
    clear V
    go_wp2_with fail
    refine (NP.out _ ?n1 ?n2).mono ?_
    case n1 => go_simp
    case n2 => go_simp
    rintro e w2 ⟨rfl, h1, h2, hb⟩
    have HB := ((((Below.refl _ w).alloc (Nat.le_refl _) _).alloc (by simp) _).trans (hb.mono (by simp only [World.size_alloc]; omega)))
    clear hb
    simp only [World.size_alloc] at h1 h2
    go_wp2_with (first | (go_at_call 8; refine (getl _ _ _ h1).mono ?_; rintro e w3 ⟨rfl, rfl⟩) | (go_at_call 9; refine (getk _ _ h2).mono ?_; rintro e w3 ⟨rfl, rfl⟩))
    go_ret
    exact ⟨rfl, HB⟩
theorem accB_acc (l : Int) (h : accB l = true) : ∃ lv, Acc l lv := by
  unfold accB at h
  simp only [Bool.or_eq_true, beq_iff_eq] at h
  rcases h with ((((h | h) | h) | h) | h) | h
  · exact ⟨1, .inl ⟨h, rfl⟩⟩
  · exact ⟨1, .inr (.inl ⟨h, rfl⟩)⟩
  · exact ⟨2, .inr (.inr (.inl ⟨h, rfl⟩))⟩
  · exact ⟨4, .inr (.inr (.inr (.inl ⟨h, rfl⟩)))⟩
  · exact ⟨8, .inr (.inr (.inr (.inr (.inl ⟨h, rfl⟩))))⟩
  · exact ⟨16, .inr (.inr (.inr (.inr (.inr ⟨h, rfl⟩))))⟩
theorem var_law (l : Int) (w : World) (hm : -9223372036854775808 ≤ l ∧ l ≤ 9223372036854775807) : Calls Tryf.prog 3 #[.int .i64 l] w fun e w' => e = .returned (.bool true) ∧ Below w.heap.size w w' := by
  by_cases h : 0 ≤ l ∧ l < 32
  · by_cases ha : accB l = true
    · obtain ⟨lv, h2⟩ := accB_acc l ha
      exact var_yes l lv w h2
    · exact var_no l w (by rw [show false = accB l from by simpa using ha]; exact acc_in l w h)
  · exact var_no l w (acc_no l w (by omega) hm)
end Go.Proofs.YtaeajidijcdmbaaFmt
