/- Contracts of (*Parser).backquoteEnd and (*Parser).stopToken over a parser whose fields tok, openBquotes and lastBquoteEsc are known, of their two exports, and the walk of the law FnStopTokenCountersOnlyAtBackquote: it returns true at every input. -/
import Derived.Test.YtagbccphgiegeaaRunes
import Derived.WalkKit
import Derived.WalkLawsBesides
import Derived.Lib.Hide
import Derived.Laws.Tables
import Derived.Deep.QuietTactic
import Derived.BigQuiet
import Derived.OpenShut
namespace Go.Proofs.Ytagbccphgiegeaa
open Go.RowKit

theorem wpList_build_some {P : Program} {ops : Array Oper} {rest : List Oper} {o : Oper} {a : Act} {w : World} {Q : Exit → Act → World → Prop} (hg : o.guard = none) (t : TypeId) (parts : Array (Nat × Operand)) (ho : o.op = .build t parts)
    (l : List (Nat × Value)) (cells : Array Value) (hf : P.built t l = some cells) (hl : (parts.map fun (i, x) => (i, a.eval x)).toList = l)
    (h : wpList P ops Q rest (a.put o.dst (.agg cells)) w) : wpList P ops Q (o :: rest) a w :=
  wpList_build hg t parts ho (by rw [hl, hf]; rfl) (by rw [hl, hf]; exact h)

theorem built3 (t o e : Int) : ∃ cs : Array Value, Try.prog.built 52 [(10, .int .u32 t), (29, .int .i64 o), (31, .int .i64 e)] = some cs ∧ cs[10]? = some (.int .u32 t) ∧ cs[30]? = some (.int .i64 o) ∧ cs[32]? = some (.int .i64 e) :=
  ⟨(Try.prog.built 52 [(10, .int .u32 t), (29, .int .i64 o), (31, .int .i64 e)]).getD #[], by kernel_rfl, by kernel_rfl, by kernel_rfl, by kernel_rfl⟩
theorem built2 (o e : Int) : ∃ cs : Array Value, Try.prog.built 52 [(29, .int .i64 o), (31, .int .i64 e)] = some cs ∧ cs[30]? = some (.int .i64 o) ∧ cs[32]? = some (.int .i64 e) :=
  ⟨(Try.prog.built 52 [(29, .int .i64 o), (31, .int .i64 e)]).getD #[], by kernel_rfl, by kernel_rfl, by kernel_rfl⟩

theorem bq_any (b : Nat) (o e : Int) (w : World) (h1 : w.cell? ⟨b, 30, none⟩ = some (.int .i64 o)) (h2 : w.cell? ⟨b, 32, none⟩ = some (.int .i64 e)) :
    Calls Try.prog 24 #[.pointer (some ⟨b, 0, none⟩)] w fun r w' => r = .returned (.bool (decide (e < o))) ∧ Below w.heap.size w w' := by
  go_enter Try.func24, Try.ntmps24
  go_wp2
  go_quiet (fail)
  go_wp2
  go_ret
  exact ⟨rfl, below_drewN (Below.refl _ _) _⟩

def stopB (t : Int) : Bool := t == 1 || t == 2 || t == 34 || t == 10 || t == 13 || t == 11 || t == 12 || t == 14 || t == 15 || t == 16 || t == 35 || t == 36 || t == 37 || t == 38 || t == 32
def stopV (t o e : Int) : Bool := stopB t || (t == 9 && decide (e < o))
theorem stopV_9 (o e : Int) : stopV 9 o e = decide (e < o) := by simp [stopV, stopB]
theorem stopV_other (t o e o' e' : Int) (h : (t == 9) = false) : stopV t o e = stopV t o' e' := by simp [stopV, h]
theorem btrans {a b c : World} (h : Below a.heap.size a b) (k : Below b.heap.size b c) : Below a.heap.size a c := h.trans (k.mono h.size)

theorem stop_any (b : Nat) (t o e : Int) (w : World) (h0 : w.cell? ⟨b, 10, none⟩ = some (.int .u32 t)) (h1 : w.cell? ⟨b, 30, none⟩ = some (.int .i64 o)) (h2 : w.cell? ⟨b, 32, none⟩ = some (.int .i64 e)) :
    Calls Try.prog 23 #[.pointer (some ⟨b, 0, none⟩)] w fun r w' => r = .returned (.bool (stopV t o e)) ∧ Below w.heap.size w w' := by
  have E1 := Lib.hid (show stopV t o e = (stopB t || (t == 9 && decide (e < o))) from rfl)
  go_enter Try.func23, Try.ntmps23
  go_wp2_with (go_at_call 24; refine (bq_any _ _ _ _ h1 h2).mono ?_; rintro r w' ⟨rfl, hb⟩)
  all_goals
    go_ret
    refine ⟨ret_bool ?_, by first | exact Below.refl _ _ | assumption⟩
    rw [E1.out]
    unfold stopB
    simp [*]

theorem zzstop_any (t o e : Int) (w : World) : Calls Try.prog 14 #[.int .u32 t, .int .i64 o, .int .i64 e] w fun r w' => r = .returned (.bool (stopV t o e)) ∧ Below w.heap.size w w' := by
  obtain ⟨cs, hb, h1, h2, h3⟩ := built3 t o e
  have HB := Lib.hid hb
  clear hb
  have H1 := Lib.hid h1
  have H2 := Lib.hid h2
  have H3 := Lib.hid h3
  clear h1 h2 h3
  go_enter Try.func14, Try.ntmps14
  go_wp2_with (first | (refine wpList_build_some rfl 52 _ rfl _ cs HB.out ?hl ?_; focus (go_simp; done)) | (go_at_call 23; refine (stop_any _ t o e _ (by simp [H1.out]) (by simp [H2.out]) (by simp [H3.out])).mono ?_; rintro r w' ⟨rfl, hb⟩))
  go_ret
  exact ⟨rfl, ((Below.refl _ _).alloc (Nat.le_refl _) _).trans (hb.mono (by simp))⟩

theorem zzbq_any (o e : Int) (w : World) : Calls Try.prog 15 #[.int .i64 o, .int .i64 e] w fun r w' => r = .returned (.bool (decide (e < o))) ∧ Below w.heap.size w w' := by
  obtain ⟨cs, hb, h2, h3⟩ := built2 o e
  have HB := Lib.hid hb
  clear hb
  have H2 := Lib.hid h2
  have H3 := Lib.hid h3
  clear h2 h3
  go_enter Try.func15, Try.ntmps15
  go_wp2_with (first | (refine wpList_build_some rfl 52 _ rfl _ cs HB.out ?hl ?_; focus (go_simp; done)) | (go_at_call 24; refine (bq_any _ o e _ (by simp [H2.out]) (by simp [H3.out])).mono ?_; rintro r w' ⟨rfl, hb⟩))
  go_ret
  exact ⟨rfl, ((Below.refl _ _).alloc (Nat.le_refl _) _).trans (hb.mono (by simp))⟩

theorem stop_law (t o1 e1 o2 e2 : Int) (w : World) :
    Calls Try.prog 6 #[.int .u32 t, .int .i64 o1, .int .i64 e1, .int .i64 o2, .int .i64 e2] w fun r w' => r = .returned (.bool true) ∧ Below w.heap.size w w' := by
  by_cases ht : t = 9
  · subst ht
    have E := Lib.hid (stopV_9 o1 e1)
    go_enter Try.func6, Try.ntmps6
    go_wp2_with (first | (go_at_call 14; refine (zzstop_any _ _ _ _).mono ?_; rintro r w1 ⟨rfl, hb1⟩) | (go_at_call 15; refine (zzbq_any _ _ _).mono ?_; rintro r w2 ⟨rfl, hb2⟩))
    all_goals
      go_ret
      refine ⟨ret_bool (by first | rfl | (rw [E.out]; simp)), ?_⟩
      repeat (first | exact Below.refl _ _ | assumption | refine btrans ?_ (by assumption))
  · have ht' : (t == 9) = false := by simp [ht]
    have E := Lib.hid (stopV_other t o1 e1 o2 e2 ht')
    clear ht
    go_enter Try.func6, Try.ntmps6
    go_wp2_with (go_at_call 14; refine (zzstop_any _ _ _ _).mono ?_; rintro r w1 ⟨rfl, hb1⟩)
    all_goals
      go_ret
      refine ⟨ret_bool (by first | rfl | (rw [E.out]; simp)), ?_⟩
      repeat (first | exact Below.refl _ _ | assumption | refine btrans ?_ (by assumption))
end Go.Proofs.Ytagbccphgiegeaa
