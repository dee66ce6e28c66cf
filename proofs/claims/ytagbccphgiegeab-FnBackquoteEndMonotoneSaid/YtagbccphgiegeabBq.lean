/- The contract of (*Parser).backquoteEnd and of its export, and the walk of the law FnBackquoteEndMonotone: it returns true at every pair of ints. -/
import Derived.Test.YtagbccphgiegeabPos
import Derived.Laws.Tables
import Derived.Deep.QuietTactic
import Derived.BigQuiet
namespace Go.Proofs.Ytagbccphgiegeab
open Go.RowKit

theorem wpList_build_some {P : Program} {ops : Array Oper} {rest : List Oper} {o : Oper} {a : Act} {w : World} {Q : Exit → Act → World → Prop} (hg : o.guard = none) (t : TypeId) (parts : Array (Nat × Operand)) (ho : o.op = .build t parts)
    (l : List (Nat × Value)) (cells : Array Value) (hf : P.built t l = some cells) (hl : (parts.map fun (i, x) => (i, a.eval x)).toList = l)
    (h : wpList P ops Q rest (a.put o.dst (.agg cells)) w) : wpList P ops Q (o :: rest) a w :=
  wpList_build hg t parts ho (by rw [hl, hf]; rfl) (by rw [hl, hf]; exact h)
theorem built2 (o e : Int) : ∃ cs : Array Value, Try.prog.built 82 [(29, .int .i64 o), (31, .int .i64 e)] = some cs ∧ cs[30]? = some (.int .i64 o) ∧ cs[32]? = some (.int .i64 e) :=
  ⟨(Try.prog.built 82 [(29, .int .i64 o), (31, .int .i64 e)]).getD #[], by kernel_rfl, by kernel_rfl, by kernel_rfl⟩

theorem bq_any (b : Nat) (o e : Int) (w : World) (h1 : w.cell? ⟨b, 30, none⟩ = some (.int .i64 o)) (h2 : w.cell? ⟨b, 32, none⟩ = some (.int .i64 e)) :
    Calls Try.prog 32 #[.pointer (some ⟨b, 0, none⟩)] w fun r w' => r = .returned (.bool (decide (e < o))) ∧ Below w.heap.size w w' := by
  go_enter Try.func32, Try.ntmps32
  go_wp2
  go_quiet (fail)
  go_wp2
  go_ret
  exact ⟨rfl, below_drewN (Below.refl _ _) _⟩

theorem zzbq_any (o e : Int) (w : World) : Calls Try.prog 29 #[.int .i64 o, .int .i64 e] w fun r w' => r = .returned (.bool (decide (e < o))) ∧ Below w.heap.size w w' := by
  obtain ⟨cs, hb, h2, h3⟩ := built2 o e
  have HB := Lib.hid hb
  clear hb
  have H2 := Lib.hid h2
  have H3 := Lib.hid h3
  clear h2 h3
  go_enter Try.func29, Try.ntmps29
  go_wp2_with (first | (refine wpList_build_some rfl 82 _ rfl _ cs HB.out ?hl ?_; focus (go_simp; done)) | (go_at_call 32; refine (bq_any _ o e _ (by simp [H2.out]) (by simp [H3.out])).mono ?_; rintro r w' ⟨rfl, hb⟩))
  go_ret
  exact ⟨rfl, btrans (balloc (Below.refl _ _) _) hb⟩
theorem bq_t (o e : Int) (w : World) (h : e < o) : Calls Try.prog 29 #[.int .i64 o, .int .i64 e] w fun r w' => r = .returned (.bool true) ∧ Below w.heap.size w w' :=
  (zzbq_any o e w).mono fun r w' k => ⟨by rw [k.1]; simp [h], k.2⟩
theorem bq_f (o e : Int) (w : World) (h : o ≤ e) : Calls Try.prog 29 #[.int .i64 o, .int .i64 e] w fun r w' => r = .returned (.bool false) ∧ Below w.heap.size w w' :=
  (zzbq_any o e w).mono fun r w' k => ⟨by rw [k.1]; simp [h], k.2⟩

theorem bq_law (o e : Int) (w : World) : Calls Try.prog 8 #[.int .i64 o, .int .i64 e] w fun r w' => r = .returned (.bool true) ∧ Below w.heap.size w w' := by
  by_cases a : o < 0 ∨ e < 0 ∨ 1073741824 < o ∨ 1073741824 < e
  · go_enter Try.func8, Try.ntmps8
    go_wp2_with fail
    all_goals first | (go_ret; exact ⟨rfl, Below.refl _ _⟩) | (exfalso; omega)
  · have a0 : 0 ≤ o := by omega
    have a1 : 0 ≤ e := by omega
    have a2 : o ≤ 1073741824 := by omega
    have a3 : e ≤ 1073741824 := by omega
    clear a
    by_cases h : e < o
    · by_cases z : 0 < e
      · go_enter Try.func8, Try.ntmps8
        go_wp2_with (first | (go_at_call 29; refine (bq_t _ _ _ (by omega)).mono ?_; rintro r w' ⟨rfl, hb⟩) | (go_at_call 29; refine (bq_f _ _ _ (by omega)).mono ?_; rintro r w' ⟨rfl, hb⟩))
        go_ret
        refine ⟨rfl, ?_⟩
        repeat (first | assumption | refine btrans ?_ (by assumption))
      · go_enter Try.func8, Try.ntmps8
        go_wp2_with (first | (go_at_call 29; refine (bq_t _ _ _ (by omega)).mono ?_; rintro r w' ⟨rfl, hb⟩) | (go_at_call 29; refine (bq_f _ _ _ (by omega)).mono ?_; rintro r w' ⟨rfl, hb⟩))
        go_ret
        refine ⟨rfl, ?_⟩
        repeat (first | assumption | refine btrans ?_ (by assumption))
    · go_enter Try.func8, Try.ntmps8
      go_wp2_with (first | (go_at_call 29; refine (bq_t _ _ _ (by omega)).mono ?_; rintro r w' ⟨rfl, hb⟩) | (go_at_call 29; refine (bq_f _ _ _ (by omega)).mono ?_; rintro r w' ⟨rfl, hb⟩))
      go_ret
      refine ⟨rfl, ?_⟩
      repeat (first | assumption | refine btrans ?_ (by assumption))
end Go.Proofs.Ytagbccphgiegeab
