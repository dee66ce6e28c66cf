/- What stays true of a statement tree while the stacks that hold it grow; the contracts of the statement builders. -/
import Derived.Test.YtfpfeeojnchkaaaTree
import Derived.Maps.AppendAt
namespace Go.Proofs.Ytfpfeeojnchkaaa
open Go.RowKit
set_option linter.unusedVariables false

theorem btrans {a b c : World} (h : Below a.heap.size a b) (k : Below b.heap.size b c) : Below a.heap.size a c := h.trans (k.mono h.size)
theorem balloc {a b : World} (h : Below a.heap.size a b) (o : Obj) : Below a.heap.size a (b.alloc o) := h.alloc h.size o
theorem blater {w w' : World} {p : Addr} {v : Value} (hb : Below w.heap.size w w') (h : w.cell? p = some v) : w'.cell? p = some v := (hb.cell (World.block_lt_of_cell? w _ h)).trans h
theorem lt_of_heap {w : World} {b : Nat} {o : Obj} (h : w.heap[b]? = some o) : b < w.heap.size := by
  rcases Nat.lt_or_ge b w.heap.size with hlt | hge
  · exact hlt
  · rw [Array.getElem?_eq_none hge] at h; cases h

/-- every block but x, and but the stacks' rows (element types 25 and 4), is as it was -/
def Kp (x : Option Nat) (w W : World) : Prop := ∀ (b : Nat) (cs : Array Value) (t : TypeId), some b ≠ x → t ≠ 25 → t ≠ 4 → w.heap[b]? = some (.cells cs t (0, 0)) → W.heap[b]? = some (.cells cs t (0, 0))
theorem Kp.refl (x : Option Nat) (w : World) : Kp x w w := fun _ _ _ _ _ _ h => h
theorem Kp.trans {x : Option Nat} {a b c : World} (h : Kp x a b) (k : Kp x b c) : Kp x a c := fun i cs t h1 h2 h3 h4 => k i cs t h1 h2 h3 (h i cs t h1 h2 h3 h4)
theorem Kp.weak {x : Option Nat} {a b : World} (h : Kp none a b) : Kp x a b := fun i cs t _ h2 h3 h4 => h i cs t (by simp) h2 h3 h4
theorem Kp.below {x : Option Nat} {w W : World} (h : Below w.heap.size w W) : Kp x w W := fun i cs t _ _ _ h4 => (h.block i (lt_of_heap h4)).trans h4
theorem Kp.set_ (p i : Nat) (u : Value) (w : World) : Kp (some p) w (w.setCell ⟨p, i, none⟩ u) := fun b cs t h1 _ _ h4 => (Below.heap_setCell w _ u b (fun e => h1 (by rw [e]))).trans h4
theorem Kp.row {x : Option Nat} {w W : World} {base : Nat} {e : TypeId} {size : Nat} {v : Value} {n : Nat} {xs : List Value} (hown : w.ownsRow base e size v n xs) (he : e = 25 ∨ e = 4) (hg : w.grownBy W v.ownBlock) : Kp x w W := fun b cs t _ h2 h3 h4 => by
  refine (hg.block b (lt_of_heap h4) ?_).trans h4
  rcases hown.2 with ⟨rfl, _⟩ | ⟨g, cap, cur, rfl, _, hh, _⟩
  · simp [Value.ownBlock]
  · intro hb
    have : b = g := by simpa [Value.ownBlock] using hb
    subst this
    rw [hh] at h4
    injection h4 with h4
    injection h4 with _ ht
    rcases he with rfl | rfl
    · exact h2 ht.symm
    · exact h3 ht.symm
def Says (f : FuncId) (x : Option Nat) (w : World) (c : Value) (b : Bool) : Prop := ∀ W, Kp x w W → Calls Try.prog f #[c] W fun e w' => e = .returned (.bool b) ∧ W = w'
theorem Says.later {f : FuncId} {x : Option Nat} {w W : World} {c : Value} {b : Bool} (h : Says f x w c b) (k : Kp x w W) : Says f x W c b := fun V hV => h V (k.trans hV)
theorem Says.here {f : FuncId} {x : Option Nat} {w : World} {c : Value} {b : Bool} (h : Says f x w c b) : Calls Try.prog f #[c] w fun e w' => e = .returned (.bool b) ∧ w = w' := h w (Kp.refl _ _)
theorem Says.fence {f : FuncId} {w W : World} {c : Value} {b : Bool} {p : Nat} (h : Says f none w c b) (k : Kp none w W) (hp : w.heap.size ≤ p) : Says f (some p) W c b := fun V hV => h V fun i cs t _ h2 h3 h4 => hV i cs t (fun e => by injection e with e; have := lt_of_heap h4; omega) h2 h3 (k i cs t (by simp) h2 h3 h4)
abbrev SP (p : Nat) : Value := .iface 25 (.pointer (some ⟨p, 0, none⟩))
abbrev PT (p : Nat) : Value := .pointer (some ⟨p, 0, none⟩)
def stmtC (c : Value) (ng bg cp ds : Bool) (r : Value) : Array Value := #[.slice none 0 0, c, .int .u32 0, .int .u32 0, .int .u32 0, .int .u32 0, .bool ng, .bool bg, .bool cp, .bool ds, r]
theorem cellB {w : World} {p : Nat} {cs : Array Value} {t : TypeId} (h : w.heap[p]? = some (.cells cs t (0, 0))) (i : Nat) : w.cell? ⟨p, i, none⟩ = cs[i]? := cell_of_row w p i cs t (0, 0) h
theorem frozenB {w : World} {p : Nat} {cs : Array Value} {t : TypeId} (h : w.heap[p]? = some (.cells cs t (0, 0))) (i : Nat) : w.frozen? ⟨p, i, none⟩ = false := by simp [World.frozen?, h]
theorem setB {w : World} {p : Nat} {cs : Array Value} {t : TypeId} (h : w.heap[p]? = some (.cells cs t (0, 0))) (i : Nat) (u : Value) : (w.setCell ⟨p, i, none⟩ u).heap[p]? = some (.cells (cs.setIfInBounds i u) t (0, 0)) := heap_setCell_same w p i cs t u h
theorem says_st {V : World} {p : Nat} {c : Value} {ng bg cp ds : Bool} {r : Value} {a : Bool} (hp : V.heap[p]? = some (.cells (stmtC c ng bg cp ds r) 41 (0, 0))) (S : Says 19 (some p) V c a) : Says 19 none V (SP p) a := fun W hW =>
  st_stmt p c a W ((cellB (hW p _ 41 (by simp) (by decide) (by decide) hp) 1).trans rfl) (S W hW.weak)
theorem says_en {V : World} {p n : Nat} {q : Option Addr} {c : Value} {ng bg cp ds : Bool} {a : Bool} (hp : V.heap[p]? = some (.cells (stmtC c ng bg cp ds (.slice q n n)) 41 (0, 0))) (S : Says 20 (some p) V c a) : Says 20 none V (SP p) (a && !(bg || cp || ds || decide (0 < n))) := fun W hW => by
  have hh := hW p _ 41 (by simp) (by decide) (by decide) hp
  cases hf : (bg || cp || ds || decide (0 < n))
  · simp only [Bool.or_eq_false_iff, decide_eq_false_iff_not] at hf
    obtain ⟨⟨⟨rfl, rfl⟩, rfl⟩, hn⟩ := hf
    obtain rfl : n = 0 := by omega
    rw [show (a && !false) = a by simp]
    exact en_stmt p q c a W ((cellB hh 7).trans rfl) ((cellB hh 8).trans rfl) ((cellB hh 9).trans rfl) ((cellB hh 10).trans rfl) ((cellB hh 1).trans rfl) (S W hW.weak)
  · rw [show (a && !true) = false by simp]
    exact en_stmt_no p n q bg cp ds W ((cellB hh 7).trans rfl) ((cellB hh 8).trans rfl) ((cellB hh 9).trans rfl) ((cellB hh 10).trans rfl) hf
/-- a new statement, bare of modifiers, at block p -/
def New (w w' : World) (p : Nat) (c : Value) (a b : Bool) : Prop := Below w.heap.size w w' ∧ w.heap.size ≤ p ∧ w'.heap[p]? = some (.cells (stmtC c false false false false (.slice none 0 0)) 41 (0, 0)) ∧ Says 19 (some p) w' c a ∧ Says 20 (some p) w' c b
theorem mk_13 (w : World) : Calls Try.prog 13 #[] w fun e w' => ∃ p c, e = .returned (PT p) ∧ New w w' p c true true := by
  have h : Calls Try.prog 13 #[] w fun e w' => e = .returned (PT (w.heap.size + 1)) ∧ (w.alloc (.cells #[.int .u32 0, .int .u32 0, .int .u32 0, .int .u32 0, .slice none 0 0, .slice none 0 0] 51)).alloc (.cells (stmtC (.iface 49 (.pointer (some ⟨w.heap.size, 0, none⟩))) false false false false (.slice none 0 0)) 41) = w' := by
    go_enter Try.func13, Try.ntmps13
    go_wp2
    go_ret
    exact ⟨rfl, rfl⟩
  refine h.mono fun e w' k => ?_
  obtain ⟨rfl, rfl⟩ := k
  exact ⟨_, _, rfl, balloc (balloc (Below.refl _ _) _) _, by omega, by simpa using heap_alloc_new (w.alloc _) _, fun W _ => st_49 _ W, fun W _ => en_49 _ W⟩
theorem mk_14 (w : World) : Calls Try.prog 14 #[] w fun e w' => ∃ p c, e = .returned (PT p) ∧ New w w' p c true true := by
  have h : Calls Try.prog 14 #[] w fun e w' => e = .returned (PT (w.heap.size + 1)) ∧ (w.alloc (.cells #[.int .u32 0, .int .u32 0, .int .u32 0, .int .u32 0, .bool false, .nilIface] 56)).alloc (.cells (stmtC (.iface 52 (.pointer (some ⟨w.heap.size, 0, none⟩))) false false false false (.slice none 0 0)) 41) = w' := by
    go_enter Try.func14, Try.ntmps14
    go_wp2
    go_ret
    exact ⟨rfl, rfl⟩
  refine h.mono fun e w' k => ?_
  obtain ⟨rfl, rfl⟩ := k
  exact ⟨_, _, rfl, balloc (balloc (Below.refl _ _) _) _, by omega, by simpa using heap_alloc_new (w.alloc _) _, fun W _ => st_52 _ W, fun W _ => en_52 _ W⟩
theorem mk_15 (w : World) : Calls Try.prog 15 #[] w fun e w' => ∃ p c, e = .returned (PT p) ∧ New w w' p c false false := by
  have h : Calls Try.prog 15 #[] w fun e w' => e = .returned (PT (w.heap.size + 1)) ∧ (w.alloc (.cells #[.slice none 0 0, .slice none 0 0] 61)).alloc (.cells (stmtC (.iface 57 (.pointer (some ⟨w.heap.size, 0, none⟩))) false false false false (.slice none 0 0)) 41) = w' := by
    go_enter Try.func15, Try.ntmps15
    go_wp2
    go_ret
    exact ⟨rfl, rfl⟩
  refine h.mono fun e w' k => ?_
  obtain ⟨rfl, rfl⟩ := k
  exact ⟨_, _, rfl, balloc (balloc (Below.refl _ _) _) _, by omega, by simpa using heap_alloc_new (w.alloc _) _, fun W _ => st_57 _ W, fun W _ => en_57 _ W⟩
theorem mk_16 (w : World) : Calls Try.prog 16 #[] w fun e w' => ∃ p c, e = .returned (PT p) ∧ New w w' p c false false := by
  have h : Calls Try.prog 16 #[] w fun e w' => e = .returned (PT (w.heap.size + 1)) ∧ (w.alloc (.cells #[.int .u32 0, .int .u32 0, .int .u32 0, .int .u32 0, .slice none 0 0, .slice none 0 0] 64)).alloc (.cells (stmtC (.iface 62 (.pointer (some ⟨w.heap.size, 0, none⟩))) false false false false (.slice none 0 0)) 41) = w' := by
    go_enter Try.func16, Try.ntmps16
    go_wp2
    go_ret
    exact ⟨rfl, rfl⟩
  refine h.mono fun e w' k => ?_
  obtain ⟨rfl, rfl⟩ := k
  exact ⟨_, _, rfl, balloc (balloc (Below.refl _ _) _) _, by omega, by simpa using heap_alloc_new (w.alloc _) _, fun W _ => st_62 _ W, fun W _ => en_62 _ W⟩
theorem mk_17 (w : World) : Calls Try.prog 17 #[] w fun e w' => ∃ p c, e = .returned (PT p) ∧ New w w' p c false false := by
  have h : Calls Try.prog 17 #[] w fun e w' => e = .returned (PT w.heap.size) ∧ w.alloc (.cells (stmtC .nilIface false false false false (.slice none 0 0)) 41) = w' := by
    go_enter Try.func17, Try.ntmps17
    go_wp2
    go_ret
    exact ⟨rfl, rfl⟩
  refine h.mono fun e w' k => ?_
  obtain ⟨rfl, rfl⟩ := k
  exact ⟨_, _, rfl, balloc (Below.refl _ _) _, Nat.le_refl _, heap_alloc_new w _, fun W _ => st_nil W, fun W _ => en_nil W⟩
theorem mk_18 (x y : Nat) (a b : Bool) (w : World) (hx : Says 19 none w (SP x) a) (hy : Says 20 none w (SP y) b) : Calls Try.prog 18 #[PT x, PT y] w fun e w' => ∃ p c, e = .returned (PT p) ∧ New w w' p c a b := by
  have h : Calls Try.prog 18 #[PT x, PT y] w fun e w' => e = .returned (PT (w.heap.size + 1)) ∧ (w.alloc (.cells #[.int .u32 0, .int .u32 0, .int .u32 11, PT x, PT y] 68)).alloc (.cells (stmtC (.iface 65 (.pointer (some ⟨w.heap.size, 0, none⟩))) false false false false (.slice none 0 0)) 41) = w' := by
    go_enter Try.func18, Try.ntmps18
    go_wp2
    go_ret
    exact ⟨rfl, rfl⟩
  refine h.mono fun e w' k => ?_
  obtain ⟨rfl, rfl⟩ := k
  have hB := balloc (balloc (Below.refl w.heap.size w) (.cells #[.int .u32 0, .int .u32 0, .int .u32 11, PT x, PT y] 68)) (.cells (stmtC (.iface 65 (.pointer (some ⟨w.heap.size, 0, none⟩))) false false false false (.slice none 0 0)) 41)
  have hc : ((w.alloc (.cells #[.int .u32 0, .int .u32 0, .int .u32 11, PT x, PT y] 68)).alloc (.cells (stmtC (.iface 65 (.pointer (some ⟨w.heap.size, 0, none⟩))) false false false false (.slice none 0 0)) 41)).heap[w.heap.size]? = some (.cells #[.int .u32 0, .int .u32 0, .int .u32 11, PT x, PT y] 68 (0, 0)) :=
    (Below.heap_alloc (w.alloc _) _ w.heap.size (by simp)).trans (heap_alloc_new w _)
  refine ⟨_, _, rfl, hB, by omega, by simpa using heap_alloc_new (w.alloc _) _, fun W hW => ?_, fun W hW => ?_⟩
  · have hh := hW w.heap.size _ 68 (by simp) (by decide) (by decide) hc
    exact st_bin w.heap.size x a W ((cellB hh 3).trans rfl) (hx.fence (Kp.below hB) (by omega) W hW)
  · have hh := hW w.heap.size _ 68 (by simp) (by decide) (by decide) hc
    exact en_bin w.heap.size y b W ((cellB hh 4).trans rfl) (hy.fence (Kp.below hB) (by omega) W hW)
end Go.Proofs.Ytfpfeeojnchkaaa
