/- Contracts of NewParser and wordOne: the batch of words. -/
import Derived.Test.YtibpdpabdhbkkaaProg
import Derived.WalkKit
import Derived.WalkLawsBesides
import Derived.WalkSpells
import Derived.Lib.Hide
import Derived.Below
import Derived.Laws.Rows
import Derived.Deep.Cut
namespace Go.Proofs.Ytibpdpabdhbkkaa
open Go.RowKit
set_option linter.unusedVariables false

abbrev PT (p : Nat) : Value := .pointer (some ⟨p, 0, none⟩)
theorem lt_of_heap {w : World} {b : Nat} {o : Obj} (h : w.heap[b]? = some o) : b < w.heap.size := by
  rcases Nat.lt_or_ge b w.heap.size with hlt | hge
  · exact hlt
  · rw [Array.getElem?_eq_none hge] at h; cases h
theorem cellB {w : World} {p : Nat} {cs : Array Value} {t : TypeId} (h : w.heap[p]? = some (.cells cs t (0, 0))) (i : Nat) : w.cell? ⟨p, i, none⟩ = cs[i]? := cell_of_row w p i cs t (0, 0) h
theorem frozenB {w : World} {p : Nat} {cs : Array Value} {t : TypeId} (h : w.heap[p]? = some (.cells cs t (0, 0))) (i : Nat) : w.frozen? ⟨p, i, none⟩ = false := by simp [World.frozen?, h]
theorem setB {w : World} {p : Nat} {cs : Array Value} {t : TypeId} (h : w.heap[p]? = some (.cells cs t (0, 0))) (i : Nat) (u : Value) : (w.setCell ⟨p, i, none⟩ u).heap[p]? = some (.cells (cs.setIfInBounds i u) t (0, 0)) := heap_setCell_same w p i cs t u h
theorem farB {w : World} {q p i : Nat} {u : Value} {o : Obj} (h : w.heap[q]? = some o) (hne : q ≠ p) : (w.setCell ⟨p, i, none⟩ u).heap[q]? = some o := (Below.heap_setCell w _ u q hne).trans h
theorem make32 (w : World) : (Instr.makeSlice 62 (.int .i64 32) (.int .i64 32)).run Try.prog w = .ok (.slice (some ⟨w.heap.size, 0, none⟩) 32 32) (w.alloc (.cells (madeCells #[.slice none 0 0, .nilIface] 64) 76)) := by kernel_rfl
theorem gen {P : Program} {c : Code} {Q : Exit → Act → World → Prop} {a : Act} {W : World} (S : World → Prop) (h : S W) (k : ∀ W, S W → c.wp P Q a W) : c.wp P Q a W := k W h
/-- the parser p, whose free words are those of block G from number J on -/
structure Bat (p G J : Nat) (w : World) : Prop where
  ne : p ≠ G
  le : J ≤ 32
  par : ∃ cs, w.heap[p]? = some (.cells cs 65 (0, 0)) ∧ ∃ A, cs[38]? = some (.slice A (32 - J) (32 - J)) ∧ (J < 32 → A = some ⟨G, 2 * J, none⟩)
  bat : J < 32 → ∃ cs, w.heap[G]? = some (.cells cs 76 (0, 0)) ∧ cs.size = 64
def OnePost (p G J L : Nat) (w : World) (e : Ending) (w' : World) : Prop := ∃ G' j, e = .returned (.pointer (some ⟨G', 2 * j, none⟩)) ∧ j < 32 ∧ ((G' = G ∧ j = J ∧ J < 32) ∨ (G' = w.heap.size ∧ j = 0 ∧ J = 32)) ∧ Bat p G' (j + 1) w' ∧
  w'.cell? ⟨G', 2 * j, none⟩ = some (.slice (some ⟨G', 2 * j + 1, none⟩) 1 1) ∧ w'.cell? ⟨G', 2 * j + 1, none⟩ = some (.iface 28 (PT L)) ∧
  (∀ b o v, w.cell? ⟨b, o, none⟩ = some v → b ≠ p → (b = G' → o < 2 * j) → w'.cell? ⟨b, o, none⟩ = some v) ∧ w.heap.size ≤ w'.heap.size ∧ (∀ b o, w.heap[b]? = some o → b ≠ p → b ≠ G' → w'.heap[b]? = some o) ∧ ∀ B, B ≤ p → B ≤ G' → Below B w w'
theorem one_end {p G j L : Nat} {w : World} {cs ds : Array Value} {A : Option Addr} (hne : p ≠ G) (hj : j < 32) (hp : w.heap[p]? = some (.cells cs 65 (0, 0))) (h38 : 38 < cs.size) (hg : w.heap[G]? = some (.cells ds 76 (0, 0))) (hd : ds.size = 64) (hA : j + 1 < 32 → A = some ⟨G, 2 * (j + 1), none⟩)
    (W : World) (hW : W = ((w.setCell ⟨p, 38, none⟩ (.slice A (32 - (j + 1)) (32 - (j + 1)))).setCell ⟨G, 2 * j, none⟩ (.slice (some ⟨G, 2 * j + 1, none⟩) 1 1)).setCell ⟨G, 2 * j + 1, none⟩ (.iface 28 (PT L))) :
    Bat p G (j + 1) W ∧ W.cell? ⟨G, 2 * j, none⟩ = some (.slice (some ⟨G, 2 * j + 1, none⟩) 1 1) ∧ W.cell? ⟨G, 2 * j + 1, none⟩ = some (.iface 28 (PT L)) ∧
    (∀ b o v, w.cell? ⟨b, o, none⟩ = some v → b ≠ p → (b = G → o < 2 * j) → W.cell? ⟨b, o, none⟩ = some v) ∧ w.heap.size ≤ W.heap.size ∧ (∀ b o, w.heap[b]? = some o → b ≠ p → b ≠ G → W.heap[b]? = some o) ∧ ∀ B, B ≤ p → B ≤ G → Below B w W := by
  subst hW
  have hp1 := setB hp 38 (.slice A (32 - (j + 1)) (32 - (j + 1)))
  have hp2 := farB (i := 2 * j) (u := .slice (some ⟨G, 2 * j + 1, none⟩) 1 1) hp1 hne
  have hp3 := farB (i := 2 * j + 1) (u := .iface 28 (PT L)) hp2 hne
  have hg1 := farB (i := 38) (u := .slice A (32 - (j + 1)) (32 - (j + 1))) hg (Ne.symm hne)
  have hg2 := setB hg1 (2 * j) (.slice (some ⟨G, 2 * j + 1, none⟩) 1 1)
  have hg3 := setB hg2 (2 * j + 1) (.iface 28 (PT L))
  refine ⟨⟨hne, by omega, ⟨_, hp3, A, by simp [h38], hA⟩, fun _ => ⟨_, hg3, by simp [hd]⟩⟩, ?_, ?_, fun b o v hv hb ho => ?_, by simp [World.setCell], fun b o hv hb ho => farB (farB (farB hv hb) ho) ho, fun B h1 h2 => (((Below.refl B w).setCell h1 _).setCell h2 _).setCell h2 _⟩
  · rw [cellB hg3, Array.getElem?_setIfInBounds_ne (by omega), Array.getElem?_setIfInBounds_self_of_lt (by omega)]
  · rw [cellB hg3, Array.getElem?_setIfInBounds_self_of_lt (by simp [hd]; omega)]
  · rw [World.cell?_setCell_other _ _ _ _ (fun e => by simp only [Addr.mk.injEq] at e; have := ho e.1.symm; omega), World.cell?_setCell_other _ _ _ _ (fun e => by simp only [Addr.mk.injEq] at e; have := ho e.1.symm; omega), World.cell?_setCell_other _ _ _ _ (fun e => by simp only [Addr.mk.injEq] at e; exact hb e.1.symm)]
    exact hv
set_option maxRecDepth 100000 in
theorem one_more (p G J L : Nat) (w : World) (h : Bat p G J w) (hJ : J < 31) : Calls Try.prog 11 #[PT p, .iface 28 (PT L)] w (OnePost p G J L w) := by
  obtain ⟨hne, hle, ⟨cs, hp, A, hA, hA2⟩, hb⟩ := h
  obtain rfl := hA2 (by omega)
  obtain ⟨ds, hg, hd⟩ := hb (by omega)
  obtain ⟨n, hn⟩ : ∃ n, 32 - J = n + 2 := ⟨30 - J, by omega⟩
  rw [hn] at hA
  have h38 : 38 < cs.size := by rcases Nat.lt_or_ge 38 cs.size with h | h; exact h; rw [Array.getElem?_eq_none h] at hA; cases hA
  have c38 : w.cell? ⟨p, 38, none⟩ = some (.slice (some ⟨G, 2 * J, none⟩) (n + 2) (n + 2)) := (cellB hp 38).trans hA
  have z38 := frozenB hp 38
  obtain ⟨u0, c0⟩ : ∃ u, w.cell? ⟨G, 2 * J, none⟩ = some u := ⟨_, (cellB hg _).trans (Array.getElem?_eq_getElem (show 2 * J < ds.size by omega))⟩
  obtain ⟨u1, c1⟩ : ∃ u, w.cell? ⟨G, 2 * J + 1, none⟩ = some u := ⟨_, (cellB hg _).trans (Array.getElem?_eq_getElem (show 2 * J + 1 < ds.size by omega))⟩
  have z0 := frozenB hg (2 * J)
  have z1 := frozenB hg (2 * J + 1)
  have j1 : (0 : Int) < (n : Int) + 2 := by omega
  have j2 : (1 : Int) ≤ (n : Int) + 2 := by omega
  have E := Lib.hid (fun W hW => one_end (L := L) (A := some ⟨G, 2 * J + 2, none⟩) hne (show J < 32 by omega) hp h38 hg hd (fun _ => rfl) W hW)
  rw [show 32 - (J + 1) = n + 1 by omega] at E
  clear hp hg hn hd hA hA2 hb h38 hle
  go_enter Try.func11, Try.ntmps11
  go_wp2
  go_ret
  have e := E.out _ rfl
  exact ⟨G, J, rfl, by omega, .inl ⟨rfl, rfl, by omega⟩, e⟩
set_option maxRecDepth 100000 in
theorem one_last (p G L : Nat) (w : World) (h : Bat p G 31 w) : Calls Try.prog 11 #[PT p, .iface 28 (PT L)] w (OnePost p G 31 L w) := by
  obtain ⟨hne, hle, ⟨cs, hp, A, hA, hA2⟩, hb⟩ := h
  obtain rfl := hA2 (by omega)
  obtain ⟨ds, hg, hd⟩ := hb (by omega)
  have h38 : 38 < cs.size := by rcases Nat.lt_or_ge 38 cs.size with h | h; exact h; rw [Array.getElem?_eq_none h] at hA; cases hA
  have c38 : w.cell? ⟨p, 38, none⟩ = some (.slice (some ⟨G, 62, none⟩) 1 1) := (cellB hp 38).trans hA
  have z38 := frozenB hp 38
  obtain ⟨u0, c0⟩ : ∃ u, w.cell? ⟨G, 62, none⟩ = some u := ⟨_, (cellB hg _).trans (Array.getElem?_eq_getElem (show 62 < ds.size by omega))⟩
  obtain ⟨u1, c1⟩ : ∃ u, w.cell? ⟨G, 63, none⟩ = some u := ⟨_, (cellB hg _).trans (Array.getElem?_eq_getElem (show 63 < ds.size by omega))⟩
  have z0 := frozenB hg 62
  have z1 := frozenB hg 63
  have E := Lib.hid (fun W hW => one_end (L := L) (j := 31) (A := some ⟨G, 62, none⟩) hne (by omega) hp h38 hg hd (fun h => absurd h (by omega)) W hW)
  clear hp hg hd hA hA2 hb h38 hle
  go_enter Try.func11, Try.ntmps11
  go_wp2
  go_ret
  have e := E.out _ rfl
  exact ⟨G, 31, rfl, by omega, .inl ⟨rfl, rfl, by omega⟩, e⟩
set_option maxRecDepth 100000 in
theorem one_new (p G L : Nat) (w : World) (h : Bat p G 32 w) : Calls Try.prog 11 #[PT p, .iface 28 (PT L)] w (OnePost p G 32 L w) := by
  obtain ⟨hne, hle, ⟨cs, hp, A, hA, hA2⟩, hb⟩ := h
  have h38 : 38 < cs.size := by rcases Nat.lt_or_ge 38 cs.size with h | h; exact h; rw [Array.getElem?_eq_none h] at hA; cases hA
  have c38 : w.cell? ⟨p, 38, none⟩ = some (.slice A 0 0) := (cellB hp 38).trans hA
  have z38 := frozenB hp 38
  have hpl := lt_of_heap hp
  have hne2 : p ≠ w.heap.size := by omega
  have hmk := make32
  have GG := Lib.hid (show ∀ W, W = (w.setCell ⟨p, 38, none⟩ (.slice (some ⟨w.heap.size, 0, none⟩) 32 32)).alloc (.cells (madeCells #[.slice none 0 0, .nilIface] 64) 76) → (∃ cs', W.heap[p]? = some (.cells cs' 65 (0, 0)) ∧ 38 < cs'.size ∧ cs'[38]? = some (.slice (some ⟨w.heap.size, 0, none⟩) 32 32)) ∧ (∃ ds, W.heap[w.heap.size]? = some (.cells ds 76 (0, 0)) ∧ ds.size = 64) ∧ (∀ b o v, w.cell? ⟨b, o, none⟩ = some v → b ≠ p → W.cell? ⟨b, o, none⟩ = some v) ∧ w.heap.size ≤ W.heap.size ∧ (∀ b o, w.heap[b]? = some o → b ≠ p → W.heap[b]? = some o) ∧ ∀ B, B ≤ p → Below B w W from fun W hW => by
    subst hW
    refine ⟨⟨_, (Below.heap_alloc _ _ p (by simpa [World.setCell] using hpl)).trans (setB hp 38 _), by simpa using h38, by simp [h38]⟩, ⟨_, by simpa [World.setCell] using heap_alloc_new (w.setCell ⟨p, 38, none⟩ (.slice (some ⟨w.heap.size, 0, none⟩) 32 32)) _, by simp [madeCells]⟩, fun b o v hv hb => ?_, by simp [World.setCell], fun b o hv hb => (Below.heap_alloc _ _ b (by simpa [World.setCell] using lt_of_heap hv)).trans (farB hv hb), fun B h1 => ((Below.refl B w).setCell h1 _).alloc (by simp [World.setCell]; omega) _⟩
    have hlt := World.block_lt_of_cell? w _ hv
    rw [World.cell?_alloc_lt _ _ _ (by simpa [World.setCell] using hlt), World.cell?_setCell_other _ _ _ _ (fun e => by simp only [Addr.mk.injEq] at e; exact hb e.1.symm)]
    exact hv)
  clear hp hA hA2 hb h38 hle
  go_enter Try.func11, Try.ntmps11
  go_upto_region 3 with (fail)
  refine gen (fun W => (∃ cs', W.heap[p]? = some (.cells cs' 65 (0, 0)) ∧ 38 < cs'.size ∧ cs'[38]? = some (.slice (some ⟨w.heap.size, 0, none⟩) 32 32)) ∧ (∃ ds, W.heap[w.heap.size]? = some (.cells ds 76 (0, 0)) ∧ ds.size = 64) ∧ (∀ b o v, w.cell? ⟨b, o, none⟩ = some v → b ≠ p → W.cell? ⟨b, o, none⟩ = some v) ∧ w.heap.size ≤ W.heap.size ∧ (∀ b o, w.heap[b]? = some o → b ≠ p → W.heap[b]? = some o) ∧ ∀ B, B ≤ p → Below B w W) (GG.out _ rfl) ?_
  clear GG hmk c38 z38
  rintro W ⟨⟨cs', hp, h38, hA⟩, ⟨ds, hg, hd⟩, hold, hsz, hold2, hbel⟩
  have c38 : W.cell? ⟨p, 38, none⟩ = some (.slice (some ⟨w.heap.size, 0, none⟩) 32 32) := (cellB hp 38).trans hA
  have z38 := frozenB hp 38
  obtain ⟨u0, c0⟩ : ∃ u, W.cell? ⟨w.heap.size, 0, none⟩ = some u := ⟨_, (cellB hg _).trans (Array.getElem?_eq_getElem (show 0 < ds.size by omega))⟩
  obtain ⟨u1, c1⟩ : ∃ u, W.cell? ⟨w.heap.size, 1, none⟩ = some u := ⟨_, (cellB hg _).trans (Array.getElem?_eq_getElem (show 1 < ds.size by omega))⟩
  have z0 := frozenB hg 0
  have z1 := frozenB hg 1
  have E := Lib.hid (fun V hV => one_end (L := L) (j := 0) (A := some ⟨w.heap.size, 2, none⟩) hne2 (by omega) hp h38 hg hd (fun _ => rfl) V hV)
  have HO := Lib.hid hold
  have HZ := Lib.hid hsz
  have HO2 := Lib.hid hold2
  have HB := Lib.hid hbel
  have hpl2 := Lib.hid hpl
  clear hp hg hd hA h38 hold hsz hold2 hbel hpl
  go_wp2
  go_ret
  obtain ⟨e1, e2, e3, e4, e5, e6, e7⟩ := E.out _ rfl
  exact ⟨w.heap.size, 0, rfl, by omega, .inr ⟨rfl, rfl, rfl⟩, e1, e2, e3, fun b o v hv hb ho => e4 b o v (HO.out b o v hv hb) hb ho, Nat.le_trans HZ.out e5, fun b o hv h1 h2 => e6 b o (HO2.out b o hv h1) h1 h2, fun B h1 h2 => (HB.out B h1).trans (e7 B h1 h2)⟩
theorem one (p G J L : Nat) (w : World) (h : Bat p G J w) : Calls Try.prog 7 #[PT p, PT L] w (OnePost p G J L w) := by
  have H : Calls Try.prog 11 #[PT p, .iface 28 (PT L)] w (OnePost p G J L w) := by
    rcases (show J < 31 ∨ J = 31 ∨ J = 32 by have := h.le; omega) with hj | rfl | rfl
    · exact one_more p G J L w h hj
    · exact one_last p G L w h
    · exact one_new p G L w h
  have HH := Lib.hid H
  clear H h
  go_enter Try.func7, Try.ntmps7
  go_wp2_with (go_at_call 11; refine HH.out.mono ?_; rintro e w' ⟨G', j, rfl, h1⟩)
  go_ret
  exact ⟨G', j, rfl, h1⟩
theorem wpList_build_some {P : Program} {ops : Array Oper} {rest : List Oper} {o : Oper} {a : Act} {w : World} {Q : Exit → Act → World → Prop} (hg : o.guard = none) (t : TypeId) (parts : Array (Nat × Operand)) (ho : o.op = .build t parts)
    (l : List (Nat × Value)) (cells : Array Value) (hf : P.built t l = some cells) (hl : (parts.map fun (i, x) => (i, a.eval x)).toList = l)
    (h : wpList P ops Q rest (a.put o.dst (.agg cells)) w) : wpList P ops Q (o :: rest) a w :=
  wpList_build hg t parts ho (by rw [hl, hf]; rfl) (by rw [hl, hf]; exact h)
theorem builtP : ∃ cs : Array Value, Try.prog.built 65 [(19, .int .i64 1)] = some cs ∧ cs[38]? = some (.slice none 0 0) := ⟨(Try.prog.built 65 [(19, .int .i64 1)]).getD #[], by kernel_rfl, by kernel_rfl⟩
set_option maxRecDepth 100000 in
theorem newP (w : World) : Calls Try.prog 6 #[.slice none 0 0] w fun e w' => e = .returned (PT w.heap.size) ∧ Bat w.heap.size (w.heap.size + 1) 32 w' ∧ Below w.heap.size w w' := by
  obtain ⟨cs, hb, h38⟩ := builtP
  have HB := Lib.hid hb
  have H38 := Lib.hid h38
  clear hb h38
  go_enter Try.func6, Try.ntmps6
  go_wp2_with (refine wpList_build_some rfl 65 _ rfl _ cs HB.out ?hl ?_; focus (go_simp; done))
  refine wp_loop_rounds 1 ?_
  rw [rounds_succ]
  go_wp2
  go_ret
  exact ⟨rfl, ⟨by omega, Nat.le_refl _, ⟨cs, heap_alloc_new w _, none, H38.out, fun h => absurd h (by omega)⟩, fun h => absurd h (by omega)⟩, (Below.refl _ _).alloc (Nat.le_refl _) _⟩
theorem call_x (p : Value) (a : Addr) (w : World) : Calls Try.prog 10 #[p, .pointer (some a)] w fun e w' => e = .returned (PT w.heap.size) ∧ w.alloc (.cells #[.slice none 0 0, .slice (some ⟨w.heap.size, 2, none⟩) 1 4, .pointer (some a), .pointer none, .pointer none, .pointer none] 78) = w' := by
  go_enter Try.func10, Try.ntmps10
  go_wp2
  go_ret
  exact ⟨rfl, rfl⟩
theorem ta28 (v : Value) (w : World) : (Instr.typeAssert (.iface 28 v) 71 28 true).run Try.prog w = .ok (.tuple #[v, .bool true]) w := by kernel_rfl
theorem partLit (g o L : Nat) (w : World) (h0 : w.cell? ⟨g, o, none⟩ = some (.slice (some ⟨g, o + 1, none⟩) 1 1)) (h1 : w.cell? ⟨g, o + 1, none⟩ = some (.iface 28 (PT L))) : Calls Try.prog 8 #[.pointer (some ⟨g, o, none⟩), .int .i64 0] w fun e w' => e = .returned (PT L) ∧ w = w' := by
  have t1 := ta28
  have z3 : (0 : Int) < 1 := by decide
  have z4 : (0 : Int) ≤ 0 := by decide
  go_enter Try.func8, Try.ntmps8
  go_wp2
  go_ret
  exact ⟨rfl, rfl⟩
end Go.Proofs.Ytibpdpabdhbkkaa
