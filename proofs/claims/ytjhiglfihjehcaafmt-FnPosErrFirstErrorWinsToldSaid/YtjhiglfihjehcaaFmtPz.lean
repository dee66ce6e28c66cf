/- The parser's state, errPass, Incomplete, and fmt.Sprintf at its stop. -/
import Derived.Test.YtjhiglfihjehcaaFmtProg
import Derived.WalkKit
import Derived.WalkLawsBesides
import Derived.WalkSpells
import Derived.Lib.Hide
import Derived.Below
import Derived.Laws.Rows
import Derived.Deep.Cut
import Derived.Stop.CallBack
import Derived.Stop.IfaceNil
import Derived.Stop.AnyFormat
import GoSem.ClaimData
import Derived.Deep.QuietTactic
import Derived.BigQuiet
import Derived.Deep.RegionHeld3
namespace Go.Proofs.YtjhiglfihjehcaaFmt
open Go.RowKit Go.Extern.Stop Go.Stop Go.Extern
set_option linter.unusedVariables false
theorem lt_of_heap {w : World} {b : Nat} {o : Obj} (h : w.heap[b]? = some o) : b < w.heap.size := by
  rcases Nat.lt_or_ge b w.heap.size with hlt | hge
  · exact hlt
  · rw [Array.getElem?_eq_none hge] at h; cases h
theorem cellB {w : World} {p : Nat} {cs : Array Value} {t : TypeId} (h : w.heap[p]? = some (.cells cs t (0, 0))) (i : Nat) : w.cell? ⟨p, i, none⟩ = cs[i]? := cell_of_row w p i cs t (0, 0) h
theorem frozenB {w : World} {p : Nat} {cs : Array Value} {t : TypeId} (h : w.heap[p]? = some (.cells cs t (0, 0))) (i : Nat) : w.frozen? ⟨p, i, none⟩ = false := by simp [World.frozen?, h]
theorem setB {w : World} {p : Nat} {cs : Array Value} {t : TypeId} (h : w.heap[p]? = some (.cells cs t (0, 0))) (i : Nat) (u : Value) : (w.setCell ⟨p, i, none⟩ u).heap[p]? = some (.cells (cs.setIfInBounds i u) t (0, 0)) := heap_setCell_same w p i cs t u h
theorem farB {w : World} {q p i : Nat} {u : Value} {o : Obj} (h : w.heap[q]? = some o) (hne : q ≠ p) : (w.setCell ⟨p, i, none⟩ u).heap[q]? = some o := (Below.heap_setCell w _ u q hne).trans h
/-- the parser p: its file f, its token, its open nodes, literal, chunk, error, and the lexer's three numbers -/
structure Pz (p f : Nat) (name : ByteArray) (tok on : Int) (lit : Value) (ba : Option Addr) (bl bc : Nat) (er bsp r ww : Value) (w : World) : Prop where
  blk : ∃ cs, w.heap[p]? = some (.cells cs 64 (0, 0)) ∧ cs[1]? = some (.slice ba bl bc) ∧ cs[2]? = some bsp ∧ cs[3]? = some r ∧ cs[4]? = some ww ∧ cs[5]? = some (.pointer (some ⟨f, 0, none⟩)) ∧ cs[7]? = some er ∧ cs[10]? = some (.int .u32 tok) ∧ cs[29]? = some (.int .i64 on) ∧ cs[2087]? = some lit
  ne : f ≠ p
  nm : w.cell? ⟨f, 0, none⟩ = some (.string name)
theorem cell_kept {w w' : World} {b i : Nat} {v : Value} (h : w.cell? ⟨b, i, none⟩ = some v) (k : w'.heap[b]? = w.heap[b]?) : w'.cell? ⟨b, i, none⟩ = some v := by rw [← h]; simp only [World.cell?, k]
theorem lt_of_cell {w : World} {b i : Nat} {v : Value} (h : w.cell? ⟨b, i, none⟩ = some v) : b < w.heap.size := World.block_lt_of_cell? w _ h
theorem Pz.plt {p f : Nat} {name : ByteArray} {tok on : Int} {lit : Value} {ba : Option Addr} {bl bc : Nat} {er bsp r ww : Value} {w : World} (h : Pz p f name tok on lit ba bl bc er bsp r ww w) : p < w.heap.size := by
  obtain ⟨⟨cs, h1, _⟩, _, _⟩ := h; exact lt_of_heap h1
theorem Pz.later {p f : Nat} {name : ByteArray} {tok on : Int} {lit : Value} {ba : Option Addr} {bl bc : Nat} {er bsp r ww : Value} {w W : World} (h : Pz p f name tok on lit ba bl bc er bsp r ww w) (hb : Below w.heap.size w W) : Pz p f name tok on lit ba bl bc er bsp r ww W := by
  obtain ⟨⟨cs, h1, h2⟩, h3, h4⟩ := h
  exact ⟨⟨cs, (hb.block p (lt_of_heap h1)).trans h1, h2⟩, h3, cell_kept h4 (hb.block f (lt_of_cell h4))⟩
theorem lt_of_get {cs : Array Value} {i : Nat} {v : Value} (h : cs[i]? = some v) : i < cs.size := (Array.getElem?_eq_some_iff.1 h).1
theorem gne {cs : Array Value} {i j : Nat} {u v : Value} (h : cs[j]? = some v) (hn : i ≠ j) : (cs.setIfInBounds i u)[j]? = some v := by rw [Array.getElem?_setIfInBounds_ne hn]; exact h
theorem geq {cs : Array Value} {i : Nat} {u v : Value} (h : cs[i]? = some v) : (cs.setIfInBounds i u)[i]? = some u := Array.getElem?_setIfInBounds_self_of_lt (lt_of_get h)
/-- errPass, the first time -/
theorem err_first (p f : Nat) (name : ByteArray) (tok on : Int) (lit : Value) (ba : Option Addr) (bl bc : Nat) (bsp r ww : Value) (t : TypeId) (v : Value) (w : World) (hbl : bl ≤ 1048576) (h : Pz p f name tok on lit ba bl bc .nilIface bsp r ww w) :
    Calls Tryf.prog 32 #[.pointer (some ⟨p, 0, none⟩), .iface t v] w fun e w' => (∃ u, e = .returned u) ∧ Pz p f name 1 on lit ba bl bc (.iface t v) (.int .u64 (bl + 1)) (.int .i32 1114112) (.int .i64 1) w' ∧ (∀ q, q ≠ p → w'.heap[q]? = w.heap[q]?) ∧ ∀ B, B ≤ p → Below B w w' := by
  have P0 := h
  obtain ⟨⟨cs, hp, a1, a2, a3, a4, a5, a7, a10, a29, al⟩, hne, hnm⟩ := h
  have l1 := lt_of_get al
  have c1 := (cellB hp 1).trans a1
  have c2 := (cellB hp 2).trans a2
  have c3 := (cellB hp 3).trans a3
  have c4 := (cellB hp 4).trans a4
  have c7 := (cellB hp 7).trans a7
  have c10 := (cellB hp 10).trans a10
  have z2 := frozenB hp 2
  have z3 := frozenB hp 3
  have z4 := frozenB hp 4
  have z7 := frozenB hp 7
  have z10 := frozenB hp 10
  have E := Lib.hid (show ∀ W, W = ((((w.setCell ⟨p, 7, none⟩ (.iface t v)).setCell ⟨p, 2, none⟩ (.int .u64 (bl + 1))).setCell ⟨p, 3, none⟩ (.int .i32 1114112)).setCell ⟨p, 4, none⟩ (.int .i64 1)).setCell ⟨p, 10, none⟩ (.int .u32 1) → Pz p f name 1 on lit ba bl bc (.iface t v) (.int .u64 (bl + 1)) (.int .i32 1114112) (.int .i64 1) W ∧ (∀ q, q ≠ p → W.heap[q]? = w.heap[q]?) ∧ ∀ B, B ≤ p → Below B w W from fun W hW => by
    subst hW
    have s1 := setB hp 7 (.iface t v)
    have s2 := setB s1 2 (.int .u64 (bl + 1))
    have s3 := setB s2 3 (.int .i32 1114112)
    have s4 := setB s3 4 (.int .i64 1)
    have s5 := setB s4 10 (.int .u32 1)
    exact ⟨⟨⟨_, s5, (gne (gne (gne (gne (gne a1 (by decide)) (by decide)) (by decide)) (by decide)) (by decide)), (gne (gne (gne (geq (gne a2 (by decide))) (by decide)) (by decide)) (by decide)), (gne (gne (geq (gne (gne a3 (by decide)) (by decide))) (by decide)) (by decide)), (gne (geq (gne (gne (gne a4 (by decide)) (by decide)) (by decide))) (by decide)), (gne (gne (gne (gne (gne a5 (by decide)) (by decide)) (by decide)) (by decide)) (by decide)), (gne (gne (gne (gne (geq a7) (by decide)) (by decide)) (by decide)) (by decide)), (geq (gne (gne (gne (gne a10 (by decide)) (by decide)) (by decide)) (by decide))), (gne (gne (gne (gne (gne a29 (by decide)) (by decide)) (by decide)) (by decide)) (by decide)), (gne (gne (gne (gne (gne al (by decide)) (by decide)) (by decide)) (by decide)) (by decide))⟩, hne, cell_kept hnm ((Below.heap_setCell _ _ _ f hne).trans ((Below.heap_setCell _ _ _ f hne).trans ((Below.heap_setCell _ _ _ f hne).trans ((Below.heap_setCell _ _ _ f hne).trans (Below.heap_setCell _ _ _ f hne)))))⟩, fun q hq => (Below.heap_setCell _ _ _ q hq).trans ((Below.heap_setCell _ _ _ q hq).trans ((Below.heap_setCell _ _ _ q hq).trans ((Below.heap_setCell _ _ _ q hq).trans (Below.heap_setCell _ _ _ q hq)))), fun B hB => (((((Below.refl B w).setCell hB _).setCell hB _).setCell hB _).setCell hB _).setCell hB _⟩)
  clear hp a1 a2 a3 a4 a5 a7 a10 a29 al l1 P0 hnm
  go_enter Tryf.func32, Tryf.ntmps32
  go_wp2
  go_end0
  have e := E.out _ rfl
  exact ⟨⟨_, rfl⟩, e⟩
/-- errPass, once an error stands -/
theorem err_again (p : Nat) (t0 : TypeId) (v0 : Value) (x : Value) (w : World) (h : w.cell? ⟨p, 7, none⟩ = some (.iface t0 v0)) :
    Calls Tryf.prog 32 #[.pointer (some ⟨p, 0, none⟩), x] w fun e w' => (∃ u, e = .returned u) ∧ w = w' := by
  go_enter Tryf.func32, Tryf.ntmps32
  go_wp2
  go_end0
  exact ⟨⟨_, rfl⟩, rfl⟩
def incB (on : Int) (ll : Nat) : Bool := decide (0 < on) || decide (0 < ll)
theorem incomplete (p : Nat) (on : Int) (la : Option Addr) (ll lc : Nat) (w : World) (h1 : w.cell? ⟨p, 29, none⟩ = some (.int .i64 on)) (h2 : w.cell? ⟨p, 2087, none⟩ = some (.slice la ll lc)) :
    Calls Tryf.prog 34 #[.pointer (some ⟨p, 0, none⟩)] w fun e w' => e = .returned (.bool (incB on ll)) ∧ w = w' := by
  have EE := Lib.hid (show incB on ll = (decide (0 < on) || decide (0 < ll)) from rfl)
  by_cases h3 : 0 < on
  · have d1 : decide (0 < on) = true := by simpa using h3
    go_enter Tryf.func34, Tryf.ntmps34
    go_wp2
    go_ret
    exact ⟨by rw [EE.out, d1]; rfl, rfl⟩
  · have d1 : decide (0 < on) = false := by simpa using h3
    by_cases h4 : 0 < ll
    · have d2 : decide ((0 : Int) < (ll : Int)) = true := by simp; omega
      go_enter Tryf.func34, Tryf.ntmps34
      go_wp2
      go_ret
      exact ⟨by rw [EE.out, d1, decide_eq_true h4]; rfl, rfl⟩
    · have d2 : decide ((0 : Int) < (ll : Int)) = false := by simp; omega
      go_enter Tryf.func34, Tryf.ntmps34
      go_wp2
      go_ret
      exact ⟨by rw [EE.out, d1, decide_eq_false h4]; rfl, rfl⟩
theorem call33 (args : Array Value) (w : World) : (callFunc 33 args).run Tryf.prog w = (FmtCalls.sprintf #[9, 70] #[9] args).run Tryf.prog w :=
  run_callFunc_next Tryf.func33 (by kernel_rfl) (by kernel_rfl) (by kernel_rfl) args w
theorem fguard (name : String) (w : World) : (FmtStop.guard name).run Tryf.prog w = .ok () w := by kernel_rfl
theorem nextTurns : Extern.next FmtCalls.turnsRow = some (FmtCalls.begun #[] #[]) := by kernel_rfl
/-- at every world of that tape in which the old cells stand, Sprintf gives the text t -/
def SprOK (fm : ByteArray) (A : Value) (t : ByteArray) (w : World) : Prop := ∀ W : World, W.tape = w.tape → (∀ b i v, w.cell? ⟨b, i, none⟩ = some v → W.cell? ⟨b, i, none⟩ = some v) → ∀ (o : Oper) (a : Act) (next : Act → World → Prop) (Q : Exit → Act → World → Prop), next (a.put o.dst (.string t)) W.drew → o.upon Tryf.prog a next Q ((callFunc 33 #[.string fm, A]).run Tryf.prog W)
theorem spr_nil (F : Interp) (fm : ByteArray) (w : World) (hF : F.answers w.tape) : SprOK fm (.slice none 0 0) (FmtStop.textOf (F "fmt.Sprintf" [fm.data.toList] 0)) w := by
  intro W hT hC o a next Q hn
  have hF' := answers_open (show F.answers W.tape from by rw [hT]; exact hF)
  rw [call33]
  have hcnt : (FmtDoors.count (.slice none 0 0)).run Tryf.prog W = .ok 0 W := by kernel_rfl
  have hg := fguard
  cases hp : FmtStop.printed? fm 0 with
  | none =>
    rw [FmtCalls.sprintf_lit]
    simp only [Sem.run_bind, hg, hcnt, Result.andThen, hp, FmtStop.cells, Sem.run_pure]
    go_simp
    exact hn
  | some ps =>
    have hnil : ps = [] := by
      cases ps with
      | nil => rfl
      | cons x l => exact absurd (FmtStop.printed_lt fm 0 _ hp x List.mem_cons_self) (by omega)
    subst hnil
    rw [FmtCalls.sprintf_lit]
    simp only [Sem.run_bind, hg, hcnt, Result.andThen, hp, Sem.run_pure]
    rw [Oper.upon_row]
    refine rows_value nextTurns (v := .string (FmtStop.textOf (F "fmt.Sprintf" [fm.data.toList] 0))) (w' := W.drew) ?_ hn
    go_simp
abbrev fmtQ : ByteArray := ⟨#[37, 35, 113, 32, 109, 117, 115, 116, 32, 98, 101, 32, 102, 111, 108, 108, 111, 119, 101, 100, 32, 98, 121, 32, 37, 35, 113]⟩
theorem fmtQ2 : FmtStop.printed? fmtQ 2 = some [(0, 113, true), (1, 113, true)] := by kernel_rfl
def shape9 : List UInt8 := [12, 6, 0, 0, 0, 0, 0, 0, 0, 115, 116, 114, 105, 110, 103]
theorem act9 (name : String) (x : Value) (w : World) : (FmtCalls.act name false 113 true (.iface 9 x)).run Tryf.prog w = .ok (.closed false) w := by kernel_rfl
theorem op9 (name : String) (x : ByteArray) (w : World) : (FmtStop.operand name false 113 true (.iface 9 (.string x))).run Tryf.prog w = .ok (shape9, FmtStop.pack x.data.toList) w := by kernel_rfl
theorem spr_two (F : Interp) (b : Nat) (l r : ByteArray) (w : World) (hF : F.answers w.tape) (h0 : w.cell? ⟨b, 0, none⟩ = some (.iface 9 (.string l))) (h1 : w.cell? ⟨b, 1, none⟩ = some (.iface 9 (.string r))) :
    SprOK fmtQ (.slice (some ⟨b, 0, none⟩) 2 2) (FmtStop.textOf (F "fmt.Sprintf" [fmtQ.data.toList, shape9, FmtStop.pack l.data.toList, shape9, FmtStop.pack r.data.toList] 0)) w := by
  intro W hT hC o a next Q hn
  have hF' := answers_open (show F.answers W.tape from by rw [hT]; exact hF)
  have k0 := hC _ _ _ h0
  have k1 := hC _ _ _ h1
  rw [call33, FmtCalls.sprintf_lit]
  have hcnt : (FmtDoors.count (.slice (some ⟨b, 0, none⟩) 2 2)).run Tryf.prog W = .ok 2 W := by kernel_rfl
  have hg := fguard
  have hp := fmtQ2
  have ha := act9
  have ho := op9
  simp only [Sem.run_bind, hg, hcnt, Result.andThen, hp, Sem.run_pure]
  rw [Oper.upon_row]
  refine rows_value nextTurns (v := .string (FmtStop.textOf (F "fmt.Sprintf" [fmtQ.data.toList, shape9, FmtStop.pack l.data.toList, shape9, FmtStop.pack r.data.toList] 0))) (w' := W.drew) ?_ hn
  go_simp
end Go.Proofs.YtjhiglfihjehcaaFmt
