/- The walk of the law FnCoprocTimeLetNesting: it returns true at every input. -/
import Derived.Test.YtjpodhmjmohblaaKit2
import Derived.Deep.AppendLies
import Derived.Deep.RegionLaw
import Derived.Deep.DrawnRows
namespace Go.Proofs.Ytjpodhmjmohblaa
open Go.RowKit
set_option linter.unusedVariables false
attribute [local go_sem ↓] Go.wp_at_zero Go.wp_at_succ

theorem reach53 (o l : Int) (w : World) : Calls Try.prog 42 #[.int .u32 o, .int .u32 l] w fun e w' => e = .returned (.bool (reachB o l)) ∧ w = w' := by
  have E1 := Lib.hid (show reachB o l = (decide (o ≤ 4294967284) || (o == 4294967285 && l == 0)) from rfl)
  by_cases a : o ≤ 4294967284
  · go_enter Try.func42, Try.ntmps42
    go_wp2
    go_ret
    exact ⟨ret_bool (by rw [E1.out]; simp [a]), rfl⟩
  · cases b : (o == 4294967285)
    · go_enter Try.func42, Try.ntmps42
      go_wp2
      go_ret
      exact ⟨ret_bool (by rw [E1.out]; simp [b]; omega), rfl⟩
    · go_enter Try.func42, Try.ntmps42
      go_wp2
      go_ret
      exact ⟨ret_bool (by rw [E1.out]; simp [b]; omega), rfl⟩

theorem mk53 (o l : Int) (w : World) : Calls Try.prog 43 #[.int .u32 o, .int .u32 l] w fun e w' => e = .returned (P2 o l) ∧ w.alloc (C2 o l) = w' := by
  go_enter Try.func43, Try.ntmps43
  go_wp2
  exact bodyPost_ret (v := P2 o l) (by simp [results, Try.results43, go_sem]) rfl ⟨rfl, rfl⟩

theorem letPos (b : Nat) (o l : Int) (w : World) (h0 : w.cell? ⟨b, 0, none⟩ = some (.int .u32 o)) (h1 : w.cell? ⟨b, 1, none⟩ = some (.int .u32 l)) :
    Calls Try.prog 47 #[.pointer (some ⟨b, 0, none⟩)] w fun e w' => e = .returned (P2 o l) ∧ w.alloc (C2 o l) = w' := by
  have g0 := later h0
  have g1 := later h1
  go_enter Try.func47, Try.ntmps47
  go_wp2
  exact bodyPost_ret (v := P2 o l) (by simp [results, Try.results47, go_sem]) rfl ⟨rfl, rfl⟩

theorem copPos (b : Nat) (o l : Int) (w : World) (h0 : w.cell? ⟨b, 0, none⟩ = some (.int .u32 o)) (h1 : w.cell? ⟨b, 1, none⟩ = some (.int .u32 l)) :
    Calls Try.prog 48 #[.pointer (some ⟨b, 0, none⟩)] w fun e w' => e = .returned (P2 o l) ∧ w.alloc (C2 o l) = w' := by
  have g0 := later h0
  have g1 := later h1
  go_enter Try.func48, Try.ntmps48
  go_wp2
  exact bodyPost_ret (v := P2 o l) (by simp [results, Try.results48, go_sem]) rfl ⟨rfl, rfl⟩

theorem mk53_any (o l : Int) (w : World) : Calls Try.prog 43 #[.int .u32 o, .int .u32 l] w fun e w' => e = .returned (P2 o l) ∧ Below w.heap.size w w' :=
  (mk53 o l w).mono fun _ _ k => ⟨k.1, k.2 ▸ balloc (Below.refl _ _) _⟩
theorem letPos_any (b : Nat) (o l : Int) (w : World) (h0 : w.cell? ⟨b, 0, none⟩ = some (.int .u32 o)) (h1 : w.cell? ⟨b, 1, none⟩ = some (.int .u32 l)) :
    Calls Try.prog 47 #[.pointer (some ⟨b, 0, none⟩)] w fun e w' => e = .returned (P2 o l) ∧ Below w.heap.size w w' :=
  (letPos b o l w h0 h1).mono fun _ _ k => ⟨k.1, k.2 ▸ balloc (Below.refl _ _) _⟩
theorem copPos_any (b : Nat) (o l : Int) (w : World) (h0 : w.cell? ⟨b, 0, none⟩ = some (.int .u32 o)) (h1 : w.cell? ⟨b, 1, none⟩ = some (.int .u32 l)) :
    Calls Try.prog 48 #[.pointer (some ⟨b, 0, none⟩)] w fun e w' => e = .returned (P2 o l) ∧ Below w.heap.size w w' :=
  (copPos b o l w h0 h1).mono fun _ _ k => ⟨k.1, k.2 ▸ balloc (Below.refl _ _) _⟩
theorem newLet_x (o l : Int) (w : World) : Calls Try.prog 44 #[P2 o l] w fun e w' => e = .returned (.pointer (some ⟨w.heap.size + 1, 0, none⟩)) ∧
    (w.alloc (C2 o l)).alloc (.cells #[.int .u32 o, .int .u32 l, .slice none 0 0] 130) = w' := by
  go_enter Try.func44, Try.ntmps44
  go_wp2
  go_ret
  exact ⟨rfl, rfl⟩
theorem newStmt_x (o l : Int) (p : Option Addr) (w : World) : Calls Try.prog 46 #[P2 o l, .pointer p] w fun e w' => e = .returned (.pointer (some ⟨w.heap.size + 1, 0, none⟩)) ∧
    (w.alloc (C2 o l)).alloc (.cells #[.slice none 0 0, .iface 66 (.pointer p), .int .u32 o, .int .u32 l, .int .u32 0, .int .u32 0, .bool false, .bool false, .bool false, .bool false, .slice none 0 0] 135) = w' := by
  go_enter Try.func46, Try.ntmps46
  go_wp2
  go_ret
  exact ⟨rfl, rfl⟩
theorem setl2 {w W : World} {b k : Nat} {x y v : Value} (hlt : b < w.heap.size) (h : W.cell? ⟨b, k, none⟩ = some v) : ((W.setCell ⟨w.heap.size, 0, none⟩ x).setCell ⟨w.heap.size, 1, none⟩ y).cell? ⟨b, k, none⟩ = some v := by
  rw [World.cell?_setCell_other _ _ _ _ (fun e => by simp only [Addr.mk.injEq] at e; omega), World.cell?_setCell_other _ _ _ _ (fun e => by simp only [Addr.mk.injEq] at e; omega)]
  exact h
theorem nil_let (a : Addr) (w : World) : (nilAhead 285 66 (.pointer (some a)) "End").run Try.prog w = .ok (some false) w := by kernel_rfl
theorem meth_let (a : Addr) (w : World) : (method 285 66 (.pointer (some a)) "End").run Try.prog w = .ok (109, .pointer (some a)) w := by kernel_rfl

/-- LetClause.End of a clause with one word -/
theorem letEnd (b s c q : Nat) (o l : Int) (w : World) (h : w.cell? ⟨b, 2, none⟩ = some (.slice (some ⟨s, 0, none⟩) 1 c)) (hs : w.cell? ⟨s, 0, none⟩ = some (.iface 36 (.pointer (some ⟨q, 0, none⟩)))) (E : EndsAt w q o l) :
    Calls Try.prog 109 #[.pointer (some ⟨b, 0, none⟩)] w fun e w' => e = .returned (P2 o l) ∧ Below w.heap.size w w' := by
  have n1 := nil_word
  have n2 := meth_word
  have z1 : IntKind.i64.wrap (1 - 1) = 0 := by decide
  have z2 : IntKind.i64.wrap 0 = 0 := by decide
  have z3 : (0 : Int) < 1 := by decide
  have z4 : (0 : Int) ≤ 0 := by decide
  have hlb : b < w.heap.size := World.block_lt_of_cell? w _ h
  have hls : s < w.heap.size := World.block_lt_of_cell? w _ hs
  go_enter Try.func109, Try.ntmps109
  go_wp2_with fail
  refine gen (fun W => Below w.heap.size w W ∧ W.cell? ⟨b, 2, none⟩ = some (.slice (some ⟨s, 0, none⟩) 1 c) ∧ W.cell? ⟨s, 0, none⟩ = some (.iface 36 (.pointer (some ⟨q, 0, none⟩))) ∧ EndsAt W q o l ∧ W.cell? ⟨w.heap.size, 0, none⟩ = some (.int .u32 0) ∧ W.cell? ⟨w.heap.size, 1, none⟩ = some (.int .u32 0) ∧ W.frozen? ⟨w.heap.size, 0, none⟩ = false ∧ W.frozen? ⟨w.heap.size, 1, none⟩ = false) ?_ ?_
  · exact ⟨balloc (Below.refl _ _) _, later h _, later hs _, E.later (balloc (Below.refl _ _) _), by simp, by simp, by simp, by simp⟩
  clear h hs E
  rintro W ⟨hB, h, hs, E, r0, r1, f0, f1⟩
  go_region_held3 (fun w' => w'.cell? ⟨b, 2, none⟩ = some (.slice (some ⟨s, 0, none⟩) 1 c) ∧ w'.cell? ⟨s, 0, none⟩ = some (.iface 36 (.pointer (some ⟨q, 0, none⟩)))) (first | (go_split_ands; (refine ⟨?_, ?_⟩) <;> assumption) | (go_split_ands; (refine ⟨blater hb ?_, blater hb ?_⟩) <;> assumption) | (go_split_ands; (refine ⟨setl2 hlb ?_, setl2 hls ?_⟩) <;> assumption) | go_keep) (first | (go_at_call 40; refine (EndsAt.here (EndsAt.drew E)).mono ?_; rintro e w' ⟨rfl, hb⟩; replace f0 := bfro2 hb r0 f0; replace f1 := bfro2 hb r1 f1; replace r0 := blater hb r0; replace r1 := blater hb r1; replace hB := btrans (Below.drew hB) hb))
  go_wp2
  refine bodyPost_ret (v := P2 o l) (by simp [results, Try.results109, go_sem, r0, r1]) rfl ⟨rfl, ?_⟩
  exact rend hB _ _

/-- Stmt.End of a plain statement over that clause -/
theorem stmtEnd (sb b s c q : Nat) (po pl o l : Int) (w : World) (hc : w.cell? ⟨sb, 1, none⟩ = some (.iface 66 (.pointer (some ⟨b, 0, none⟩)))) (p0 : w.cell? ⟨sb, 2, none⟩ = some (.int .u32 po)) (p1 : w.cell? ⟨sb, 3, none⟩ = some (.int .u32 pl))
    (s0 : w.cell? ⟨sb, 4, none⟩ = some (.int .u32 0)) (s1 : w.cell? ⟨sb, 5, none⟩ = some (.int .u32 0)) (hn : w.cell? ⟨sb, 6, none⟩ = some (.bool false)) (hr : w.cell? ⟨sb, 10, none⟩ = some (.slice none 0 0))
    (h : w.cell? ⟨b, 2, none⟩ = some (.slice (some ⟨s, 0, none⟩) 1 c)) (hs : w.cell? ⟨s, 0, none⟩ = some (.iface 36 (.pointer (some ⟨q, 0, none⟩)))) (E : EndsAt w q o l) :
    Calls Try.prog 79 #[.pointer (some ⟨sb, 0, none⟩)] w fun e w' => e = .returned (P2 o l) ∧ Below w.heap.size w w' := by
  have n1 := nil_let
  have n2 := meth_let
  have hv : validB 0 0 = false := by decide
  have L1 : sb < w.heap.size := World.block_lt_of_cell? w _ hc
  have g4 := later s0
  have g5 := later s1
  go_enter Try.func79, Try.ntmps79
  go_wp2_with fail
  refine (valid_any _ _ _).mono ?_
  rintro e w1 ⟨rfl, hb⟩
  obtain ⟨r0, r1, f0, f1, hB⟩ := rcell hb
  clear g4 g5 s0 s1 hb
  replace hc := blater hB hc
  replace p0 := blater hB p0
  replace p1 := blater hB p1
  replace hn := blater hB hn
  replace hr := blater hB hr
  replace h := blater hB h
  replace hs := blater hB hs
  replace E := E.later hB
  have L2 : w.heap.size < w1.heap.size := World.block_lt_of_cell? w1 _ r0
  have gc := later hc
  have gn := later hn
  go_wp2_with fail
  refine (letEnd b s c q o l _ (later h _) (later hs _) (E.later (balloc (Below.refl _ _) _))).mono ?_
  rintro e w2 ⟨rfl, hb⟩
  have hb3 : Below w1.heap.size w1 w2 := btrans (balloc (Below.refl _ _) _) hb
  have r2 : w2.cell? ⟨w1.heap.size, 0, none⟩ = some (.int .u32 po) := blater hb (by go_simp)
  have r3 : w2.cell? ⟨w1.heap.size, 1, none⟩ = some (.int .u32 pl) := blater hb (by go_simp)
  have f2 : w2.frozen? ⟨w1.heap.size, 0, none⟩ = false := bfro2 hb (v := .int .u32 po) (by go_simp) (by go_simp)
  have f3 : w2.frozen? ⟨w1.heap.size, 1, none⟩ = false := bfro2 hb (v := .int .u32 pl) (by go_simp) (by go_simp)
  clear hb gc gn
  replace f0 := bfro2 hb3 r0 f0
  replace f1 := bfro2 hb3 r1 f1
  replace r0 := blater hb3 r0
  replace r1 := blater hb3 r1
  replace hr := blater hb3 hr
  have e1 : sb ≠ w1.heap.size := by omega
  have e2 : w.heap.size ≠ w1.heap.size := by omega
  have e3 : w1.heap.size ≠ w.heap.size := by omega
  replace hB := btrans hB hb3
  clear hc p0 p1 hn h hs E hb3
  go_wp2
  refine bodyPost_ret (v := P2 o l) (by simp [results, Try.results79, go_sem, r0, r1]) rfl ⟨rfl, ?_⟩
  exact bset (bset (bset (bset hB (by show w.heap.size ≤ w1.heap.size; omega) _) (by show w.heap.size ≤ w1.heap.size; omega) _) (Nat.le_refl _) _) (Nat.le_refl _) _
theorem ifc_info : (Try.prog.info? 48).map (fun i => (i.zero, i.size, i.bytes)) = some (some (.nilIface), 1, 16) := by kernel_rfl
def LetPost (w : World) (b : Nat) (o l : Int) (e : Ending) (w' : World) : Prop := e = .returned (.tuple #[]) ∧ (∃ g c q, w'.cell? ⟨b, 2, none⟩ = some (.slice (some ⟨g, 0, none⟩) 1 c) ∧ w'.cell? ⟨g, 0, none⟩ = some (.iface 36 (.pointer (some ⟨q, 0, none⟩))) ∧ EndsAt w' q o l) ∧ w.grownBy w' (some b) ∧ ∀ y v, y ≠ 2 → w.cell? ⟨b, y, none⟩ = some v → w'.cell? ⟨b, y, none⟩ = some v
theorem let_end {w w1 : World} {b g cap s p q c : Nat} {o l : Int} (hb : b < w.heap.size) (hB : Below w.heap.size w w1) (hs : w.heap.size ≤ s) (hp : w.heap.size ≤ p) (hq : w.heap.size ≤ q) (hg : w.heap.size ≤ g)
    (c0 : w1.cell? ⟨b, 2, none⟩ = some (.slice none 0 0)) (G : w1.cell? ⟨g, 0, none⟩ = some (.iface 36 (.pointer (some ⟨q, 0, none⟩)))) (h1 : w1.cell? ⟨q, 0, none⟩ = some (.slice (some ⟨s, 0, none⟩) 1 c)) (h2 : w1.cell? ⟨s, 0, none⟩ = some (.iface 39 (.pointer (some ⟨p, 0, none⟩)))) (h3 : w1.cell? ⟨p, 2, none⟩ = some (.int .u32 o)) (h4 : w1.cell? ⟨p, 3, none⟩ = some (.int .u32 l)) :
    LetPost w b o l (.returned (.tuple #[])) (w1.setCell ⟨b, 2, none⟩ (.slice (some ⟨g, 0, none⟩) 1 cap)) := by
  have k : ∀ {x y : Nat} {v : Value}, w.heap.size ≤ x → w1.cell? ⟨x, y, none⟩ = some v → (w1.setCell ⟨b, 2, none⟩ (.slice (some ⟨g, 0, none⟩) 1 cap)).cell? ⟨x, y, none⟩ = some v := fun {x y v} hx h => by
    rw [World.cell?_setCell_other _ _ _ _ (fun e => by simp only [Addr.mk.injEq] at e; omega)]; exact h
  refine ⟨rfl, ⟨g, cap, q, ?_, k hg G, ends_lit q s c p o l _ (k hq h1) (k hs h2) (k hp h3) (k hp h4)⟩, ?_, fun y v hy hv => ?_⟩
  · rw [World.cell?_setCell_same _ _ _ c0]
  · exact ⟨hB.os, hB.tape, hB.output, by simpa [World.setCell] using hB.size, fun i hi hne => (Below.heap_setCell w1 _ _ i (fun e => hne (by rw [e]))).trans (hB.block i hi)⟩
  · rw [World.cell?_setCell_other _ _ _ _ (fun e => by simp only [Addr.mk.injEq] at e; omega)]; exact blater hB hv
set_option maxHeartbeats 2000000 in
theorem letApp (b : Nat) (o l o2 l2 : Int) (w : World) (h2 : w.cell? ⟨b, 2, none⟩ = some (.slice none 0 0)) (f2 : w.frozen? ⟨b, 2, none⟩ = false) : Calls Try.prog 45 #[.pointer (some ⟨b, 0, none⟩), P2 o l, P2 o2 l2] w (LetPost w b o2 l2) := by
  obtain ⟨i0, hi, hz0, hz1, hz2⟩ := info_parts ifc_info
  have hlt : b < w.heap.size := World.block_lt_of_cell? w _ h2
  have g1 := later h2
  have g2 := fun o1 o2 => later (g1 o1) o2
  have g3 := fun o1 o2 o3 => later (g2 o1 o2) o3
  have g4 := fun o1 o2 o3 o4 => later (g3 o1 o2 o3) o4
  have g5 := fun o1 o2 o3 o4 o5 => later (g4 o1 o2 o3 o4) o5
  have g6 := fun o1 o2 o3 o4 o5 o6 => later (g5 o1 o2 o3 o4 o5) o6
  have e1 : b ≠ w.heap.size := by omega
  have e2 : b ≠ w.heap.size + 1 := by omega
  go_enter Try.func45, Try.ntmps45
  go_wp2
  go_region_law ((refine step_append_lies _ (by rfl) _ _ _ (by rfl) w.heap.size 48 i0 (.nilIface) 1 16 Try.underlying128 hi hz0 hz1 hz2 rfl (by decide) (.slice none 0 0) 0 [] (by rfl) (World.ownsRow_nil _ _ _ _) ⟨w.heap.size + 1 + 1 + 1 + 1 + 1, 0, none⟩ 1 1 [.iface 36 (.pointer (some ⟨w.heap.size + 1 + 1 + 1 + 1, 0, none⟩))] (by rfl) rfl (by intro j u hu; rcases j with _ | j; (simp at hu; subst hu; go_simp); simp at hu) (by intro u hu; simp at hu; subst hu; rfl) (by decide) (by decide) (by decide) (by simp; omega) _ rfl ?_; intro g cap w1 hown hgrow hat hlt1; have hBl := (Below.refl _ _).grown hgrow (Nat.le_refl _) (by simp [Value.ownBlock]); have G1 := hown.cellAt 0 (by decide); have hB : Below w.heap.size w w1 := btrans (Below.drew (balloc (balloc (balloc (balloc (balloc (balloc (Below.refl _ _) _) _) _) _) _) _)) hBl; have c0 := blater hB h2; have d0 := bfro2 hB h2 f2; have a1 : w1.cell? ⟨w.heap.size + 1 + 1 + 1 + 1, 0, none⟩ = some (.slice (some ⟨w.heap.size + 1 + 1 + 1, 0, none⟩) 1 1) := blater hBl (by go_simp); have a2 : w1.cell? ⟨w.heap.size + 1 + 1 + 1, 0, none⟩ = some (.iface 39 (.pointer (some ⟨w.heap.size + 1 + 1, 0, none⟩))) := blater hBl (by go_simp); have a3 : w1.cell? ⟨w.heap.size + 1 + 1, 2, none⟩ = some (.int .u32 o2) := blater hBl (by go_simp); have a4 : w1.cell? ⟨w.heap.size + 1 + 1, 3, none⟩ = some (.int .u32 l2) := blater hBl (by go_simp); have hg : w.heap.size ≤ g := (by simp [Value.ownBlock] at hat; omega); have HG := Lib.hid hg; clear hown hgrow hat hBl hg))
  all_goals go_end0
  all_goals exact let_end hlt hB (by omega) (by omega) (by omega) HG.out c0 G1 a1 a2 a3 a4

theorem glater {w w' : World} {p : Addr} {v : Value} {b : Nat} (hg : w.grownBy w' (some b)) (hne : p.block ≠ b) (h : w.cell? p = some v) : w'.cell? p = some v :=
  (World.cell?_of_block (hg.block p.block (World.block_lt_of_cell? w _ h) (fun e => hne (by injection e)))).trans h
def StmtEnds (w : World) (b : Nat) (o l : Int) : Prop := ∀ W, Below w.heap.size w W → Calls Try.prog 79 #[.pointer (some ⟨b, 0, none⟩)] W fun e w' => e = .returned (P2 o l) ∧ Below W.heap.size W w'
theorem StmtEnds.later {w W : World} {b : Nat} {o l : Int} (hb : Below w.heap.size w W) (h : StmtEnds w b o l) : StmtEnds W b o l := fun V hV => h V (btrans hb hV)
theorem StmtEnds.drew {w : World} {b : Nat} {o l : Int} (h : StmtEnds w b o l) : StmtEnds w.drew b o l := h.later (Below.refl _ _).drew
theorem copEnd (b sb : Nat) (o l : Int) (w : World) (h : w.cell? ⟨b, 3, none⟩ = some (.pointer (some ⟨sb, 0, none⟩))) (E : StmtEnds w sb o l) :
    Calls Try.prog 49 #[.pointer (some ⟨b, 0, none⟩)] w fun e w' => e = .returned (P2 o l) ∧ Below w.heap.size w w' := by
  have g := later h
  go_enter Try.func49, Try.ntmps49
  go_wp2_with (go_at_call 79; refine (E _ (balloc (Below.refl _ _) _)).mono ?_; rintro e w1 ⟨rfl, hb⟩; obtain ⟨r0, r1, f0, f1, hB⟩ := rcell hb)
  refine bodyPost_ret (v := P2 o l) (by simp [results, Try.results49, go_sem, r0, r1]) rfl ⟨rfl, rend hB _ _⟩
theorem timeEnd (b sb : Nat) (o l : Int) (w : World) (h : w.cell? ⟨b, 3, none⟩ = some (.pointer (some ⟨sb, 0, none⟩))) (E : StmtEnds w sb o l) :
    Calls Try.prog 50 #[.pointer (some ⟨b, 0, none⟩)] w fun e w' => e = .returned (P2 o l) ∧ Below w.heap.size w w' := by
  have g := later h
  go_enter Try.func50, Try.ntmps50
  go_wp2_with (go_at_call 79; refine (E _ (balloc (Below.refl _ _) _)).mono ?_; rintro e w1 ⟨rfl, hb⟩; obtain ⟨r0, r1, f0, f1, hB⟩ := rcell hb)
  refine bodyPost_ret (v := P2 o l) (by simp [results, Try.results50, go_sem, r0, r1]) rfl ⟨rfl, rend hB _ _⟩
end Go.Proofs.Ytjpodhmjmohblaa
