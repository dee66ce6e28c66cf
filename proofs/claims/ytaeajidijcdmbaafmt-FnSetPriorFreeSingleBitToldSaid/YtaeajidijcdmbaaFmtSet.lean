/- The walk of the law FnSetPriorFreeSingleBit: it returns true at every input. The closed facts on fmt.errorf's stop come first. -/
import Derived.Test.YtaeajidijcdmbaaFmtVar
import Derived.Stop.CallBack
import Derived.Stop.IfaceNil
import GoSem.ClaimData
import Derived.Deep.QuietTactic
import Derived.BigQuiet
namespace Go.Proofs.YtaeajidijcdmbaaFmt
open Go.RowKit Go.Extern.Stop Go.Stop Go.Extern
set_option linter.unusedVariables false
theorem call19 (args : Array Value) (w : World) : (callFunc 19 args).run Tryf.prog w = ((FmtStop.errorf #[9, 61] #[33] args).run Tryf.prog w).andThen fun v w' => .ok (.value v) w' :=
  run_callFunc_extern Tryf.func19 (by kernel_rfl) (by kernel_rfl) (by kernel_rfl) (by kernel_rfl) args w
theorem fguard (name : String) (w : World) : (FmtStop.guard name).run Tryf.prog w = .ok () w := by kernel_rfl
theorem fmt0 : FmtStop.printed? ⟨#[117, 110, 107, 110, 111, 119, 110, 32, 115, 104, 101, 108, 108, 32, 108, 97, 110, 103, 117, 97, 103, 101, 32, 118, 97, 114, 105, 97, 110, 116, 58, 32, 37, 113]⟩ 1 = some [(0, 113, false)] := by kernel_rfl
theorem fmt0r (w : World) : (FmtDoors.printed ⟨#[117, 110, 107, 110, 111, 119, 110, 32, 115, 104, 101, 108, 108, 32, 108, 97, 110, 103, 117, 97, 103, 101, 32, 118, 97, 114, 105, 97, 110, 116, 58, 32, 37, 113]⟩ 1).run Tryf.prog w = .ok [(0, 113, false)] w := by kernel_rfl
def shape9 : List UInt8 := [12, 6, 0, 0, 0, 0, 0, 0, 0, 115, 116, 114, 105, 110, 103]
theorem op9 (name : String) (x : ByteArray) (w : World) : (FmtStop.operand name false 113 false (.iface 9 (.string x))).run Tryf.prog w = .ok (shape9, FmtStop.pack x.data.toList) w := by kernel_rfl
theorem op9w (name : String) (x : ByteArray) (w : World) : (FmtStop.operand name true 113 false (.iface 9 (.string x))).run Tryf.prog w = .ok (shape9, FmtStop.pack x.data.toList) w := by kernel_rfl
theorem ptr63 (w : World) : (FmtStop.ptrTo "errors.errorString").run Tryf.prog w = .ok 63 w := by kernel_rfl
theorem elem63 (w : World) : (elemOf 63).run Tryf.prog w = .ok 65 w := by kernel_rfl
theorem isErr63 (w : World) : (FmtDoors.textMethod 63 "Error").run Tryf.prog w = .ok true w := by kernel_rfl
theorem below_drewN {B : Nat} {a w : World} (h : Below B a w) (n : Nat) : Below B a (w.drewN n) := ⟨h.os, h.tape, h.output, h.size, h.block⟩
theorem ret_bool2 {a b : Bool} (h : a = b) : Ending.returned (.bool a) = .returned (.bool b) := by rw [h]
def setT : List (List UInt8 × Int) := [([98, 97, 115, 104], 1), ([112, 111, 115, 105, 120], 2), ([115, 104], 2), ([100, 97, 115, 104], 2), ([109, 107, 115, 104], 4), ([98, 97, 116, 115], 8), ([122, 115, 104], 16), ([97, 117, 116, 111], 32)]
def setV (l : List UInt8) : Int := (setT.lookup l).getD 0
theorem lookup_mem (t : List (List UInt8 × Int)) (l : List UInt8) (v : Int) (h : t.lookup l = some v) : (l, v) ∈ t := by
  induction t with
  | nil => simp at h
  | cons p t ih =>
    obtain ⟨k, u⟩ := p
    rw [List.lookup_cons] at h
    by_cases e : (l == k) = true
    · rw [e] at h
      simp at h e
      subst h e
      simp
    · rw [Bool.not_eq_true] at e
      rw [e] at h
      exact List.mem_cons_of_mem _ (ih h)
theorem setV_mem (l : List UInt8) (h : setV l ≠ 0) : (l, setV l) ∈ setT := by
  unfold setV at h ⊢
  cases e : setT.lookup l with
  | none => rw [e] at h; exact absurd rfl h
  | some v => exact lookup_mem _ _ _ e
theorem set_ok (p : Nat) (s : ByteArray) (u : Value) (w : World) (h : setV s.toList ≠ 0) (hc : w.cell? ⟨p, 0, none⟩ = some u) (hz : w.frozen? ⟨p, 0, none⟩ = false) :
    Calls Tryf.prog 11 #[.pointer (some ⟨p, 0, none⟩), .string s] w fun e w' => e = .returned .nilIface ∧ w.setCell ⟨p, 0, none⟩ (.int .i64 (setV s.toList)) = w' := by
  have hm := setV_mem _ h
  obtain ⟨v, hv⟩ : ∃ v, v = setV s.toList := ⟨_, rfl⟩
  rw [← hv] at hm ⊢
  clear hv h
  simp only [setT, List.mem_cons, Prod.mk.injEq, List.not_mem_nil, or_false] at hm
  rcases hm with ⟨hl, rfl⟩ | ⟨hl, rfl⟩ | ⟨hl, rfl⟩ | ⟨hl, rfl⟩ | ⟨hl, rfl⟩ | ⟨hl, rfl⟩ | ⟨hl, rfl⟩ | ⟨hl, rfl⟩
  all_goals
    go_enter Tryf.func11, Tryf.ntmps11
    go_wp2
    go_ret
    exact ⟨rfl, rfl⟩
abbrev fmtQ : ByteArray := ⟨#[117, 110, 107, 110, 111, 119, 110, 32, 115, 104, 101, 108, 108, 32, 108, 97, 110, 103, 117, 97, 103, 101, 32, 118, 97, 114, 105, 97, 110, 116, 58, 32, 37, 113]⟩
theorem errorf_q (F : Interp) (b : Nat) (s : ByteArray) (w : World) (hF : F.answers w.tape) (hc : w.cell? ⟨b, 0, none⟩ = some (.iface 9 (.string s))) :
    Calls Tryf.prog 17 #[.string fmtQ, .slice (some ⟨b, 0, none⟩) 1 1] w fun e w' => (∃ a, e = .returned (.iface 63 (.pointer (some a)))) ∧ Below w.heap.size w w' := by
  have hF' := answers_open hF
  have c1 := call19
  have c2 := fguard
  have c3 := fmt0
  have c4 := fmt0r
  have c5 := op9
  have c6 := op9w
  have c7 := ptr63
  have c8 := elem63
  go_enter Tryf.func17, Tryf.ntmps17
  go_wp2
  go_ret
  exact ⟨⟨_, rfl⟩, ((Below.refl _ w).alloc (Nat.le_refl _) _).drew⟩
theorem set_bad (F : Interp) (p : Nat) (s : ByteArray) (w : World) (hF : F.answers w.tape) (h : setV s.toList = 0) :
    Calls Tryf.prog 11 #[.pointer (some ⟨p, 0, none⟩), .string s] w fun e w' => (∃ a, e = .returned (.iface 63 (.pointer (some a)))) ∧ Below w.heap.size w w' := by
  have n0 : ¬ s.toList = [98, 97, 115, 104] := fun e => by rw [e] at h; revert h; decide
  have m0 : (s.toList == [98, 97, 115, 104]) = false := beq_eq_false_iff_ne.2 n0
  have n1 : ¬ s.toList = [112, 111, 115, 105, 120] := fun e => by rw [e] at h; revert h; decide
  have m1 : (s.toList == [112, 111, 115, 105, 120]) = false := beq_eq_false_iff_ne.2 n1
  have n2 : ¬ s.toList = [115, 104] := fun e => by rw [e] at h; revert h; decide
  have m2 : (s.toList == [115, 104]) = false := beq_eq_false_iff_ne.2 n2
  have n3 : ¬ s.toList = [100, 97, 115, 104] := fun e => by rw [e] at h; revert h; decide
  have m3 : (s.toList == [100, 97, 115, 104]) = false := beq_eq_false_iff_ne.2 n3
  have n4 : ¬ s.toList = [109, 107, 115, 104] := fun e => by rw [e] at h; revert h; decide
  have m4 : (s.toList == [109, 107, 115, 104]) = false := beq_eq_false_iff_ne.2 n4
  have n5 : ¬ s.toList = [98, 97, 116, 115] := fun e => by rw [e] at h; revert h; decide
  have m5 : (s.toList == [98, 97, 116, 115]) = false := beq_eq_false_iff_ne.2 n5
  have n6 : ¬ s.toList = [122, 115, 104] := fun e => by rw [e] at h; revert h; decide
  have m6 : (s.toList == [122, 115, 104]) = false := beq_eq_false_iff_ne.2 n6
  have n7 : ¬ s.toList = [97, 117, 116, 111] := fun e => by rw [e] at h; revert h; decide
  have m7 : (s.toList == [97, 117, 116, 111]) = false := beq_eq_false_iff_ne.2 n7
  have HF := Lib.hid hF
  clear h hF n0 n1 n2 n3 n4 n5 n6 n7
  go_enter Tryf.func11, Tryf.ntmps11
  go_wp2_with fail
  refine (errorf_q F w.heap.size s _ (by exact HF.out) ?_).mono ?_
  · go_simp
  rintro e w1 ⟨⟨a, rfl⟩, hb⟩
  have HB := ((Below.refl _ w).alloc (Nat.le_refl _) _).trans (hb.mono (by simp))
  clear hb
  go_wp2
  go_ret
  exact ⟨⟨_, rfl⟩, HB⟩
theorem single (v : Int) (h : v = 1 ∨ v = 2 ∨ v = 4 ∨ v = 8 ∨ v = 16 ∨ v = 32) (w : World) : Calls Tryf.prog 12 #[.int .i64 v] w fun e w' => e = .returned (.bool true) ∧ w = w' := by
  rcases h with rfl | rfl | rfl | rfl | rfl | rfl
  all_goals
    go_enter Tryf.func12, Tryf.ntmps12
    go_wp2
    go_ret
    exact ⟨rfl, rfl⟩
theorem in63 (v : Int) (h : v = 1 ∨ v = 2 ∨ v = 4 ∨ v = 8 ∨ v = 16 ∨ v = 32) (w : World) : Calls Tryf.prog 13 #[.int .i64 v, .int .i64 63] w fun e w' => e = .returned (.bool true) ∧ w = w' := by
  rcases h with rfl | rfl | rfl | rfl | rfl | rfl
  all_goals
    go_enter Tryf.func13, Tryf.ntmps13
    go_wp2_with (go_at_call 18; go_in)
    go_ret
    exact ⟨rfl, rfl⟩
theorem in31 (v : Int) (h : v = 1 ∨ v = 2 ∨ v = 4 ∨ v = 8 ∨ v = 16 ∨ v = 32) (w : World) : Calls Tryf.prog 13 #[.int .i64 v, .int .i64 31] w fun e w' => e = .returned (.bool (decide (v ≠ 32))) ∧ w = w' := by
  rcases h with rfl | rfl | rfl | rfl | rfl | rfl
  all_goals
    go_enter Tryf.func13, Tryf.ntmps13
    go_wp2_with (go_at_call 18; go_in)
    go_ret
    exact ⟨rfl, rfl⟩
theorem setV_bits (l : List UInt8) (h : setV l ≠ 0) : (setV l = 1 ∨ setV l = 2 ∨ setV l = 4 ∨ setV l = 8 ∨ setV l = 16 ∨ setV l = 32) ∧ (setV l = 32 ↔ l = [97, 117, 116, 111]) := by
  have hm := setV_mem l h
  have key : ∀ p ∈ setT, (p.2 = 1 ∨ p.2 = 2 ∨ p.2 = 4 ∨ p.2 = 8 ∨ p.2 = 16 ∨ p.2 = 32) ∧ (p.2 = 32 ↔ p.1 = [97, 117, 116, 111]) := by decide +kernel
  exact key _ hm
theorem sp_big (s : ByteArray) (x y : Int) (w : World) (hm : s.size ≤ 9223372036854775807) (h : 1048576 < s.size) : Calls Tryf.prog 4 #[.string s, .int .i64 x, .int .i64 y] w fun e w' => e = .returned (.bool true) ∧ Below w.heap.size w w' := by
  go_enter Tryf.func4, Tryf.ntmps4
  go_wp2_with (go_at_call 10; go_in)
  all_goals
    go_ret
    exact ⟨rfl, Below.refl _ _⟩
theorem sp_bad (F : Interp) (s : ByteArray) (x y : Int) (w : World) (hF : F.answers w.tape) (hm : s.size ≤ 1048576) (h : setV s.toList = 0) : Calls Tryf.prog 4 #[.string s, .int .i64 x, .int .i64 y] w fun e w' => e = .returned (.bool true) ∧ Below w.heap.size w w' := by
  have HF := Lib.hid hF
  have H := Lib.hid h
  clear hF h
  go_enter Tryf.func4, Tryf.ntmps4
  go_wp2_with (go_at_call 10; go_in)
  refine (set_bad F _ s _ (by exact HF.out) H.out).mono ?_
  rintro e w1 ⟨⟨a, rfl⟩, hb⟩
  have k1 : w1.cell? ⟨w.heap.size, 0, none⟩ = some (.int .i64 x) := (hb.cell (by simp only [World.size_alloc]; show w.heap.size < _; omega)).trans (by go_simp)
  have k2 : w1.cell? ⟨w.heap.size + 1, 0, none⟩ = some (.int .i64 y) := (hb.cell (by simp only [World.size_alloc]; show w.heap.size + 1 < _; omega)).trans (by go_simp)
  have HB := (((Below.refl _ w).alloc (Nat.le_refl _) (.cells #[.int .i64 x] 28)).alloc (by simp) (.cells #[.int .i64 y] 28)).trans (hb.mono (by simp only [World.size_alloc]; omega))
  have hs := hb.size
  simp only [World.size_alloc] at hs
  have HT := Lib.hid (show F.answers w1.tape from by rw [HB.tape]; exact HF.out)
  clear hb HF
  go_wp2_with fail
  refine (set_bad F _ s _ (by exact HT.out) H.out).mono ?_
  rintro e w2 ⟨⟨a2, rfl⟩, hb⟩
  replace k1 : w2.cell? ⟨w.heap.size, 0, none⟩ = some (.int .i64 x) := (hb.cell (by show w.heap.size < _; omega)).trans k1
  replace k2 : w2.cell? ⟨w.heap.size + 1, 0, none⟩ = some (.int .i64 y) := (hb.cell (by show w.heap.size + 1 < _; omega)).trans k2
  replace HB := HB.trans (hb.mono HB.size)
  clear hb hs HT
  go_wp2
  go_quiet (fail)
  go_wp2
  go_ret
  exact ⟨rfl, below_drewN HB _⟩
theorem set_ok2 (p : Nat) (s : ByteArray) (u : Value) (w : World) (h : setV s.toList ≠ 0) (hc : w.cell? ⟨p, 0, none⟩ = some u) (hz : w.frozen? ⟨p, 0, none⟩ = false) :
    Calls Tryf.prog 11 #[.pointer (some ⟨p, 0, none⟩), .string s] w fun e w' => e = .returned .nilIface ∧ w'.cell? ⟨p, 0, none⟩ = some (.int .i64 (setV s.toList)) ∧ (∀ q u, q ≠ p → w.cell? ⟨q, 0, none⟩ = some u → w'.cell? ⟨q, 0, none⟩ = some u) ∧ (∀ q, w'.frozen? ⟨q, 0, none⟩ = w.frozen? ⟨q, 0, none⟩) ∧ ∀ B, B ≤ p → Below B w w' := by
  refine (set_ok p s u w h hc hz).mono ?_
  rintro e w' ⟨rfl, rfl⟩
  exact ⟨rfl, World.cell?_setCell_same _ _ _ hc, fun q u hq hu => (World.cell?_setCell_other _ _ _ _ (fun e => by simp only [Addr.mk.injEq] at e; exact hq e.1.symm)).trans hu, fun q => by simp, fun B hB => (Below.refl _ _).setCell hB _⟩
theorem sp_ok (s : ByteArray) (x y : Int) (w : World) (hm : s.size ≤ 1048576) (h : setV s.toList ≠ 0) : Calls Tryf.prog 4 #[.string s, .int .i64 x, .int .i64 y] w fun e w' => e = .returned (.bool true) ∧ Below w.heap.size w w' := by
  obtain ⟨hbit, h32⟩ := setV_bits _ h
  have SO := Lib.hid (fun p u W => set_ok2 p s u W h)
  obtain ⟨v, hv⟩ : ∃ v, setV s.toList = v := ⟨_, rfl⟩
  rw [hv] at hbit h32 SO
  have A1 := Lib.hid (single v hbit)
  have A2 := Lib.hid (in63 v hbit)
  have A3 := Lib.hid (in31 v hbit)
  have hlast : ((!decide (v = 32)) == !(s.toList == [97, 117, 116, 111])) = true := by
    by_cases e : v = 32
    · have := h32.1 e; simp [e, this]
    · have : s.toList ≠ [97, 117, 116, 111] := fun e2 => e (h32.2 e2)
      simp [e, this]
  have HLAST := Lib.hid hlast
  clear hbit h32 hv h hlast
  go_enter Tryf.func4, Tryf.ntmps4
  go_wp2_with (go_at_call 10; go_in)
  refine (SO.out w.heap.size (.int .i64 x) _ ?n1 ?n2).mono ?_
  case n1 => go_simp
  case n2 => go_simp
  rintro e w1 ⟨rfl, k1, kk, kz, kb⟩
  have k2 : w1.cell? ⟨w.heap.size + 1, 0, none⟩ = some (.int .i64 y) := kk _ _ (by omega) (by go_simp)
  have k3 : w1.frozen? ⟨w.heap.size + 1, 0, none⟩ = false := by rw [kz]; go_simp
  have HB := (((Below.refl _ w).alloc (Nat.le_refl _) (.cells #[.int .i64 x] 28)).alloc (by simp) (.cells #[.int .i64 y] 28)).trans (kb _ (Nat.le_refl _))
  clear kk kz kb
  go_wp2_with fail
  refine (SO.out _ _ _ k2 k3).mono ?_
  rintro e w2 ⟨rfl, q1, qk, qz, qb⟩
  replace k1 := qk _ _ (by omega) k1
  replace HB := HB.trans (qb _ (by omega))
  clear qk qz qb k2 k3 SO
  go_wp2
  go_quiet (fail)
  go_wp2_with (first | (go_at_call 12; refine (A1.out _).mono ?_; rintro e w3 ⟨rfl, rfl⟩) | (go_at_call 13; first | (refine (A2.out _).mono ?_; rintro e w3 ⟨rfl, rfl⟩) | (refine (A3.out _).mono ?_; rintro e w3 ⟨rfl, rfl⟩)))
  go_ret
  exact ⟨ret_bool2 HLAST.out, below_drewN HB _⟩
theorem sp_law (F : Interp) (s : ByteArray) (x y : Int) (w : World) (hF : F.answers w.tape) (hm : s.size ≤ maxLen) : Calls Tryf.prog 4 #[.string s, .int .i64 x, .int .i64 y] w fun e w' => e = .returned (.bool true) ∧ Below w.heap.size w w' := by
  unfold maxLen at hm
  by_cases h1 : s.size ≤ 1048576
  · by_cases h2 : setV s.toList = 0
    · exact sp_bad F s x y w hF h1 h2
    · exact sp_ok s x y w h1 h2
  · exact sp_big s x y w hm (by omega)
end Go.Proofs.YtaeajidijcdmbaaFmt
