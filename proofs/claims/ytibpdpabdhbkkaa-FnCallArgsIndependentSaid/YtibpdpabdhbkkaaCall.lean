/- The walk of the law FnCallArgsIndependent: it returns true at every input. -/
import Derived.Test.YtibpdpabdhbkkaaArg
import Derived.LaidEqlPtr
import Derived.Lib.Builder
import Derived.OwnWalk
namespace Go.Proofs.Ytibpdpabdhbkkaa
open Go.RowKit
set_option linter.unusedVariables false
theorem btrans {a b c : World} (h : Below a.heap.size a b) (k : Below b.heap.size b c) : Below a.heap.size a c := h.trans (k.mono h.size)
theorem balloc {a b : World} (h : Below a.heap.size a b) (o : Obj) : Below a.heap.size a (b.alloc o) := h.alloc h.size o
theorem Bat.later {p G J : Nat} {w W : World} (h : Bat p G J w) (hb : Below w.heap.size w W) : Bat p G J W := by
  obtain ⟨h1, h2, ⟨cs, hp, h3⟩, h4⟩ := h
  refine ⟨h1, h2, ⟨cs, (hb.block p (lt_of_heap hp)).trans hp, h3⟩, fun hj => ?_⟩
  obtain ⟨ds, hg, hd⟩ := h4 hj
  exact ⟨ds, (hb.block G (lt_of_heap hg)).trans hg, hd⟩
theorem balc (w : World) (o : Obj) : Below w.heap.size w (w.alloc o) := balloc (Below.refl _ _) o
/-- the two commands: the Args of the first are the list vs, the second is as it was made -/
structure Two (c : Nat) (a2 : Addr) (n : Nat) (vs : List Value) (b off cap : Nat) (w : World) : Prop where
  arg : Arg c (c + 1) n vs b off cap w
  lt : b < w.heap.size
  two : w.heap[c + 1]? = some (.cells #[.slice none 0 0, .slice (some ⟨c + 1, 2, none⟩) 1 4, .pointer (some a2), .pointer none, .pointer none, .pointer none] 78 (0, 0))
theorem two_start (a1 a2 : Addr) (w : World) : Two w.heap.size a2 1 [.pointer (some a1)] w.heap.size 2 4 ((w.alloc (.cells #[.slice none 0 0, .slice (some ⟨w.heap.size, 2, none⟩) 1 4, .pointer (some a1), .pointer none, .pointer none, .pointer none] 78)).alloc (.cells #[.slice none 0 0, .slice (some ⟨w.heap.size + 1, 2, none⟩) 1 4, .pointer (some a2), .pointer none, .pointer none, .pointer none] 78)) := by
  have h1 : ∀ o : Obj, ((w.alloc (.cells #[.slice none 0 0, .slice (some ⟨w.heap.size, 2, none⟩) 1 4, .pointer (some a1), .pointer none, .pointer none, .pointer none] 78)).alloc o).heap[w.heap.size]? = some (.cells #[.slice none 0 0, .slice (some ⟨w.heap.size, 2, none⟩) 1 4, .pointer (some a1), .pointer none, .pointer none, .pointer none] 78 (0, 0)) := fun o =>
    (Below.heap_alloc _ _ _ (by simp)).trans (heap_alloc_new w _)
  refine ⟨⟨(cellB (h1 _) 1).trans rfl, frozenB (h1 _) 1, by omega, rfl, fun j u hu => ?_, fun j h2 h3 => ?_, fun _ => Nat.le_refl _, by omega⟩, by simp; omega, ?_⟩
  · cases j with
    | zero => simp at hu; subst hu; exact (cellB (h1 _) _).trans rfl
    | succ j => simp at hu
  · rw [cellB (h1 _), frozenB (h1 _)]
    refine ⟨?_, rfl⟩
    rw [Array.getElem?_eq_getElem (by simp; omega)]
    rfl
  · have := heap_alloc_new (w.alloc (.cells #[.slice none 0 0, .slice (some ⟨w.heap.size, 2, none⟩) 1 4, .pointer (some a1), .pointer none, .pointer none, .pointer none] 78)) (.cells #[.slice none 0 0, .slice (some ⟨w.heap.size + 1, 2, none⟩) 1 4, .pointer (some a2), .pointer none, .pointer none, .pointer none] 78 (0, 0))
    rw [World.size_alloc] at this
    exact this
theorem wgen {P : Program} {ops : Array Oper} {Q : Exit → Act → World → Prop} {rest : List Oper} {a : Act} {W : World} (S : World → Prop) (h : S W) (k : ∀ W, S W → wpList P ops Q rest a W) : wpList P ops Q rest a W := k W h
theorem Two.alloc {c : Nat} {a2 : Addr} {n : Nat} {vs : List Value} {b off cap : Nat} {w : World} (h : Two c a2 n vs b off cap w) (o : Obj) : Two c a2 n vs b off cap (w.alloc o) := by
  refine ⟨h.arg.alloc h.arg.le o h.lt, by simp; have := h.lt; omega, (Below.heap_alloc _ _ _ (lt_of_heap h.two)).trans h.two⟩
theorem Two.two_at {c : Nat} {a2 : Addr} {n : Nat} {vs : List Value} {b off cap : Nat} {w : World} (h : Two c a2 n vs b off cap w) (j : Nat) (u : Value) (hu : ([.pointer (some a2)] : List Value)[j]? = some u) : w.cell? ⟨c + 1, 2 + j, none⟩ = some u := by
  cases j with
  | zero => simp at hu; subst hu; exact (cellB h.two _).trans rfl
  | succ j => simp at hu
theorem rep_snoc (k : Nat) (v u : Value) : v :: List.replicate (k + 1) u = (v :: List.replicate k u) ++ [u] := by simp [List.replicate_succ']
theorem Two.room {c : Nat} {a2 : Addr} {k : Nat} {b off cap : Nat} {w : World} (hr : 1 + k + 1 ≤ cap) (a1 a3 : Addr) (h : Two c a2 (1 + k) (.pointer (some a1) :: List.replicate k (.pointer (some a3))) b off cap w) :
    (w.setCells b (off + (1 + k)) [.pointer (some a3)]).cell? ⟨c, 1, none⟩ = some (.slice (some ⟨b, off, none⟩) (1 + k) cap) ∧ (w.setCells b (off + (1 + k)) [.pointer (some a3)]).frozen? ⟨c, 1, none⟩ = false ∧
    Two c a2 (1 + (k + 1)) (.pointer (some a1) :: List.replicate (k + 1) (.pointer (some a3))) b off cap ((w.setCells b (off + (1 + k)) [.pointer (some a3)]).setCell ⟨c, 1, none⟩ (.slice (some ⟨b, off, none⟩) (1 + k + 1) cap)) := by
  have e : w.setCells b (off + (1 + k)) [.pointer (some a3)] = w.setCell ⟨b, off + (1 + k), none⟩ (.pointer (some a3)) := rfl
  rw [e]
  obtain ⟨A, hl, ht⟩ := h
  refine ⟨?_, by simpa using A.fz, ?_, by simpa [World.setCell] using hl, ?_⟩
  · rw [World.cell?_setCell_other _ _ _ _ (fun e => by simp only [Addr.mk.injEq] at e; have := A.apart.1 e.1; omega)]
    exact A.hd
  · rw [rep_snoc]; exact A.room hr _
  · exact farB (farB ht (Ne.symm A.apart.2)) (by omega)
theorem Two.grow {c : Nat} {a2 : Addr} {k : Nat} {b off cap : Nat} {w w' : World} {v' : Value} {B : Nat} (a1 a3 : Addr) (hB : B = w.heap.size) (h : Two c a2 (1 + k) (.pointer (some a1) :: List.replicate k (.pointer (some a3))) b off cap w)
    (ho : w'.ownsRow B 34 1 v' (1 + k + 1) (.pointer (some a1) :: (List.replicate k (.pointer (some a3)) ++ [.pointer (some a3)]))) (hg : w.grownBy w' none) :
    ∃ b' cap', B ≤ b' ∧ v' = .slice (some ⟨b', 0, none⟩) (1 + k + 1) cap' ∧ w'.cell? ⟨c, 1, none⟩ = some (.slice (some ⟨b, off, none⟩) (1 + k) cap) ∧ w'.frozen? ⟨c, 1, none⟩ = false ∧
      Two c a2 (1 + (k + 1)) (.pointer (some a1) :: List.replicate (k + 1) (.pointer (some a3))) b' 0 cap' (w'.setCell ⟨c, 1, none⟩ (.slice (some ⟨b', 0, none⟩) (1 + k + 1) cap')) := by
  obtain ⟨A, hl, ht⟩ := h
  have hc : c < w.heap.size := World.block_lt_of_cell? w _ A.hd
  have hcb : w'.heap[c]? = w.heap[c]? := hg.block c hc (by simp)
  have hw1 : w'.cell? ⟨c, 1, none⟩ = some (.slice (some ⟨b, off, none⟩) (1 + k) cap) := by rw [← A.hd]; simp only [World.cell?, hcb]
  have hz1 : w'.frozen? ⟨c, 1, none⟩ = false := by rw [← A.fz]; simp only [World.frozen?, hcb]
  subst hB
  have ho2 := ho
  obtain ⟨b', cap', hb', A'⟩ := A.grow (v := .pointer (some a3)) (lt_of_heap ht) ho hg
  obtain ⟨_, ⟨_, h0⟩ | ⟨g, cp, cur, rfl, hbg, _⟩⟩ := ho2
  · omega
  have e := A'.hd
  rw [World.cell?_setCell_same _ _ _ hw1] at e
  simp only [Option.some.injEq, Value.slice.injEq, Addr.mk.injEq] at e
  obtain ⟨⟨rfl, -⟩, -, rfl⟩ := e
  refine ⟨g, cp, hbg, rfl, hw1, hz1, ?_, by simpa [World.setCell] using hb', farB ((hg.block _ (lt_of_heap ht) (by simp)).trans ht) (by omega)⟩
  rw [rep_snoc]
  exact A'
theorem info34 : (Try.prog.info? 34).map (fun i => (i.zero, i.size, i.bytes)) = some (some (.pointer none), 1, 8) := by kernel_rfl
theorem neq34 (W : World) (a : Addr) : (binOp .neq 34 (.pointer (some a)) (.pointer (some a))).run Try.prog W = .ok (.bool false) W := by
  obtain ⟨j, hj⟩ := Option.isSome_iff_exists.1 (by kernel_rfl : (Try.prog.info? 38).isSome = true)
  exact Lib.run_neq_ptr_same W a Try.underlying34 hj
theorem eql34 (W : World) (a : Addr) : (binOp .eql 34 (.pointer (some a)) (.pointer (some a))).run Try.prog W = .ok (.bool true) W := by
  obtain ⟨j, hj⟩ := Option.isSome_iff_exists.1 (by kernel_rfl : (Try.prog.info? 38).isSome = true)
  exact run_eql_ptr_same W a Try.underlying34 hj
/-- the end: what the two commands hold -/
structure Fin (c : Nat) (a1 a2 a3 : Addr) (n b off cap : Nat) (w : World) : Prop where
  hd : w.cell? ⟨c, 1, none⟩ = some (.slice (some ⟨b, off, none⟩) (1 + n) cap)
  cells : ∀ j u, (.pointer (some a1) :: List.replicate n (.pointer (some a3)) : List Value)[j]? = some u → w.cell? ⟨b, off + j, none⟩ = some u
  hd2 : w.cell? ⟨c + 1, 1, none⟩ = some (.slice (some ⟨c + 1, 2, none⟩) 2 4)
  c2 : w.cell? ⟨c + 1, 2, none⟩ = some (.pointer (some a2))
  c3 : w.cell? ⟨c + 1, 3, none⟩ = some (.pointer (some a1))
theorem Two.fin {c : Nat} {a1 a2 a3 : Addr} {n b off cap : Nat} {w : World} (h : Two c a2 (1 + n) (.pointer (some a1) :: List.replicate n (.pointer (some a3))) b off cap w) :
    (w.setCells (c + 1) (2 + 1) [.pointer (some a1)]).cell? ⟨c + 1, 1, none⟩ = some (.slice (some ⟨c + 1, 2, none⟩) 1 4) ∧ (w.setCells (c + 1) (2 + 1) [.pointer (some a1)]).frozen? ⟨c + 1, 1, none⟩ = false ∧
    Fin c a1 a2 a3 n b off cap ((w.setCells (c + 1) (2 + 1) [.pointer (some a1)]).setCell ⟨c + 1, 1, none⟩ (.slice (some ⟨c + 1, 2, none⟩) 2 4)) := by
  have e : w.setCells (c + 1) (2 + 1) [.pointer (some a1)] = w.setCell ⟨c + 1, 3, none⟩ (.pointer (some a1)) := rfl
  rw [e]
  obtain ⟨A, hl, ht⟩ := h
  have h1 := setB ht 3 (.pointer (some a1))
  have h2 := setB h1 1 (.slice (some ⟨c + 1, 2, none⟩) 2 4)
  have hf : ∀ q i v, w.cell? ⟨q, i, none⟩ = some v → q ≠ c + 1 → ((w.setCell ⟨c + 1, 3, none⟩ (.pointer (some a1))).setCell ⟨c + 1, 1, none⟩ (.slice (some ⟨c + 1, 2, none⟩) 2 4)).cell? ⟨q, i, none⟩ = some v := fun q i v hv hq => by
    rw [World.cell?_setCell_other _ _ _ _ (fun e => by simp only [Addr.mk.injEq] at e; omega), World.cell?_setCell_other _ _ _ _ (fun e => by simp only [Addr.mk.injEq] at e; omega)]
    exact hv
  exact ⟨(cellB h1 1).trans rfl, frozenB h1 1, hf _ _ _ A.hd (by omega), fun j u hu => hf _ _ _ (A.cells j u hu) A.apart.2, (cellB h2 1).trans rfl, (cellB h2 2).trans rfl, (cellB h2 3).trans rfl⟩
theorem rep_at (k : Nat) (v u : Value) (j : Nat) (h0 : 1 ≤ j) (h1 : j ≤ k) : (v :: List.replicate k u : List Value)[j]? = some u := by
  obtain ⟨i, rfl⟩ : ∃ i, j = i + 1 := ⟨j - 1, by omega⟩
  simp [List.getElem?_replicate]; omega
set_option maxRecDepth 100000 in
set_option maxHeartbeats 2000000 in
theorem ca_in (a b c : ByteArray) (x : Int) (w : World) (ha : a.size ≤ 262144) (hb : b.size ≤ 262144) (hc : c.size ≤ 262144) (x0 : 0 ≤ x) (x1 : x < 256) (hs : a.size + b.size + c.size ≤ 1048576) :
    Calls Try.prog 4 #[.string a, .string b, .string c, .int .u8 x] w fun e w' => e = .returned (.bool true) ∧ Below w.heap.size w w' := by
  obtain ⟨i0, hi, hz0, hz1, hz2⟩ := info_parts info34
  obtain ⟨m, hm⟩ : ∃ m : Nat, x % 8 = m := ⟨(x % 8).toNat, by omega⟩
  have hm8 : m < 8 := by omega
  have da : decide ((262144 : Int) < (a.size : Int)) = false := by simp; omega
  have db : decide ((262144 : Int) < (b.size : Int)) = false := by simp; omega
  have dc : decide ((262144 : Int) < (c.size : Int)) = false := by simp; omega
  go_enter Try.func4, Try.ntmps4
  go_wp2_with (go_at_call 9; go_in)
  refine (newP _).mono ?_
  rintro e w1 ⟨rfl, B0, hB⟩
  go_wp2_with fail
  refine (one _ _ _ _ _ (B0.later (balc _ _))).mono ?_
  rintro e w2 ⟨G1, j1, rfl, hj1, hw1, B1, p1, q1, k1, z1, o1, b1⟩
  have hG1 : w.heap.size ≤ G1 := by
    have := hB.size
    rcases hw1 with ⟨h, -, h2⟩ | ⟨h, -, -⟩
    · omega
    · rw [World.size_alloc] at h; omega
  have hb1 : Below w.heap.size w w2 := (hB.alloc hB.size _).trans (b1 _ (Nat.le_refl _) hG1)
  clear hB b1 o1
  clear B0 p1 q1 k1 z1 hw1 hj1
  generalize (⟨G1, 2 * j1, none⟩ : Addr) = a1
  go_wp2_with fail
  refine (one _ _ _ _ _ (B1.later (balc _ _))).mono ?_
  rintro e w3 ⟨G2, j2, rfl, hj2, hw2, B2, p2, q2, k2, z2, o2, b2⟩
  have hG2 : w.heap.size ≤ G2 := by
    have := hb1.size
    rcases hw2 with ⟨h, -, h2⟩ | ⟨h, -, -⟩
    · omega
    · rw [World.size_alloc] at h; omega
  have hb2 : Below w.heap.size w w3 := (hb1.alloc hb1.size _).trans (b2 _ (Nat.le_refl _) hG2)
  clear hb1 b2 o2 hG1
  clear B1 p2 q2 k2 z2 hw2 hj2
  generalize (⟨G2, 2 * j2, none⟩ : Addr) = a2
  go_wp2_with fail
  refine (one _ _ _ _ _ (B2.later (balc _ _))).mono ?_
  rintro e w4 ⟨G3, j3, rfl, hj3, hw3, B3, p3, q3, k3, z3, o3, b3⟩
  have hG3 : w.heap.size ≤ G3 := by
    have := hb2.size
    rcases hw3 with ⟨h, -, h2⟩ | ⟨h, -, -⟩
    · omega
    · rw [World.size_alloc] at h; omega
  have hb3 : Below w.heap.size w w4 := (hb2.alloc hb2.size _).trans (b3 _ (Nat.le_refl _) hG3)
  clear hb2 b3 o3 hG2
  clear B2 B3 p3 q3 k3 z3 hw3 hj3
  generalize (⟨G3, 2 * j3, none⟩ : Addr) = a3
  go_wp2_with fail
  refine (call_x _ _ _).mono ?_
  rintro e w5 ⟨rfl, rfl⟩
  go_wp2_with fail
  refine (call_x _ _ _).mono ?_
  rintro e w6 ⟨rfl, rfl⟩
  rw [World.size_alloc]
  go_upto_region 11 with (fail)
  refine gen (fun W => Two w4.heap.size a2 1 [.pointer (some a1)] w4.heap.size 2 4 W ∧ Below w.heap.size w W) ⟨two_start a1 a2 w4, (hb3.alloc hb3.size _).alloc (by have := hb3.size; simp; omega) _⟩ ?_
  have hc1 := hb3.size
  clear hb3 hG3
  generalize w4.heap.size = c1 at hc1 ⊢
  rintro W ⟨H, HB⟩
  go_wp2
  rw [hm]
  clear ha hb hc hs da db dc hm x0 x1
  go_loopw [16] (fun i wr => ∃ k : Nat, k ≤ m + 1 ∧ i = .int .i64 k ∧ ∃ b off cap, Two c1 a2 (1 + k) (.pointer (some a1) :: List.replicate k (.pointer (some a3))) b off cap wr ∧ w.heap.size ≤ b ∧ Below w.heap.size w wr) (fun i _ => m + 1 - (intOf i).toNat)
  case atStart => exact ⟨0, Nat.zero_le _, rfl, _, _, _, H, hc1, HB⟩
  case round =>
    clear H HB
    obtain ⟨k, hk, rfl, b, off, cap, H, hwb, HB⟩ := hrel
    by_cases hlt : k < m + 1
    · have h1 := H.arg.hd
      have h2 := H.arg.fz
      have HH := Lib.hid H
      clear H
      go_wp2_with (at_builtin; refine wpList_append_arg _ rfl _ _ 27 rfl 34 i0 (.pointer none) 1 8 Try.underlying27 hi hz0 hz1 hz2 rfl (by decide) b off (1 + k) cap (.pointer (some a1) :: List.replicate k (.pointer (some a3))) rfl ?lo ?olds ⟨wr.heap.size, 0, none⟩ 1 1 [.pointer (some a3)] rfl rfl (cell_one_new _ _ _) ?c2 ?spare ?maxLen ?bytes ?room ?grow)
      case lo => simp; omega
      case olds => exact (HH.out.alloc _).arg.cells
      case c2 => intro u hu; simp at hu; subst hu; rfl
      case spare =>
        intro hr j hj
        obtain rfl : j = 0 := by simpa using hj
        simpa using (HH.out.alloc _).arg.spare (1 + k) (Nat.le_refl _) (by omega)
      case maxLen => unfold maxLen; omega
      case bytes => omega
      case room =>
        intro hr
        have T := HH.out.alloc (.cells #[.pointer (some a3)] 34)
        refine wgen (fun V => V.cell? ⟨c1, 1, none⟩ = some (.slice (some ⟨b, off, none⟩) (1 + k) cap) ∧ V.frozen? ⟨c1, 1, none⟩ = false ∧ Two c1 a2 (1 + (k + 1)) (.pointer (some a1) :: List.replicate (k + 1) (.pointer (some a3))) b off cap (V.setCell ⟨c1, 1, none⟩ (.slice (some ⟨b, off, none⟩) (1 + k + 1) cap)) ∧ Below w.heap.size w V) (by obtain ⟨t1, t2, t3⟩ := T.room hr a1 a3; exact ⟨t1, t2, t3, (HB.alloc HB.size _).setCell (p := ⟨b, off + (1 + k), none⟩) hwb _⟩) ?_
        clear T HB
        rintro V ⟨g1, g2, T, HB⟩
        have TT := Lib.hid T
        clear T h1 h2 HH
        go_wp2
        go_roundw
        case rel => exact ⟨k + 1, by omega, by go_num, b, off, cap, TT.out, hwb, HB.setCell (p := ⟨c1, 1, none⟩) hc1 _⟩
        case measure => simp [intOf]; omega
      case grow =>
        intro hr v' V hown hgrow
        have HB2 := (HB.alloc HB.size (.cells #[.pointer (some a3)] 34)).grown hgrow (by have := HB.size; simp; omega) (fun k h => by cases h)
        obtain ⟨b', cap', hb', rfl, g1, g2, T⟩ := Two.grow a1 a3 (by simp) (HH.out.alloc (.cells #[.pointer (some a3)] 34)) hown hgrow
        have TT := Lib.hid T
        have hwb' : w.heap.size ≤ b' := by have := HB.size; omega
        clear T h1 h2 HH hown hgrow HB hb'
        go_wp2
        go_roundw
        case rel => exact ⟨k + 1, by omega, by go_num, b', 0, cap', TT.out, hwb', HB2.setCell (p := ⟨c1, 1, none⟩) hc1 _⟩
        case measure => simp [intOf]; omega
    · obtain rfl : k = m + 1 := by omega
      have g1 := (cellB H.two 1).trans (rfl : _ = some (Value.slice (some ⟨c1 + 1, 2, none⟩) 1 4))
      have g2 := (cellB H.two 2).trans (rfl : _ = some (Value.pointer (some a2)))
      have g3 := frozenB H.two 1
      have n1 := neq34
      have HH := Lib.hid H
      clear H
      go_wp2_with (at_builtin; refine wpList_append_arg _ rfl _ _ 27 rfl 34 i0 (.pointer none) 1 8 Try.underlying27 hi hz0 hz1 hz2 rfl (by decide) (c1 + 1) 2 1 4 [.pointer (some a2)] rfl ?lo ?olds ⟨wr.heap.size, 0, none⟩ 1 1 [.pointer (some a1)] rfl rfl (cell_one_new _ _ _) ?c2 ?spare ?maxLen ?bytes (fun _ => wgen (fun V => V.cell? ⟨c1 + 1, 1, none⟩ = some (.slice (some ⟨c1 + 1, 2, none⟩) 1 4) ∧ V.frozen? ⟨c1 + 1, 1, none⟩ = false ∧ Fin c1 a1 a2 a3 (m + 1) b off cap (V.setCell ⟨c1 + 1, 1, none⟩ (.slice (some ⟨c1 + 1, 2, none⟩) 2 4)) ∧ Below w.heap.size w V) ?st ?room) ?grow)
      case lo => rfl
      case olds => intro j u hu; simpa using (HH.out.alloc _).two_at j u hu
      case c2 => intro u hu; simp at hu; subst hu; rfl
      case spare =>
        intro _ j hj
        obtain rfl : j = 0 := by simpa using hj
        exact ⟨by rw [cellB (HH.out.alloc _).two]; rfl, frozenB (HH.out.alloc _).two _⟩
      case maxLen => unfold maxLen; omega
      case bytes => omega
      case st => obtain ⟨t1, t2, t3⟩ := (HH.out.alloc (.cells #[.pointer (some a1)] 34)).fin; exact ⟨t1, t2, t3, (HB.alloc HB.size _).setCell (p := ⟨c1 + 1, 3, none⟩) (by show _ ≤ c1 + 1; omega) _⟩
      case room =>
        clear HB HH g1 g2 g3
        intro V g1 g2 F HB
        have FF := Lib.hid F
        clear F
        go_upto_region 19 with (fail)
        refine gen (fun U => Fin c1 a1 a2 a3 (m + 1) b off cap U ∧ Below w.heap.size w U) ⟨FF.out, HB.setCell (p := ⟨c1 + 1, 1, none⟩) (by show _ ≤ c1 + 1; omega) _⟩ ?_
        clear FF HB g1 g2
        rintro U ⟨F, HB⟩
        have f1 := F.hd
        have f2 : U.cell? ⟨b, off, none⟩ = some (.pointer (some a1)) := F.cells 0 _ rfl
        have f3 := F.hd2
        have f4 := F.c2
        have f5 := F.c3
        have FF := Lib.hid F
        have n2 := eql34
        have t1 : ((1 : Int) + ((m : Int) + 1) != (m : Int) + 1 + 1) = false := by simp; omega
        clear F
        go_wp2
        clear t1
        go_loop [17] (fun i => ∃ j : Nat, 1 ≤ j ∧ j ≤ m + 2 ∧ i = .int .i64 j) (fun i => m + 2 - (intOf i).toNat)
        case atStart => exact ⟨1, Nat.le_refl _, by omega, rfl⟩
        case round =>
          obtain ⟨j, j1, j2, rfl⟩ := hrel
          by_cases hjm : j < m + 2
          · have f6 : U.cell? ⟨b, off + j, none⟩ = some (.pointer (some a3)) := FF.out.cells j _ (rep_at _ _ _ j j1 (by omega))
            have hj3 : j < 1 + (m + 1) := by omega
            have hj4 : (j : Int) ≤ (m : Int) + 1 := by omega
            go_wp2
            go_round
            case rel => exact ⟨j + 1, by omega, by omega, by go_num⟩
            case measure => simp [intOf]; omega
          · have hj4 : (m : Int) + 1 < (j : Int) := by omega
            go_wp2
            go_ret
            exact ⟨rfl, HB⟩
theorem ca_o1 (a b c : ByteArray) (x : Int) (w : World) (ma : a.size ≤ 9223372036854775807) (mb : b.size ≤ 9223372036854775807) (mc : c.size ≤ 9223372036854775807) (h : 262144 < a.size) :
    Calls Try.prog 4 #[.string a, .string b, .string c, .int .u8 x] w fun e w' => e = .returned (.bool true) ∧ Below w.heap.size w w' := by
  have da : decide ((262144 : Int) < (a.size : Int)) = true := by simp; omega
  go_enter Try.func4, Try.ntmps4
  go_wp2_with (go_at_call 9; go_in)
  all_goals
    go_ret
    exact ⟨rfl, Below.refl _ _⟩
theorem ca_o2 (a b c : ByteArray) (x : Int) (w : World) (ma : a.size ≤ 262144) (mb : b.size ≤ 9223372036854775807) (mc : c.size ≤ 9223372036854775807) (h : 262144 < b.size) :
    Calls Try.prog 4 #[.string a, .string b, .string c, .int .u8 x] w fun e w' => e = .returned (.bool true) ∧ Below w.heap.size w w' := by
  have da : decide ((262144 : Int) < (a.size : Int)) = false := by simp; omega
  have db : decide ((262144 : Int) < (b.size : Int)) = true := by simp; omega
  go_enter Try.func4, Try.ntmps4
  go_wp2_with (go_at_call 9; go_in)
  all_goals
    go_ret
    exact ⟨rfl, Below.refl _ _⟩
theorem ca_o3 (a b c : ByteArray) (x : Int) (w : World) (ma : a.size ≤ 262144) (mb : b.size ≤ 262144) (mc : c.size ≤ 9223372036854775807) (h : 262144 < c.size) :
    Calls Try.prog 4 #[.string a, .string b, .string c, .int .u8 x] w fun e w' => e = .returned (.bool true) ∧ Below w.heap.size w w' := by
  have da : decide ((262144 : Int) < (a.size : Int)) = false := by simp; omega
  have db : decide ((262144 : Int) < (b.size : Int)) = false := by simp; omega
  have dc : decide ((262144 : Int) < (c.size : Int)) = true := by simp; omega
  go_enter Try.func4, Try.ntmps4
  go_wp2_with (go_at_call 9; go_in)
  all_goals
    go_ret
    exact ⟨rfl, Below.refl _ _⟩
theorem ca_law (a b c : ByteArray) (x : Int) (w : World) (ma : a.size ≤ maxLen) (mb : b.size ≤ maxLen) (mc : c.size ≤ maxLen) (hx2 : 0 ≤ x ∧ x < 256) :
    Calls Try.prog 4 #[.string a, .string b, .string c, .int .u8 x] w fun e w' => e = .returned (.bool true) ∧ Below w.heap.size w w' := by
  unfold maxLen at ma mb mc
  by_cases h1 : 262144 < a.size
  · exact ca_o1 a b c x w ma mb mc h1
  by_cases h2 : 262144 < b.size
  · exact ca_o2 a b c x w (by omega) mb mc h2
  by_cases h3 : 262144 < c.size
  · exact ca_o3 a b c x w (by omega) (by omega) mc h3
  exact ca_in a b c x w (by omega) (by omega) (by omega) hx2.1 hx2.2 (by omega)
end Go.Proofs.Ytibpdpabdhbkkaa
