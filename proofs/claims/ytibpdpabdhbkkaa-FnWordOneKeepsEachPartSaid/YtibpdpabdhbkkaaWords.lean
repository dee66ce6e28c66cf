/- The walk of the law FnWordOneKeepsEachPart: it returns true at every input. -/
import Derived.Test.YtibpdpabdhbkkaaBld
import Derived.LaidEqlPtr
import Derived.Lib.Builder
import Derived.OwnWalk
import Derived.Laws.MakeOwn
import Derived.Laws.Entries
import Derived.Deep.QuietTactic
import Derived.BigQuiet
namespace Go.Proofs.Ytibpdpabdhbkkaa
open Go.RowKit
set_option linter.unusedVariables false
theorem quiet_left {P : Program} {f : FuncId} {args : Array Value} {w : World} {n : Nat} {v : Value}
    (h : Calls P f args (w.drewN n) fun e w' => e = .returned v ∧ w.drewN n = w') : Calls P f args (w.drewN n) fun e w'' => e = .returned v ∧ ∃ m, w'' = w.drewN m :=
  h.mono fun _ _ ⟨he, hm⟩ => ⟨he, n, hm.symm⟩
def BytesPost (len : Nat) (z : Nat → ByteArray) (w : World) (e : Ending) (w' : World) : Prop := ∃ r : Bool, e = .returned (.bool r) ∧ w = w' ∧ (r = true → ∀ i, i < len → (z i).size ≤ 1048576)
theorem bytes_zero (a : Option Addr) (cap : Nat) (z : Nat → ByteArray) (w : World) : Calls Try.prog 5 #[.slice a 0 cap] w (BytesPost 0 z w) := by
  go_enter Try.func5, Try.ntmps5
  go_wp2
  refine wp_loop_rounds 1 ?_
  rw [rounds_succ]
  go_wp2
  go_ret
  exact ⟨_, rfl, rfl, fun _ i hi => absurd hi (by omega)⟩
theorem bytes_large (a : Option Addr) (len cap : Nat) (z : Nat → ByteArray) (w : World) (ml : len ≤ 9223372036854775807) (h : 1048576 < len) : Calls Try.prog 5 #[.slice a len cap] w (BytesPost len z w) := by
  go_enter Try.func5, Try.ntmps5
  go_wp2
  go_ret
  exact ⟨_, rfl, rfl, fun h => by cases h⟩
theorem bytes_some (b off len cap : Nat) (z : Nat → ByteArray) (w : World) (h0 : 0 < len) (ml : len ≤ 1048576) (hc : ∀ i, i < len → w.cell? ⟨b, off + i, none⟩ = some (.string (z i))) (hs : ∀ i, i < len → (z i).size ≤ 9223372036854775807) :
    Calls Try.prog 5 #[.slice (some ⟨b, off, none⟩) len cap] w (BytesPost len z w) := by
  have HC := Lib.hid hc
  have HS := Lib.hid hs
  clear hc hs
  go_enter Try.func5, Try.ntmps5
  go_wp2
  go_loop [3, 4] (fun t i => ∃ k n : Nat, k ≤ len ∧ n ≤ 1048576 ∧ i = .int .i64 k ∧ t = .int .i64 n ∧ ∀ j, j < k → (z j).size ≤ 1048576) (fun _ i => len - (intOf i).toNat)
  case atStart => exact ⟨0, len, Nat.zero_le _, ml, rfl, by go_num, fun j hj => absurd hj (by omega)⟩
  case round =>
    obtain ⟨k, n, hk, hn, rfl, rfl, hz⟩ := hrel
    have HZ := Lib.hid hz
    clear hz
    by_cases hlt : k < len
    · have g1 := HC.out k hlt
      have g2 := HS.out k hlt
      by_cases h1 : (z k).size ≤ 1048576
      · by_cases h2 : n + (z k).size ≤ 1048576
        · go_wp2
          go_round
          case rel => exact ⟨k + 1, n + (z k).size, by omega, h2, by go_num, by go_num, fun j hj => by
            by_cases hjk : j = k
            · subst hjk; exact h1
            · exact HZ.out j (by omega)⟩
          case measure => simp [intOf]; omega
        · have h3 : (1048576 : Int) < (n : Int) + ((z k).size : Int) := by omega
          go_wp2
          go_ret
          exact ⟨_, rfl, rfl, fun h => by cases h⟩
      · go_wp2
        go_ret
        exact ⟨_, rfl, rfl, fun h => by cases h⟩
    · go_wp2
      go_ret
      exact ⟨_, rfl, rfl, fun _ i hi => HZ.out i (by omega)⟩
theorem run_make_rowN {P : Program} (t e : TypeId) (i : TypeInfo) (z : Value) (ht : P.underlying t = some (.slice e)) (hi : P.info? e = some i) (hz : i.zero = some z)
    (kl kc : IntKind) (n c : Nat) (hnc : n ≤ c) (hbytes : i.bytes * c ≤ 281474976710656) (h63 : c ≤ 9223372036854775807) (w : World) :
    (Instr.makeSlice t (.int kl (n : Int)) (.int kc (c : Int))).run P w = .ok (.slice (some ⟨w.heap.size, 0, none⟩) n c) (w.alloc (.cells (madeCells z.cells (c * i.size)) e)) := by
  have hb : (i.bytes : Int) * (c : Int) ≤ 281474976710656 := by
    have h : ((i.bytes * c : Nat) : Int) ≤ 281474976710656 := by omega
    rwa [Int.natCast_mul] at h
  have hr := run_make (P := P) w t e i z ht hi hz kl kc n c (by omega) (by omega) hb (by omega)
  simp only [Int.toNat_natCast] at hr
  exact hr
abbrev row (v : Value) (n : Nat) : Array Value := madeCells #[v] n
theorem row_size (v : Value) (n : Nat) : (row v n).size = n := by simp [madeCells]
theorem info28 : (Try.prog.info? 28).map (fun i => (i.zero, i.size, i.bytes)) = some (some (.pointer none), 1, 8) := by kernel_rfl
theorem info34w : (Try.prog.info? 34).map (fun i => (i.zero, i.size, i.bytes)) = some (some (.pointer none), 1, 8) := by kernel_rfl
theorem info9 : (Try.prog.info? 9).map (fun i => (i.zero, i.size, i.bytes)) = some (some (.string ⟨#[]⟩), 1, 16) := by kernel_rfl
theorem mk26 (n : Nat) (h : n ≤ 4096) (w : World) : (Instr.makeSlice 26 (.int .i64 (n : Int)) (.int .i64 (n : Int))).run Try.prog w = .ok (.slice (some ⟨w.heap.size, 0, none⟩) n n) (w.alloc (.cells (row (.pointer none) n) 28)) := by
  obtain ⟨i0, hi, hz0, hz1, hz2⟩ := info_parts info28
  have := run_make_rowN 26 28 i0 _ Try.underlying26 hi hz0 .i64 .i64 n n (Nat.le_refl _) (by rw [hz2]; omega) (by omega) w
  rw [hz1, Nat.mul_one] at this
  exact this
theorem mk27 (n : Nat) (h : n ≤ 4096) (w : World) : (Instr.makeSlice 27 (.int .i64 (n : Int)) (.int .i64 (n : Int))).run Try.prog w = .ok (.slice (some ⟨w.heap.size, 0, none⟩) n n) (w.alloc (.cells (row (.pointer none) n) 34)) := by
  obtain ⟨i0, hi, hz0, hz1, hz2⟩ := info_parts info34w
  have := run_make_rowN 27 34 i0 _ Try.underlying27 hi hz0 .i64 .i64 n n (Nat.le_refl _) (by rw [hz2]; omega) (by omega) w
  rw [hz1, Nat.mul_one] at this
  exact this
theorem mk22 (n : Nat) (h : n ≤ 4096) (w : World) : (Instr.makeSlice 22 (.int .i64 (n : Int)) (.int .i64 (n : Int))).run Try.prog w = .ok (.slice (some ⟨w.heap.size, 0, none⟩) n n) (w.alloc (.cells (row (.string ⟨#[]⟩) n) 9)) := by
  obtain ⟨i0, hi, hz0, hz1, hz2⟩ := info_parts info9
  have := run_make_rowN 22 9 i0 _ Try.underlying22 hi hz0 .i64 .i64 n n (Nat.le_refl _) (by rw [hz2]; omega) (by omega) w
  rw [hz1, Nat.mul_one] at this
  exact this
theorem mk26z (w : World) : (Instr.makeSlice 26 (.int .i64 0) (.int .i64 0)).run Try.prog w = .ok (.slice (some ⟨w.heap.size, 0, none⟩) 0 0) (w.alloc (.cells (row (.pointer none) 0) 28)) := mk26 0 (by omega) w
theorem mk27z (w : World) : (Instr.makeSlice 27 (.int .i64 0) (.int .i64 0)).run Try.prog w = .ok (.slice (some ⟨w.heap.size, 0, none⟩) 0 0) (w.alloc (.cells (row (.pointer none) 0) 34)) := mk27 0 (by omega) w
theorem mk22z (w : World) : (Instr.makeSlice 22 (.int .i64 0) (.int .i64 0)).run Try.prog w = .ok (.slice (some ⟨w.heap.size, 0, none⟩) 0 0) (w.alloc (.cells (row (.string ⟨#[]⟩) 0) 9)) := mk22 0 (by omega) w
theorem neq28 (W : World) (a : Addr) : (binOp .neq 28 (.pointer (some a)) (.pointer (some a))).run Try.prog W = .ok (.bool false) W := by
  obtain ⟨j, hj⟩ := Option.isSome_iff_exists.1 (by kernel_rfl : (Try.prog.info? 33).isSome = true)
  exact Lib.run_neq_ptr_same W a Try.underlying28 hj
theorem word_zero (a : Option Addr) (cap : Nat) (w : World) : Calls Try.prog 3 #[.slice a 0 cap] w fun e w' => e = .returned (.bool true) ∧ Below w.heap.size w w' := by
  have m1 := mk26z
  have m2 := mk27z
  have m3 := mk22z
  have hn := fun wx : World => run_neq_slice_nil_any (P := Try.prog) wx 22 9 a 0 cap 0 0 Try.underlying22
  cases a with
  | none =>
    go_enter Try.func3, Try.ntmps3
    go_wp2_with fail
    refine (bytes_zero _ _ (fun _ => ByteArray.empty) _).mono ?_
    rintro e w' ⟨r, rfl, rfl, -⟩
    cases r
    · go_wp2
      go_ret
      exact ⟨rfl, Below.refl _ _⟩
    · go_wp2
      refine wp_loop_rounds 1 ?_
      rw [rounds_succ]
      go_wp2_with fail
      refine (newP _).mono ?_
      rintro e w1 ⟨rfl, -, hB⟩
      go_wp2
      refine wp_loop_rounds 1 ?_
      rw [rounds_succ]
      go_wp2
      refine wp_loop_rounds 1 ?_
      rw [rounds_succ]
      go_wp2
      go_ret
      exact ⟨rfl, (hB.alloc hB.size _).alloc (by have := hB.size; simp; omega) _⟩
  | some x =>
    go_enter Try.func3, Try.ntmps3
    go_wp2_with fail
    refine (bytes_zero _ _ (fun _ => ByteArray.empty) _).mono ?_
    rintro e w' ⟨r, rfl, rfl, -⟩
    cases r
    · go_wp2
      go_ret
      exact ⟨rfl, Below.refl _ _⟩
    · go_wp2
      refine wp_loop_rounds 1 ?_
      rw [rounds_succ]
      go_wp2
      refine wp_loop_rounds 1 ?_
      rw [rounds_succ]
      go_wp2_with fail
      refine (newP _).mono ?_
      rintro e w1 ⟨rfl, -, hB⟩
      replace hB := bel_trans ((Below.refl _ w).alloc (Nat.le_refl _) _) hB
      go_wp2
      refine wp_loop_rounds 1 ?_
      rw [rounds_succ]
      go_wp2
      refine wp_loop_rounds 1 ?_
      rw [rounds_succ]
      go_wp2
      go_ret
      exact ⟨rfl, (hB.alloc hB.size _).alloc (by have := hB.size; simp; omega) _⟩
theorem word_big (b off len cap : Nat) (z : Nat → ByteArray) (w : World) (ml : len ≤ 9223372036854775807) (h : 4096 < len) (hc : ∀ i, i < len → w.cell? ⟨b, off + i, none⟩ = some (.string (z i))) (hs : ∀ i, i < len → (z i).size ≤ 9223372036854775807) :
    Calls Try.prog 3 #[.slice (some ⟨b, off, none⟩) len cap] w fun e w' => e = .returned (.bool true) ∧ Below w.heap.size w w' := by
  have H : Calls Try.prog 5 #[.slice (some ⟨b, off, none⟩) len cap] w (BytesPost len z w) := by
    by_cases h1 : len ≤ 1048576
    · exact bytes_some b off len cap z w (by omega) h1 hc hs
    · exact bytes_large _ len cap z w ml (by omega)
  have HH := Lib.hid H
  clear H hc hs
  go_enter Try.func3, Try.ntmps3
  go_wp2_with fail
  refine HH.out.mono ?_
  rintro e w' ⟨r, rfl, rfl, -⟩
  cases r
  all_goals
    go_wp2
    go_ret
    exact ⟨rfl, Below.refl _ _⟩
/-- the copy of the list, done up to k -/
structure Cl (C len : Nat) (z : Nat → ByteArray) (k : Nat) (w wr : World) : Prop where
  blk : ∃ cs, wr.heap[C]? = some (.cells cs 9 (0, 0)) ∧ cs.size = len ∧ ∀ j, j < k → cs[j]? = some (.string (z j))
  bel : Below C w wr
theorem Cl.start (len : Nat) (z : Nat → ByteArray) (w : World) : Cl w.heap.size len z 0 w (w.alloc (.cells (row (.string ⟨#[]⟩) len) 9)) :=
  ⟨⟨_, heap_alloc_new w _, row_size _ _, fun j hj => absurd hj (by omega)⟩, (Below.refl _ _).alloc (Nat.le_refl _) _⟩
theorem Cl.room {C len k : Nat} {z : Nat → ByteArray} {w wr : World} (h : Cl C len z k w wr) (hk : k < len) : (∃ u, wr.cell? ⟨C, k, none⟩ = some u) ∧ wr.frozen? ⟨C, k, none⟩ = false := by
  obtain ⟨⟨cs, h1, h2, h3⟩, h4⟩ := h
  exact ⟨⟨_, (cellB h1 k).trans (Array.getElem?_eq_getElem (by omega))⟩, frozenB h1 k⟩
theorem Cl.step {C len k : Nat} {z : Nat → ByteArray} {w wr : World} (h : Cl C len z k w wr) (hk : k < len) : Cl C len z (k + 1) w (wr.setCell ⟨C, k, none⟩ (.string (z k))) := by
  obtain ⟨⟨cs, h1, h2, h3⟩, h4⟩ := h
  refine ⟨⟨_, setB h1 k _, by simpa using h2, fun j hj => ?_⟩, h4.setCell (p := ⟨C, k, none⟩) (Nat.le_refl _) _⟩
  by_cases hjk : j = k
  · subst hjk; rw [Array.getElem?_setIfInBounds_self_of_lt (by omega)]
  · rw [Array.getElem?_setIfInBounds_ne (by omega)]; exact h3 j (by omega)
theorem Bld.start {C len : Nat} {z : Nat → ByteArray} {w wr w1 : World} (hC : w.heap.size = C) (h : Cl C len z len w wr) (hb : Bat wr.heap.size (wr.heap.size + 1) 32 w1) (hB : Below wr.heap.size wr w1) :
    Bld w.heap.size C wr.heap.size w1.heap.size len z 0 ((w1.alloc (.cells (row (.pointer none) len) 28)).alloc (.cells (row (.pointer none) len) 34)) := by
  obtain ⟨⟨cs, h1, h2, h3⟩, h4⟩ := h
  have hp := hb.plt
  have hc := lt_of_heap h1
  have k1 : ∀ q, q < w1.heap.size → ((w1.alloc (.cells (row (.pointer none) len) 28)).alloc (.cells (row (.pointer none) len) 34)).heap[q]? = w1.heap[q]? := fun q hq =>
    (Below.heap_alloc _ _ q (by simp; omega)).trans (Below.heap_alloc _ _ q hq)
  have e1 := (k1 C (by omega)).trans ((hB.block C hc).trans h1)
  obtain ⟨_, _, ⟨ps, hps, A, hA, _⟩, _⟩ := hb
  refine ⟨⟨by omega, hc, hp⟩, fun i hi => (cellB e1 i).trans (h3 i hi), row (.pointer none) len, row (.pointer none) len, w1.heap.size + 2, 32, (Below.heap_alloc _ _ _ (by simp)).trans (heap_alloc_new w1 _), row_size _ _, ?_, row_size _ _, ⟨by omega, Nat.le_refl _, ⟨ps, (k1 _ hp).trans hps, A, hA, fun h => absurd h (by omega)⟩, fun h => absurd h (by omega)⟩, by omega, fun i hi => absurd hi (by omega)⟩
  have := heap_alloc_new (w1.alloc (.cells (row (.pointer none) len) 28)) (.cells (row (.pointer none) len) 34 (0, 0))
  rw [World.size_alloc] at this
  exact this
theorem Bld.lits {B C p L n : Nat} {z : Nat → ByteArray} {k : Nat} {w : World} (h : Bld B C p L n z k w) (i : Nat) (hi : i < n) : (∃ u, w.cell? ⟨L, i, none⟩ = some u) ∧ w.frozen? ⟨L, i, none⟩ = false := by
  obtain ⟨ho, hv, cs, ds, G, J, hL, hcs, hD, hds, hb, hG, hown⟩ := h
  exact ⟨⟨_, (cellB hL i).trans (Array.getElem?_eq_getElem (by omega))⟩, frozenB hL i⟩
theorem Bld.at {B C p L n : Nat} {z : Nat → ByteArray} {k : Nat} {w : World} (h : Bld B C p L n z k w) (i : Nat) (hi : i < k) : ∃ l g j, w.cell? ⟨L, i, none⟩ = some (PT l) ∧ w.cell? ⟨L + 1, i, none⟩ = some (.pointer (some ⟨g, 2 * j, none⟩)) ∧ w.cell? ⟨l, 4, none⟩ = some (.string (z i)) ∧
    w.cell? ⟨g, 2 * j, none⟩ = some (.slice (some ⟨g, 2 * j + 1, none⟩) 1 1) ∧ w.cell? ⟨g, 2 * j + 1, none⟩ = some (.iface 28 (PT l)) := by
  obtain ⟨ho, hv, cs, ds, G, J, hL, hcs, hD, hds, hb, hG, hown⟩ := h
  obtain ⟨l, g, j, e1, e2, e3, e4, e5, -⟩ := (hown i hi).own
  exact ⟨l, g, j, (cellB hL i).trans e1, (cellB hD i).trans e2, e3, e4, e5⟩
set_option maxRecDepth 100000 in
set_option maxHeartbeats 2000000 in
theorem word_in (b off len cap : Nat) (z : Nat → ByteArray) (w : World) (h0 : 0 < len) (h1 : len ≤ 4096) (hc : ∀ i, i < len → w.cell? ⟨b, off + i, none⟩ = some (.string (z i))) (hs : ∀ i, i < len → (z i).size ≤ 9223372036854775807) :
    Calls Try.prog 3 #[.slice (some ⟨b, off, none⟩) len cap] w fun e w' => e = .returned (.bool true) ∧ Below w.heap.size w w' := by
  have m1 := mk26 len h1
  have m2 := mk27 len h1
  have m3 := mk22 len h1
  have hn := fun wx : World => run_neq_slice_nil_any (P := Try.prog) wx 22 9 (some ⟨b, off, none⟩) len cap 0 0 Try.underlying22
  have hlt : b < w.heap.size := World.block_lt_of_cell? w _ (hc 0 h0)
  have HB := Lib.hid (bytes_some b off len cap z w h0 (by omega) hc hs)
  have dl : decide ((4096 : Int) < (len : Int)) = false := by simp; omega
  have HC := Lib.hid hc
  clear hc hs
  go_enter Try.func3, Try.ntmps3
  go_wp2_with fail
  refine HB.out.mono ?_
  rintro e w' ⟨r, rfl, rfl, hr⟩
  cases r
  · go_wp2
    go_ret
    exact ⟨rfl, Below.refl _ _⟩
  have HR := Lib.hid (hr rfl)
  clear hr HB
  go_wp2
  go_loop [3, 4] (fun t i => ∃ k n : Nat, k ≤ len ∧ n ≤ 1048576 ∧ i = .int .i64 k ∧ t = .int .i64 n) (fun _ i => len - (intOf i).toNat)
  case atStart => exact ⟨0, 8 * len, Nat.zero_le _, by omega, rfl, by go_num⟩
  case round =>
    obtain ⟨k, n, hk, hn2, rfl, rfl⟩ := hrel
    by_cases hlt2 : k < len
    · have g1 := HC.out k hlt2
      have g2 := HR.out k hlt2
      by_cases h2 : n + (z k).size ≤ 1048576
      · go_wp2
        go_round
        case rel => exact ⟨k + 1, n + (z k).size, by omega, h2, by go_num, by go_num⟩
        case measure => simp [intOf]; omega
      · have h3 : (1048576 : Int) < (n : Int) + ((z k).size : Int) := by omega
        go_wp2
        go_ret
        exact ⟨rfl, Below.refl _ _⟩
    · clear HR
      go_wp2
      obtain ⟨C, hC⟩ : ∃ C, w.heap.size = C := ⟨_, rfl⟩
      have CL := Cl.start len z w
      rw [hC] at CL
      have hC2 := Lib.hid hC
      rw [hC]
      clear m3 hn hlt2 hk hn2
      have hbC : b < C := by omega
      clear hC
      go_loopw [6] (fun i wr => ∃ k : Nat, k ≤ len ∧ i = .int .i64 k ∧ Cl C len z k w wr) (fun i _ => len - (intOf i).toNat)
      case atStart => exact ⟨0, Nat.zero_le _, rfl, CL⟩
      case round =>
        clear CL
        obtain ⟨k2, hk, rfl, CL⟩ := hrel
        by_cases hlt2 : k2 < len
        · have g1 : wr.cell? ⟨b, off + k2, none⟩ = some (.string (z k2)) := (CL.bel.cell (by exact hbC)).trans (HC.out k2 hlt2)
          obtain ⟨⟨u, g2⟩, g3⟩ := CL.room hlt2
          have CS := Lib.hid (CL.step hlt2)
          clear CL
          go_wp2
          go_roundw
          case rel => exact ⟨k2 + 1, by omega, by go_num, CS.out⟩
          case measure => simp [intOf]; omega
        · obtain rfl : k2 = len := by omega
          clear HC
          go_wp2_with fail
          refine (newP _).mono ?_
          rintro e w1 ⟨rfl, B0, hB⟩
          have BL := Bld.start hC2.out CL B0 hB
          have HB : Below w.heap.size w w1 := by rw [hC2.out]; exact CL.bel.trans (hB.mono (by have := CL.bel.size; have := hC2.out; omega))
          replace HB := (HB.alloc HB.size (.cells (row (.pointer none) k2) 28)).alloc (by have := HB.size; simp; omega) (.cells (row (.pointer none) k2) 34)
          clear CL B0 hB
          go_upto_region 23 with (fail)
          refine gen (fun V => Bld w.heap.size C wr.heap.size w1.heap.size k2 z 0 V ∧ Below w.heap.size w V) ⟨BL, HB⟩ ?_
          clear BL HB m1 m2 dl hbC hlt
          generalize wr.heap.size = p
          generalize w1.heap.size = L
          rintro V ⟨BL, HB⟩
          go_wp2
          go_loopw [11] (fun i W => ∃ k : Nat, k ≤ k2 ∧ i = .int .i64 k ∧ Bld w.heap.size C p L k2 z k W ∧ Below w.heap.size w W) (fun i _ => k2 - (intOf i).toNat)
          case atStart => exact ⟨0, Nat.zero_le _, rfl, BL, HB⟩
          case round =>
            clear BL HB
            obtain ⟨i, hi, rfl, BL, HB⟩ := hrel
            by_cases hlt3 : i < k2
            · have g1 := BL.val i hlt3
              obtain ⟨⟨u, g2⟩, g3⟩ := BL.lits i hlt3
              have M := (BL.lit hlt3).2.2
              have g5 : (wr.alloc (.cells #[.int .u32 0, .int .u32 0, .int .u32 0, .int .u32 0, .string (z i)] 33 (0, 0))).frozen? ⟨L, i, none⟩ = false := (BL.lit hlt3).2.1
              have g6 := lt_of_cell g2
              have ho := BL.ord
              have HM := Lib.hid M
              have HO := Lib.hid ho
              clear M BL ho
              go_upto_region 27 with (fail)
              refine gen (fun U => Mid w.heap.size C p L k2 z i wr.heap.size U ∧ Below w.heap.size w U) (by rw [← World.setCell_alloc_past _ _ _ _ g6]; exact ⟨HM.out, (HB.alloc HB.size _).setCell (p := ⟨L, i, none⟩) (by show _ ≤ L; have := HO.out; omega) _⟩) ?_
              clear HM HB g1 g2 g3 g5 g6
              generalize wr.heap.size = l
              rintro U ⟨M, HB⟩
              have g4 := (M.one hlt3).1
              have HM := Lib.hid (M.one hlt3).2
              clear M
              go_wp2_with fail
              refine HM.out.mono ?_
              rintro e w2 ⟨g, j, rfl, ⟨u2, s1⟩, s2, N, nb⟩
              replace HB := (HB.trans nb).setCell (p := ⟨L + 1, i, none⟩) (by show _ ≤ L + 1; have := HO.out; omega) (.pointer (some ⟨g, 2 * j, none⟩))
              have HN := Lib.hid N
              clear N nb g4
              go_wp2
              go_roundw
              case rel => exact ⟨i + 1, by omega, by go_num, HN.out, HB⟩
              case measure => simp [intOf]; omega
            · obtain rfl : i = k2 := by omega
              go_wp2
              go_loopw [12, 13] (fun j _ W => ∃ k : Nat, k ≤ i ∧ j = .int .i64 k ∧ Bld w.heap.size C p L i z i W ∧ Below w.heap.size w W) (fun j _ _ => i - (intOf j).toNat)
              case atStart => exact ⟨0, Nat.zero_le _, rfl, BL, HB⟩
              case round =>
                clear BL HB
                obtain ⟨q, hq, rfl, BL, HB⟩ := hrel
                by_cases hlt3 : q < i
                · have g1 := BL.val q hlt3
                  obtain ⟨l, g, j, c1, c2, c3, c4, c5⟩ := BL.at q hlt3
                  have n1 := neq28
                  have PL := Lib.hid (fun m => partLit g (2 * j) l (wr.drewN m) c4 c5)
                  have BD := Lib.hid (fun m => BL.drewN m)
                  clear BL
                  have q1 : (0 : Int) ≤ (q : Int) := by omega
                  have q2 : (q : Int) < (i : Int) := by omega
                  go_wp2
                  go_quiet ((go_at_call 8; exact quiet_left (PL.out _)))
                  go_wp2
                  go_quiet (fail)
                  go_wp2
                  exact ⟨⟨q + 1, by omega, by go_num, BD.out _, HB.os, HB.tape, HB.output, HB.size, HB.block⟩, by simp [intOf]; omega⟩
                · go_wp2
                  go_ret
                  exact ⟨rfl, HB⟩
/-- a slice that came in: nil, or a row of cells each of which holds a value of the kind Q -/
def RowOf (Q : Value → Prop) (w : World) (a : Option Addr) (len cap : Nat) : Prop :=
  (a = none ∧ len = 0 ∧ cap = 0) ∨ ∃ x, a = some x ∧ len ≤ cap ∧ cap ≤ maxLen ∧ ∀ i, i < cap → ∃ v, w.cell? (x.add i) = some v ∧ Q v
theorem RowOf.len {Q : Value → Prop} {w : World} {a : Option Addr} {len cap : Nat} (h : RowOf Q w a len cap) : len ≤ 9223372036854775807 := by
  rcases h with ⟨_, rfl, _⟩ | ⟨x, _, h1, h2, _⟩
  · omega
  · unfold maxLen at h2; omega
theorem RowOf.some_ {Q : Value → Prop} {w : World} {a : Option Addr} {len cap : Nat} (h : RowOf Q w a len cap) (h0 : 0 < len) : ∃ b off, a = some ⟨b, off, none⟩ ∧ ∀ i, i < len → ∃ v, w.cell? ⟨b, off + i, none⟩ = some v ∧ Q v := by
  rcases h with ⟨_, rfl, _⟩ | ⟨x, rfl, h1, h2, hc⟩
  · omega
  · obtain ⟨b, off, spot⟩ := x
    obtain ⟨v0, hv0, _⟩ := hc 0 (by omega)
    have hspot : spot = none := by simpa [Addr.add] using World.cell?_spot hv0
    subst hspot
    refine ⟨b, off, rfl, fun i hi => ?_⟩
    obtain ⟨v, hv, hq⟩ := hc i (by omega)
    refine ⟨v, ?_, hq⟩
    by_cases hi0 : i = 0
    · subst hi0; simpa [Addr.add] using hv
    · simpa [Addr.add, hi0] using hv
theorem pick_str {w : World} {b off len : Nat} (h : ∀ i, i < len → ∃ v, w.cell? ⟨b, off + i, none⟩ = some v ∧ ∃ s : ByteArray, v = .string s ∧ s.size ≤ maxLen) : ∃ z : Nat → ByteArray, (∀ i, i < len → w.cell? ⟨b, off + i, none⟩ = some (.string (z i))) ∧ ∀ i, i < len → (z i).size ≤ 9223372036854775807 := by
  have : ∀ i, ∃ s : ByteArray, i < len → w.cell? ⟨b, off + i, none⟩ = some (.string s) ∧ s.size ≤ 9223372036854775807 := fun i => by
    by_cases hi : i < len
    · obtain ⟨v, hv, s, rfl, hs⟩ := h i hi
      exact ⟨s, fun _ => ⟨hv, by unfold maxLen at hs; omega⟩⟩
    · exact ⟨ByteArray.empty, fun hh => absurd hh hi⟩
  exact ⟨fun i => (this i).choose, fun i hi => ((this i).choose_spec hi).1, fun i hi => ((this i).choose_spec hi).2⟩
theorem word_law (a : Option Addr) (len cap : Nat) (w : World) (h : RowOf (fun v => ∃ s : ByteArray, v = .string s ∧ s.size ≤ maxLen) w a len cap) : Calls Try.prog 3 #[.slice a len cap] w fun e w' => e = .returned (.bool true) ∧ Below w.heap.size w w' := by
  by_cases h0 : len = 0
  · subst h0; exact word_zero a cap w
  obtain ⟨b, off, rfl, hc⟩ := h.some_ (by omega)
  obtain ⟨z, hz, hs⟩ := pick_str hc
  by_cases h1 : len ≤ 4096
  · exact word_in b off len cap z w (by omega) h1 hz hs
  · exact word_big b off len cap z w h.len (by omega) hz hs
end Go.Proofs.Ytibpdpabdhbkkaa
