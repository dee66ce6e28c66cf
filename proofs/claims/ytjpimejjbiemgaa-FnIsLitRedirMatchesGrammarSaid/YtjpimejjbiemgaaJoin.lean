/- The contract of zzJoin3 with a nil third part. -/
import Derived.Test.YtjpimejjbiemgaaPosl
import Derived.Test.YtjpimejjbiemgaaCloneB
import Derived.Maps.AppendAt
namespace Go.Proofs.Ytjpimejjbiemgaa
open Go.RowKit
set_option linter.unusedVariables false

theorem take_map_snoc (l : List Int) (k : Nat) (h : k < l.length) : (l.take (k + 1)).map (Value.int .u8) = (l.take k).map (Value.int .u8) ++ [.int .u8 (l[k]?.getD 0)] := by
  rw [take_snoc' l k h]; simp
set_option maxHeartbeats 1000000 in
theorem join_some_some (A B : List Int) (w : World) (b1 o1 la ca : Nat) (hA : A.length = la) (hla : la ≤ 65536) (hcA : ∀ i, i < la → w.cell? ⟨b1, o1 + i, none⟩ = some (.int .u8 (A[i]?.getD 0))) (b2 o2 lb cb : Nat) (hB : B.length = lb) (hlb : lb ≤ 4) (hcB : ∀ i, i < lb → w.cell? ⟨b2, o2 + i, none⟩ = some (.int .u8 (B[i]?.getD 0))) :
    Calls Try.prog 32 #[.slice (some ⟨b1, o1, none⟩) la ca, .slice (some ⟨b2, o2, none⟩) lb cb, .slice none 0 0] w fun e w' => e = .returned (.slice (some ⟨w.heap.size, 0, none⟩) (la + lb) (la + lb)) ∧ w'.ownsRow w.heap.size 5 1 (.slice (some ⟨w.heap.size, 0, none⟩) (la + lb) (la + lb)) (la + lb) ((A ++ B).map (Value.int .u8)) ∧ Below w.heap.size w w' := by
  obtain ⟨i0, hi, hz0, hz1, hz2⟩ := info_parts cloneB_info
  have hb1 := Lib.hid (fun h : 0 < la => World.block_lt_of_cell? w _ (hcA 0 h))
  have HA := Lib.hid hcA
  have HLA := Lib.hid hA
  clear hcA hA
  have hb2 := Lib.hid (fun h : 0 < lb => World.block_lt_of_cell? w _ (hcB 0 h))
  have HB := Lib.hid hcB
  have HLB := Lib.hid hB
  clear hcB hB
  go_enter Try.func32, Try.ntmps32
  go_wp2_with (at_make; refine wpList_make_own _ rfl _ _ 22 rfl w.heap.size 5 i0 (.int .u8 0) 1 Try.underlying22 hi hz0 hz1 .i64 .i64 _ (la + lb) rfl rfl (by first | rfl | (simp; done) | omega) (by rw [hz2]; omega) (by unfold maxLen; omega) (Nat.le_refl _) ?_; intro w1 hown hgrow)
  have hB : Below w.heap.size w w1 := (Below.refl _ _).grown hgrow (Nat.le_refl _) (by simp)
  clear hgrow
  go_loopw [7, 8] (fun o i wr => ∃ k : Nat, k ≤ la ∧ i = .int .i64 k ∧ o = (.slice (some ⟨w.heap.size, 0, none⟩) (k) (la + lb)) ∧ wr.ownsRow w.heap.size 5 1 (.slice (some ⟨w.heap.size, 0, none⟩) (k) (la + lb)) (k) ((A.take k).map (Value.int .u8)) ∧ Below w.heap.size w wr) (fun _ i _ => la - (intOf i).toNat)
  case atStart => exact ⟨0, Nat.zero_le _, rfl, by first | rfl | simp, by simpa using hown, hB⟩
  case round =>
    clear hown hB
    obtain ⟨k, hk, rfl, rfl, hown, hB⟩ := hrel
    by_cases hlt : k < la
    · have g1 : wr.cell? ⟨b1, o1 + k, none⟩ = some (.int .u8 (A[k]?.getD 0)) := (hB.cell (by exact hb1.out (by omega))).trans (HA.out k hlt)
      have E1 := Lib.hid (take_map_snoc A k (by rw [HLA.out]; exact hlt))
      obtain ⟨x, hx⟩ : ∃ x, x = A[k]?.getD 0 := ⟨_, rfl⟩
      rw [← hx] at g1 E1
      clear hx
      have OO := Lib.hid hown
      have BB := Lib.hid hB
      clear hown hB
      go_wp2_with (at_builtin; refine wpList_append_fits _ rfl _ _ 22 rfl w.heap.size 5 i0 1 Try.underlying22 hi hz1 w.heap.size (k) (la + lb) _ rfl (OO.out.alloc _) ⟨wr.heap.size, 0, none⟩ 1 1 [.int .u8 x] rfl rfl (cell_one_new _ _ _) (ints_oneCell .u8 [x]) (by omega) ?_; intro w4 hown4 hgrow4)
      go_roundw
      case rel =>
        refine ⟨k + 1, by omega, by go_num, by first | rfl | (simp; omega), ?_, (BB.out.alloc BB.out.size _).grown hgrow4 (by have := BB.out.size; simp; omega) (fun j hj => by cases hj; exact Nat.le_refl _)⟩
        rw [E1.out]
        first | exact hown4 | (rw [← List.append_assoc]; exact hown4)
      case measure => simp [intOf]; omega
    · obtain rfl : la = k := by omega
      clear hk hlt
      obtain ⟨W1, rfl⟩ : ∃ W1 : World, W1 = wr := ⟨_, rfl⟩
      go_wp2
      go_loopw [7, 9] (fun o i wr => ∃ k : Nat, k ≤ lb ∧ i = .int .i64 k ∧ o = (.slice (some ⟨w.heap.size, 0, none⟩) (la + k) (la + lb)) ∧ wr.ownsRow w.heap.size 5 1 (.slice (some ⟨w.heap.size, 0, none⟩) (la + k) (la + lb)) (la + k) ((A.take la).map (Value.int .u8) ++ (B.take k).map (Value.int .u8)) ∧ Below w.heap.size w wr) (fun _ i _ => lb - (intOf i).toNat)
      case atStart => exact ⟨0, Nat.zero_le _, rfl, by first | rfl | simp, by simpa using hown, hB⟩
      case round =>
        clear hown hB
        obtain ⟨k, hk, rfl, rfl, hown, hB⟩ := hrel
        by_cases hlt : k < lb
        · have g1 : wr.cell? ⟨b2, o2 + k, none⟩ = some (.int .u8 (B[k]?.getD 0)) := (hB.cell (by exact hb2.out (by omega))).trans (HB.out k hlt)
          have E1 := Lib.hid (take_map_snoc B k (by rw [HLB.out]; exact hlt))
          obtain ⟨x, hx⟩ : ∃ x, x = B[k]?.getD 0 := ⟨_, rfl⟩
          rw [← hx] at g1 E1
          clear hx
          have OO := Lib.hid hown
          have BB := Lib.hid hB
          clear hown hB
          go_wp2_with (at_builtin; refine wpList_append_fits _ rfl _ _ 22 rfl w.heap.size 5 i0 1 Try.underlying22 hi hz1 w.heap.size (la + k) (la + lb) _ rfl (OO.out.alloc _) ⟨wr.heap.size, 0, none⟩ 1 1 [.int .u8 x] rfl rfl (cell_one_new _ _ _) (ints_oneCell .u8 [x]) (by omega) ?_; intro w4 hown4 hgrow4)
          go_roundw
          case rel =>
            refine ⟨k + 1, by omega, by go_num, by first | rfl | (simp; omega), ?_, (BB.out.alloc BB.out.size _).grown hgrow4 (by have := BB.out.size; simp; omega) (fun j hj => by cases hj; exact Nat.le_refl _)⟩
            rw [E1.out]
            first | exact hown4 | (rw [← List.append_assoc]; exact hown4)
          case measure => simp [intOf]; omega
        · obtain rfl : lb = k := by omega
          clear hk hlt
          obtain ⟨W2, rfl⟩ : ∃ W2 : World, W2 = wr := ⟨_, rfl⟩
          go_wp2
          refine wp_loop_rounds 1 ?_
          rw [rounds_succ]
          go_wp2
          go_ret
          have eA : A.take la = A := by first | (rw [HLA.out]; rfl) | (rw [← HLA.out]; simp)
          have eB : B.take lb = B := by first | (rw [HLB.out]; rfl) | (rw [← HLB.out]; simp)
          rw [eA, eB, ← List.map_append] at hown
          exact ⟨rfl, hown, hB⟩
set_option maxHeartbeats 1000000 in
theorem join_some_nil (A B : List Int) (w : World) (b1 o1 la ca : Nat) (hA : A.length = la) (hla : la ≤ 65536) (hcA : ∀ i, i < la → w.cell? ⟨b1, o1 + i, none⟩ = some (.int .u8 (A[i]?.getD 0))) (hB : B = []) :
    Calls Try.prog 32 #[.slice (some ⟨b1, o1, none⟩) la ca, .slice none 0 0, .slice none 0 0] w fun e w' => e = .returned (.slice (some ⟨w.heap.size, 0, none⟩) (la + 0) (la + 0)) ∧ w'.ownsRow w.heap.size 5 1 (.slice (some ⟨w.heap.size, 0, none⟩) (la + 0) (la + 0)) (la + 0) ((A ++ B).map (Value.int .u8)) ∧ Below w.heap.size w w' := by
  obtain ⟨i0, hi, hz0, hz1, hz2⟩ := info_parts cloneB_info
  have hb1 := Lib.hid (fun h : 0 < la => World.block_lt_of_cell? w _ (hcA 0 h))
  have HA := Lib.hid hcA
  have HLA := Lib.hid hA
  clear hcA hA
  have HLB := Lib.hid hB
  clear hB
  go_enter Try.func32, Try.ntmps32
  go_wp2_with (at_make; refine wpList_make_own _ rfl _ _ 22 rfl w.heap.size 5 i0 (.int .u8 0) 1 Try.underlying22 hi hz0 hz1 .i64 .i64 _ (la + 0) rfl rfl (by first | rfl | (simp; done) | omega) (by rw [hz2]; omega) (by unfold maxLen; omega) (Nat.le_refl _) ?_; intro w1 hown hgrow)
  have hB : Below w.heap.size w w1 := (Below.refl _ _).grown hgrow (Nat.le_refl _) (by simp)
  clear hgrow
  go_loopw [7, 8] (fun o i wr => ∃ k : Nat, k ≤ la ∧ i = .int .i64 k ∧ o = (.slice (some ⟨w.heap.size, 0, none⟩) (k) (la + 0)) ∧ wr.ownsRow w.heap.size 5 1 (.slice (some ⟨w.heap.size, 0, none⟩) (k) (la + 0)) (k) ((A.take k).map (Value.int .u8)) ∧ Below w.heap.size w wr) (fun _ i _ => la - (intOf i).toNat)
  case atStart => exact ⟨0, Nat.zero_le _, rfl, by first | rfl | simp, by simpa using hown, hB⟩
  case round =>
    clear hown hB
    obtain ⟨k, hk, rfl, rfl, hown, hB⟩ := hrel
    by_cases hlt : k < la
    · have g1 : wr.cell? ⟨b1, o1 + k, none⟩ = some (.int .u8 (A[k]?.getD 0)) := (hB.cell (by exact hb1.out (by omega))).trans (HA.out k hlt)
      have E1 := Lib.hid (take_map_snoc A k (by rw [HLA.out]; exact hlt))
      obtain ⟨x, hx⟩ : ∃ x, x = A[k]?.getD 0 := ⟨_, rfl⟩
      rw [← hx] at g1 E1
      clear hx
      have OO := Lib.hid hown
      have BB := Lib.hid hB
      clear hown hB
      go_wp2_with (at_builtin; refine wpList_append_fits _ rfl _ _ 22 rfl w.heap.size 5 i0 1 Try.underlying22 hi hz1 w.heap.size (k) (la + 0) _ rfl (OO.out.alloc _) ⟨wr.heap.size, 0, none⟩ 1 1 [.int .u8 x] rfl rfl (cell_one_new _ _ _) (ints_oneCell .u8 [x]) (by omega) ?_; intro w4 hown4 hgrow4)
      go_roundw
      case rel =>
        refine ⟨k + 1, by omega, by go_num, by first | rfl | (simp; omega), ?_, (BB.out.alloc BB.out.size _).grown hgrow4 (by have := BB.out.size; simp; omega) (fun j hj => by cases hj; exact Nat.le_refl _)⟩
        rw [E1.out]
        first | exact hown4 | (rw [← List.append_assoc]; exact hown4)
      case measure => simp [intOf]; omega
    · obtain rfl : la = k := by omega
      clear hk hlt
      obtain ⟨W1, rfl⟩ : ∃ W1 : World, W1 = wr := ⟨_, rfl⟩
      go_wp2
      go_loopw [7, 9] (fun o i wr => ∃ k : Nat, k ≤ 0 ∧ i = .int .i64 k ∧ o = (.slice (some ⟨w.heap.size, 0, none⟩) (la + k) (la + 0)) ∧ wr.ownsRow w.heap.size 5 1 (.slice (some ⟨w.heap.size, 0, none⟩) (la + k) (la + 0)) (la + k) ((A.take la).map (Value.int .u8) ++ (B.take k).map (Value.int .u8)) ∧ Below w.heap.size w wr) (fun _ i _ => 0 - (intOf i).toNat)
      case atStart => exact ⟨0, Nat.zero_le _, rfl, by first | rfl | simp, by simpa using hown, hB⟩
      case round =>
        clear hown hB
        obtain ⟨k, hk, rfl, rfl, hown, hB⟩ := hrel
        by_cases hlt : k < 0
        · omega
        · obtain rfl : k = 0 := by omega
          clear hk hlt
          try rw [show ((0 : Nat) : Int) = 0 from rfl]
          obtain ⟨W2, rfl⟩ : ∃ W2 : World, W2 = wr := ⟨_, rfl⟩
          go_wp2
          refine wp_loop_rounds 1 ?_
          rw [rounds_succ]
          go_wp2
          go_ret
          have eA : A.take la = A := by first | (rw [HLA.out]; rfl) | (rw [← HLA.out]; simp)
          have eB : B.take 0 = B := by first | (rw [HLB.out]; rfl) | (rw [← HLB.out]; simp)
          rw [eA, eB, ← List.map_append] at hown
          exact ⟨rfl, hown, hB⟩
set_option maxHeartbeats 1000000 in
theorem join_nil_some (A B : List Int) (w : World) (hA : A = []) (b2 o2 lb cb : Nat) (hB : B.length = lb) (hlb : lb ≤ 4) (hcB : ∀ i, i < lb → w.cell? ⟨b2, o2 + i, none⟩ = some (.int .u8 (B[i]?.getD 0))) :
    Calls Try.prog 32 #[.slice none 0 0, .slice (some ⟨b2, o2, none⟩) lb cb, .slice none 0 0] w fun e w' => e = .returned (.slice (some ⟨w.heap.size, 0, none⟩) (lb) (lb)) ∧ w'.ownsRow w.heap.size 5 1 (.slice (some ⟨w.heap.size, 0, none⟩) (lb) (lb)) (lb) ((A ++ B).map (Value.int .u8)) ∧ Below w.heap.size w w' := by
  obtain ⟨i0, hi, hz0, hz1, hz2⟩ := info_parts cloneB_info
  have HLA := Lib.hid hA
  clear hA
  have hb2 := Lib.hid (fun h : 0 < lb => World.block_lt_of_cell? w _ (hcB 0 h))
  have HB := Lib.hid hcB
  have HLB := Lib.hid hB
  clear hcB hB
  go_enter Try.func32, Try.ntmps32
  go_wp2_with (at_make; refine wpList_make_own _ rfl _ _ 22 rfl w.heap.size 5 i0 (.int .u8 0) 1 Try.underlying22 hi hz0 hz1 .i64 .i64 _ (lb) rfl rfl (by first | rfl | (simp; done) | omega) (by rw [hz2]; omega) (by unfold maxLen; omega) (Nat.le_refl _) ?_; intro w1 hown hgrow)
  have hB : Below w.heap.size w w1 := (Below.refl _ _).grown hgrow (Nat.le_refl _) (by simp)
  clear hgrow
  go_loopw [7, 8] (fun o i wr => ∃ k : Nat, k ≤ 0 ∧ i = .int .i64 k ∧ o = (.slice (some ⟨w.heap.size, 0, none⟩) (k) (lb)) ∧ wr.ownsRow w.heap.size 5 1 (.slice (some ⟨w.heap.size, 0, none⟩) (k) (lb)) (k) ((A.take k).map (Value.int .u8)) ∧ Below w.heap.size w wr) (fun _ i _ => 0 - (intOf i).toNat)
  case atStart => exact ⟨0, Nat.zero_le _, rfl, by first | rfl | simp, by simpa using hown, hB⟩
  case round =>
    clear hown hB
    obtain ⟨k, hk, rfl, rfl, hown, hB⟩ := hrel
    by_cases hlt : k < 0
    · omega
    · obtain rfl : k = 0 := by omega
      clear hk hlt
      try rw [show ((0 : Nat) : Int) = 0 from rfl]
      obtain ⟨W1, rfl⟩ : ∃ W1 : World, W1 = wr := ⟨_, rfl⟩
      go_wp2
      go_loopw [7, 9] (fun o i wr => ∃ k : Nat, k ≤ lb ∧ i = .int .i64 k ∧ o = (.slice (some ⟨w.heap.size, 0, none⟩) (k) (lb)) ∧ wr.ownsRow w.heap.size 5 1 (.slice (some ⟨w.heap.size, 0, none⟩) (k) (lb)) (k) ((B.take k).map (Value.int .u8)) ∧ Below w.heap.size w wr) (fun _ i _ => lb - (intOf i).toNat)
      case atStart => exact ⟨0, Nat.zero_le _, rfl, by first | rfl | simp, by simpa using hown, hB⟩
      case round =>
        clear hown hB
        obtain ⟨k, hk, rfl, rfl, hown, hB⟩ := hrel
        by_cases hlt : k < lb
        · have g1 : wr.cell? ⟨b2, o2 + k, none⟩ = some (.int .u8 (B[k]?.getD 0)) := (hB.cell (by exact hb2.out (by omega))).trans (HB.out k hlt)
          have E1 := Lib.hid (take_map_snoc B k (by rw [HLB.out]; exact hlt))
          obtain ⟨x, hx⟩ : ∃ x, x = B[k]?.getD 0 := ⟨_, rfl⟩
          rw [← hx] at g1 E1
          clear hx
          have OO := Lib.hid hown
          have BB := Lib.hid hB
          clear hown hB
          go_wp2_with (at_builtin; refine wpList_append_fits _ rfl _ _ 22 rfl w.heap.size 5 i0 1 Try.underlying22 hi hz1 w.heap.size (k) (lb) _ rfl (OO.out.alloc _) ⟨wr.heap.size, 0, none⟩ 1 1 [.int .u8 x] rfl rfl (cell_one_new _ _ _) (ints_oneCell .u8 [x]) (by omega) ?_; intro w4 hown4 hgrow4)
          go_roundw
          case rel =>
            refine ⟨k + 1, by omega, by go_num, by first | rfl | (simp; omega), ?_, (BB.out.alloc BB.out.size _).grown hgrow4 (by have := BB.out.size; simp; omega) (fun j hj => by cases hj; exact Nat.le_refl _)⟩
            rw [E1.out]
            first | exact hown4 | (rw [← List.append_assoc]; exact hown4)
          case measure => simp [intOf]; omega
        · obtain rfl : lb = k := by omega
          clear hk hlt
          obtain ⟨W2, rfl⟩ : ∃ W2 : World, W2 = wr := ⟨_, rfl⟩
          go_wp2
          refine wp_loop_rounds 1 ?_
          rw [rounds_succ]
          go_wp2
          go_ret
          have eA : A.take 0 = A := by first | (rw [HLA.out]; rfl) | (rw [← HLA.out]; simp)
          have eB : B.take lb = B := by first | (rw [HLB.out]; rfl) | (rw [← HLB.out]; simp)
          rw [eB] at hown
          rw [HLA.out, List.nil_append]
          exact ⟨rfl, hown, hB⟩
set_option maxHeartbeats 1000000 in
theorem join_nil_nil (A B : List Int) (w : World) (hA : A = []) (hB : B = []) :
    Calls Try.prog 32 #[.slice none 0 0, .slice none 0 0, .slice none 0 0] w fun e w' => e = .returned (.slice (some ⟨w.heap.size, 0, none⟩) (0) (0)) ∧ w'.ownsRow w.heap.size 5 1 (.slice (some ⟨w.heap.size, 0, none⟩) (0) (0)) (0) ((A ++ B).map (Value.int .u8)) ∧ Below w.heap.size w w' := by
  obtain ⟨i0, hi, hz0, hz1, hz2⟩ := info_parts cloneB_info
  have HLA := Lib.hid hA
  clear hA
  have HLB := Lib.hid hB
  clear hB
  go_enter Try.func32, Try.ntmps32
  go_wp2_with (at_make; refine wpList_make_own _ rfl _ _ 22 rfl w.heap.size 5 i0 (.int .u8 0) 1 Try.underlying22 hi hz0 hz1 .i64 .i64 _ (0) rfl rfl (by first | rfl | (simp; done) | omega) (by rw [hz2]; omega) (by unfold maxLen; omega) (Nat.le_refl _) ?_; intro w1 hown hgrow)
  have hB : Below w.heap.size w w1 := (Below.refl _ _).grown hgrow (Nat.le_refl _) (by simp)
  clear hgrow
  go_loopw [7, 8] (fun o i wr => ∃ k : Nat, k ≤ 0 ∧ i = .int .i64 k ∧ o = (.slice (some ⟨w.heap.size, 0, none⟩) (k) (0)) ∧ wr.ownsRow w.heap.size 5 1 (.slice (some ⟨w.heap.size, 0, none⟩) (k) (0)) (k) ((A.take k).map (Value.int .u8)) ∧ Below w.heap.size w wr) (fun _ i _ => 0 - (intOf i).toNat)
  case atStart => exact ⟨0, Nat.zero_le _, rfl, by first | rfl | simp, by simpa using hown, hB⟩
  case round =>
    clear hown hB
    obtain ⟨k, hk, rfl, rfl, hown, hB⟩ := hrel
    by_cases hlt : k < 0
    · omega
    · obtain rfl : k = 0 := by omega
      clear hk hlt
      try rw [show ((0 : Nat) : Int) = 0 from rfl]
      obtain ⟨W1, rfl⟩ : ∃ W1 : World, W1 = wr := ⟨_, rfl⟩
      go_wp2
      go_loopw [7, 9] (fun o i wr => ∃ k : Nat, k ≤ 0 ∧ i = .int .i64 k ∧ o = (.slice (some ⟨w.heap.size, 0, none⟩) (k) (0)) ∧ wr.ownsRow w.heap.size 5 1 (.slice (some ⟨w.heap.size, 0, none⟩) (k) (0)) (k) ((B.take k).map (Value.int .u8)) ∧ Below w.heap.size w wr) (fun _ i _ => 0 - (intOf i).toNat)
      case atStart => exact ⟨0, Nat.zero_le _, rfl, by first | rfl | simp, by simpa using hown, hB⟩
      case round =>
        clear hown hB
        obtain ⟨k, hk, rfl, rfl, hown, hB⟩ := hrel
        by_cases hlt : k < 0
        · omega
        · obtain rfl : k = 0 := by omega
          clear hk hlt
          try rw [show ((0 : Nat) : Int) = 0 from rfl]
          obtain ⟨W2, rfl⟩ : ∃ W2 : World, W2 = wr := ⟨_, rfl⟩
          go_wp2
          refine wp_loop_rounds 1 ?_
          rw [rounds_succ]
          go_wp2
          go_ret
          have eA : A.take 0 = A := by first | (rw [HLA.out]; rfl) | (rw [← HLA.out]; simp)
          have eB : B.take 0 = B := by first | (rw [HLB.out]; rfl) | (rw [← HLB.out]; simp)
          rw [eB] at hown
          rw [HLA.out, List.nil_append]
          exact ⟨rfl, hown, hB⟩
end Go.Proofs.Ytjpimejjbiemgaa
