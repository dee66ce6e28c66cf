/- The clones of byte slices. -/
import Derived.Test.YtjhiglfihjehcaaFmtPos
import Derived.OwnWalk
import Derived.Laws.MakeOwn
namespace Go.Proofs.YtjhiglfihjehcaaFmt
open Go.RowKit
set_option linter.unusedVariables false
def part (k : IntKind) (zs : List Int) (len j : Nat) : List Value := (zs.take j).map (Value.int k) ++ List.replicate (len - j) (Value.int k 0)
theorem part_zero (k : IntKind) (zs : List Int) (len : Nat) : part k zs len 0 = List.replicate len (Value.int k 0) := by simp [part]
theorem part_full (k : IntKind) (zs : List Int) (len : Nat) : part k zs len len = (zs.take len).map (Value.int k) := by simp [part]
theorem part_len (k : IntKind) (zs : List Int) (len j : Nat) (h : len ≤ zs.length) (hj : j ≤ len) : (part k zs len j).length = len := by simp [part]; omega
theorem part_step (k : IntKind) (zs : List Int) (len j : Nat) (h : len ≤ zs.length) (hj : j < len) : (part k zs len j).set j (.int k (zs.getD j 0)) = part k zs len (j + 1) := by
  have hl : ((zs.take j).map (Value.int k)).length = j := by simp; omega
  unfold part
  rw [List.set_append_right _ _ (by omega), hl, Nat.sub_self, show len - j = (len - (j + 1)) + 1 by omega, List.replicate_succ, List.set_cons_zero]
  rw [List.take_succ_eq_append_getElem (by omega), List.map_append, List.append_assoc, List.getD_eq_getElem?_getD, List.getElem?_eq_getElem (show j < zs.length by omega)]
  rfl
theorem made_list (k : IntKind) (n : Nat) : (madeCells #[Value.int k 0] n).toList = List.replicate n (Value.int k 0) := by
  apply List.ext_getElem
  · simp [madeCells]
  · intro i h1 h2
    simp [madeCells, Nat.mod_one]
theorem clA_info : (Tryf.prog.info? 5).map (fun i => (i.zero, i.size, i.bytes)) = some (some (.int .u8 0), 1, 1) := by kernel_rfl
def clAPost (a : Option Addr) (len : Nat) (zs : List Int) (w : World) (e : Ending) (w' : World) : Prop :=
  ∃ v', e = .returned v' ∧ w'.ownsRow w.heap.size 5 1 v' len ((zs.take len).map (Value.int .u8)) ∧ Below w.heap.size w w' ∧ ((a = none ∧ v' = .slice none 0 0) ∨ (a ≠ none ∧ v' = .slice (some ⟨w.heap.size, 0, none⟩) len len))
theorem clA_nil (zs : List Int) (w : World) : Calls Tryf.prog 7 #[.slice none 0 0] w (clAPost none 0 zs w) := by
  have hn := fun wx : World => Lib.run_eql_slice_nil (P := Tryf.prog) wx 23 5 none 0 0 0 0 Tryf.underlying23
  go_enter Tryf.func7, Tryf.ntmps7
  go_wp2
  go_ret
  exact ⟨_, rfl, World.ownsRow_nil _ _ _ _, Below.refl _ _, .inl ⟨rfl, rfl⟩⟩
theorem clA_empty (x : Addr) (cap : Nat) (zs : List Int) (w : World) : Calls Tryf.prog 7 #[.slice (some x) 0 cap] w (clAPost (some x) 0 zs w) := by
  obtain ⟨i0, hi, hz0, hz1, hz2⟩ := info_parts clA_info
  have hn := fun wx : World => Lib.run_eql_slice_nil (P := Tryf.prog) wx 23 5 (some x) 0 cap 0 0 Tryf.underlying23
  go_enter Tryf.func7, Tryf.ntmps7
  go_wp2_with (at_make; refine wpList_make_full _ rfl _ _ 23 rfl w.heap.size 5 i0 (.int .u8 0) 1 Tryf.underlying23 hi hz0 hz1 .i64 .i64 _ _ 0 rfl rfl rfl rfl ?_ ?_ ?_ ?_)
  · rw [hz2]; omega
  · decide
  · exact Nat.le_refl _
  intro w1 hown hgrow
  have hB : Below w.heap.size w w1 := (Below.refl _ _).grown hgrow (Nat.le_refl _) (by simp)
  go_wp2
  refine wp_loop_rounds 1 ?_
  rw [rounds_succ]
  go_wp2
  go_ret
  exact ⟨_, rfl, by simpa [madeCells] using hown, hB, .inr ⟨by simp, rfl⟩⟩
set_option maxHeartbeats 400000 in
theorem clA_some (b off len cap : Nat) (zs : List Int) (w : World) (h0 : 0 < len) (hlen : len ≤ 1048576) (hz : len ≤ zs.length) (hc : ∀ i, i < len → w.cell? ⟨b, off + i, none⟩ = some (.int .u8 (zs.getD i 0))) :
    Calls Tryf.prog 7 #[.slice (some ⟨b, off, none⟩) len cap] w (clAPost (some ⟨b, off, none⟩) len zs w) := by
  obtain ⟨i0, hi, hz0, hz1, hz2⟩ := info_parts clA_info
  have hlt : b < w.heap.size := World.block_lt_of_cell? w _ (hc 0 h0)
  have HC := Lib.hid hc
  clear hc
  have hn := fun wx : World => Lib.run_eql_slice_nil (P := Tryf.prog) wx 23 5 (some ⟨b, off, none⟩) len cap 0 0 Tryf.underlying23
  go_enter Tryf.func7, Tryf.ntmps7
  go_wp2_with (at_make; refine wpList_make_full _ rfl _ _ 23 rfl w.heap.size 5 i0 (.int .u8 0) 1 Tryf.underlying23 hi hz0 hz1 .i64 .i64 _ _ len rfl rfl rfl rfl ?_ ?_ ?_ ?_)
  · rw [hz2]; omega
  · unfold maxLen; omega
  · exact Nat.le_refl _
  intro w1 hown hgrow
  rw [made_list, ← part_zero .u8 zs len] at hown
  have hB : Below w.heap.size w w1 := (Below.refl _ _).grown hgrow (Nat.le_refl _) (by simp)
  clear hgrow hn
  go_wp2
  go_loopw [4] (fun i wr => ∃ k : Nat, k ≤ len ∧ i = .int .i64 k ∧ wr.ownsRow w.heap.size 5 1 (.slice (some ⟨w.heap.size, 0, none⟩) len len) len (part .u8 zs len k) ∧ Below w.heap.size w wr) (fun i _ => len - (intOf i).toNat)
  case atStart => exact ⟨0, Nat.zero_le _, rfl, hown, hB⟩
  case round =>
    clear hown hB
    obtain ⟨k, hk, rfl, hown, hB⟩ := hrel
    by_cases hlt2 : k < len
    · have g1 : wr.cell? ⟨b, off + k, none⟩ = some (.int .u8 (zs.getD k 0)) := (hB.cell (by exact hlt)).trans (HC.out k hlt2)
      have g2 : ∃ u, wr.cell? ⟨w.heap.size, k, none⟩ = some u := by
        rw [hown.cellAt k (by omega)]
        have hp := part_len .u8 zs len k hz hk
        exact ⟨(part .u8 zs len k)[k]'(by omega), List.getElem?_eq_getElem _⟩
      obtain ⟨u, g2⟩ := g2
      have g3 := hown.frozenAt k
      have R1 := Lib.hid (hown.stored k (.int .u8 (zs.getD k 0)))
      have R2 := Lib.hid (hB.setCell (p := ⟨w.heap.size, k, none⟩) (Nat.le_refl _) (.int .u8 (zs.getD k 0)))
      clear hown hB
      go_wp2
      go_roundw
      case rel =>
        have r1 := R1.out
        have r2 := R2.out
        rw [part_step .u8 zs len k hz hlt2] at r1
        simp only [List.getD_eq_getElem?_getD] at r1 r2
        exact ⟨k + 1, by omega, by go_num, r1.1, r2⟩
      case measure => simp [intOf]; omega
    · go_wp2
      go_ret
      obtain rfl : k = len := by omega
      exact ⟨_, rfl, by rw [part_full] at hown; exact hown, hB, .inr ⟨by simp, rfl⟩⟩
theorem clB_info : (Tryf.prog.info? 5).map (fun i => (i.zero, i.size, i.bytes)) = some (some (.int .u8 0), 1, 1) := by kernel_rfl
def clBPost (a : Option Addr) (len : Nat) (zs : List Int) (w : World) (e : Ending) (w' : World) : Prop :=
  ∃ v', e = .returned v' ∧ w'.ownsRow w.heap.size 5 1 v' len ((zs.take len).map (Value.int .u8)) ∧ Below w.heap.size w w' ∧ ((a = none ∧ v' = .slice none 0 0) ∨ (a ≠ none ∧ v' = .slice (some ⟨w.heap.size, 0, none⟩) len len))
theorem clB_nil (zs : List Int) (w : World) : Calls Tryf.prog 14 #[.slice none 0 0] w (clBPost none 0 zs w) := by
  have hn := fun wx : World => Lib.run_eql_slice_nil (P := Tryf.prog) wx 23 5 none 0 0 0 0 Tryf.underlying23
  go_enter Tryf.func14, Tryf.ntmps14
  go_wp2
  go_ret
  exact ⟨_, rfl, World.ownsRow_nil _ _ _ _, Below.refl _ _, .inl ⟨rfl, rfl⟩⟩
theorem clB_empty (x : Addr) (cap : Nat) (zs : List Int) (w : World) : Calls Tryf.prog 14 #[.slice (some x) 0 cap] w (clBPost (some x) 0 zs w) := by
  obtain ⟨i0, hi, hz0, hz1, hz2⟩ := info_parts clB_info
  have hn := fun wx : World => Lib.run_eql_slice_nil (P := Tryf.prog) wx 23 5 (some x) 0 cap 0 0 Tryf.underlying23
  go_enter Tryf.func14, Tryf.ntmps14
  go_wp2_with (at_make; refine wpList_make_full _ rfl _ _ 23 rfl w.heap.size 5 i0 (.int .u8 0) 1 Tryf.underlying23 hi hz0 hz1 .i64 .i64 _ _ 0 rfl rfl rfl rfl ?_ ?_ ?_ ?_)
  · rw [hz2]; omega
  · decide
  · exact Nat.le_refl _
  intro w1 hown hgrow
  have hB : Below w.heap.size w w1 := (Below.refl _ _).grown hgrow (Nat.le_refl _) (by simp)
  go_wp2
  refine wp_loop_rounds 1 ?_
  rw [rounds_succ]
  go_wp2
  go_ret
  exact ⟨_, rfl, by simpa [madeCells] using hown, hB, .inr ⟨by simp, rfl⟩⟩
set_option maxHeartbeats 400000 in
theorem clB_some (b off len cap : Nat) (zs : List Int) (w : World) (h0 : 0 < len) (hlen : len ≤ 1048576) (hz : len ≤ zs.length) (hc : ∀ i, i < len → w.cell? ⟨b, off + i, none⟩ = some (.int .u8 (zs.getD i 0))) :
    Calls Tryf.prog 14 #[.slice (some ⟨b, off, none⟩) len cap] w (clBPost (some ⟨b, off, none⟩) len zs w) := by
  obtain ⟨i0, hi, hz0, hz1, hz2⟩ := info_parts clB_info
  have hlt : b < w.heap.size := World.block_lt_of_cell? w _ (hc 0 h0)
  have HC := Lib.hid hc
  clear hc
  have hn := fun wx : World => Lib.run_eql_slice_nil (P := Tryf.prog) wx 23 5 (some ⟨b, off, none⟩) len cap 0 0 Tryf.underlying23
  go_enter Tryf.func14, Tryf.ntmps14
  go_wp2_with (at_make; refine wpList_make_full _ rfl _ _ 23 rfl w.heap.size 5 i0 (.int .u8 0) 1 Tryf.underlying23 hi hz0 hz1 .i64 .i64 _ _ len rfl rfl rfl rfl ?_ ?_ ?_ ?_)
  · rw [hz2]; omega
  · unfold maxLen; omega
  · exact Nat.le_refl _
  intro w1 hown hgrow
  rw [made_list, ← part_zero .u8 zs len] at hown
  have hB : Below w.heap.size w w1 := (Below.refl _ _).grown hgrow (Nat.le_refl _) (by simp)
  clear hgrow hn
  go_wp2
  go_loopw [4] (fun i wr => ∃ k : Nat, k ≤ len ∧ i = .int .i64 k ∧ wr.ownsRow w.heap.size 5 1 (.slice (some ⟨w.heap.size, 0, none⟩) len len) len (part .u8 zs len k) ∧ Below w.heap.size w wr) (fun i _ => len - (intOf i).toNat)
  case atStart => exact ⟨0, Nat.zero_le _, rfl, hown, hB⟩
  case round =>
    clear hown hB
    obtain ⟨k, hk, rfl, hown, hB⟩ := hrel
    by_cases hlt2 : k < len
    · have g1 : wr.cell? ⟨b, off + k, none⟩ = some (.int .u8 (zs.getD k 0)) := (hB.cell (by exact hlt)).trans (HC.out k hlt2)
      have g2 : ∃ u, wr.cell? ⟨w.heap.size, k, none⟩ = some u := by
        rw [hown.cellAt k (by omega)]
        have hp := part_len .u8 zs len k hz hk
        exact ⟨(part .u8 zs len k)[k]'(by omega), List.getElem?_eq_getElem _⟩
      obtain ⟨u, g2⟩ := g2
      have g3 := hown.frozenAt k
      have R1 := Lib.hid (hown.stored k (.int .u8 (zs.getD k 0)))
      have R2 := Lib.hid (hB.setCell (p := ⟨w.heap.size, k, none⟩) (Nat.le_refl _) (.int .u8 (zs.getD k 0)))
      clear hown hB
      go_wp2
      go_roundw
      case rel =>
        have r1 := R1.out
        have r2 := R2.out
        rw [part_step .u8 zs len k hz hlt2] at r1
        simp only [List.getD_eq_getElem?_getD] at r1 r2
        exact ⟨k + 1, by omega, by go_num, r1.1, r2⟩
      case measure => simp [intOf]; omega
    · go_wp2
      go_ret
      obtain rfl : k = len := by omega
      exact ⟨_, rfl, by rw [part_full] at hown; exact hown, hB, .inr ⟨by simp, rfl⟩⟩

end Go.Proofs.YtjhiglfihjehcaaFmt
