/- Contracts for the law FnCaseItemPosIgnoresRest: the two clones and the least of three numbers. -/
import Derived.Test.YtjpodhmjmohblaaItem1
namespace Go.Proofs.Ytjpodhmjmohblaa
open Go.RowKit
set_option linter.unusedVariables false

def Upto (xs : List Value) (k : Nat) (f : Nat → Value) : Prop := ∀ i, i < k → xs[i]? = some (f i)
theorem Upto.put {xs : List Value} {k : Nat} {f : Nat → Value} (h : Upto xs k f) (hk : k < xs.length) : Upto (xs.set k (f k)) (k + 1) f := fun i hi => by
  by_cases e : i = k
  · subst e; rw [List.getElem?_set_self (by omega)]
  · rw [List.getElem?_set_ne (by omega)]; exact h i (by omega)
theorem cloneU_info : (Try.prog.info? 22).map (fun i => (i.zero, i.size, i.bytes)) = some (some (.int .u32 0), 1, 4) := by kernel_rfl
set_option maxHeartbeats 400000 in
theorem cloneU (b off len cap : Nat) (zs : Nat → Int) (w : World) (h0 : 0 < len) (hlen : len ≤ 4096) (hc : ∀ i, i < len → w.cell? ⟨b, off + i, none⟩ = some (.int .u32 (zs i))) :
    Calls Try.prog 68 #[.slice (some ⟨b, off, none⟩) len cap] w fun e w' => e = .returned (.slice (some ⟨w.heap.size, 0, none⟩) len len) ∧ Below w.heap.size w w' ∧ ∀ i, i < len → w'.cell? ⟨w.heap.size, i, none⟩ = some (.int .u32 (zs i)) := by
  obtain ⟨i0, hi, hz0, hz1, hz2⟩ := info_parts cloneU_info
  have hlt : b < w.heap.size := World.block_lt_of_cell? w _ (hc 0 h0)
  have HC := Lib.hid hc
  clear hc
  have hn := fun wx : World => Lib.run_eql_slice_nil (P := Try.prog) wx 104 22 (some ⟨b, off, none⟩) len cap 0 0 Try.underlying104
  go_enter Try.func68, Try.ntmps68
  go_wp2_with (at_make; refine wpList_make_full _ rfl _ _ 104 rfl w.heap.size 22 i0 (.int .u32 0) 1 Try.underlying104 hi hz0 hz1 .i64 .i64 _ _ len rfl rfl rfl rfl ?_ ?_ ?_ ?_)
  · rw [hz2]; omega
  · unfold maxLen; omega
  · exact Nat.le_refl _
  intro w1 hown hgrow
  have hB : Below w.heap.size w w1 := (Below.refl _ _).grown hgrow (Nat.le_refl _) (by simp)
  clear hgrow hn
  go_wp2
  go_loopw [4] (fun i wr => ∃ (k : Nat) (xs : List Value), k ≤ len ∧ i = .int .i64 k ∧ wr.ownsRow w.heap.size 22 1 (.slice (some ⟨w.heap.size, 0, none⟩) len len) len xs ∧ Below w.heap.size w wr ∧ Upto xs k (fun i => .int .u32 (zs i))) (fun i _ => len - (intOf i).toNat)
  case atStart => exact ⟨0, _, Nat.zero_le _, rfl, hown, hB, fun i hi => absurd hi (by omega)⟩
  case round =>
    clear hown hB
    obtain ⟨k, xs, hk, rfl, hown, hB, hU⟩ := hrel
    by_cases hlt2 : k < len
    · have g1 : wr.cell? ⟨b, off + k, none⟩ = some (.int .u32 (zs k)) := (hB.cell (by exact hlt)).trans (HC.out k hlt2)
      have hxl : xs.length = len := by have := hown.1; omega
      have g2 : ∃ u, wr.cell? ⟨w.heap.size, k, none⟩ = some u := by
        rw [hown.cellAt k (by omega)]
        exact ⟨xs[k]'(by omega), List.getElem?_eq_getElem _⟩
      obtain ⟨u, g2⟩ := g2
      have g3 := hown.frozenAt k
      have R1 := Lib.hid (hown.stored k (.int .u32 (zs k)))
      have R2 := Lib.hid (hB.setCell (p := ⟨w.heap.size, k, none⟩) (Nat.le_refl _) (.int .u32 (zs k)))
      have R3 := Lib.hid (hU.put (by omega))
      clear hown hB hU hxl
      go_wp2
      go_roundw
      case rel => exact ⟨k + 1, _, by omega, by go_num, R1.out.1, R2.out, R3.out⟩
      case measure => simp [intOf]; omega
    · go_wp2
      go_ret
      obtain rfl : k = len := by omega
      exact ⟨rfl, hB, fun i hi => by rw [hown.cellAt i (by omega)]; exact hU i hi⟩
theorem cloneO_info : (Try.prog.info? 4).map (fun i => (i.zero, i.size, i.bytes)) = some (some (.bool false), 1, 1) := by kernel_rfl
set_option maxHeartbeats 400000 in
theorem cloneO (b off len cap : Nat) (zs : Nat → Bool) (w : World) (h0 : 0 < len) (hlen : len ≤ 4096) (hc : ∀ i, i < len → w.cell? ⟨b, off + i, none⟩ = some (.bool (zs i))) :
    Calls Try.prog 69 #[.slice (some ⟨b, off, none⟩) len cap] w fun e w' => e = .returned (.slice (some ⟨w.heap.size, 0, none⟩) len len) ∧ Below w.heap.size w w' ∧ ∀ i, i < len → w'.cell? ⟨w.heap.size, i, none⟩ = some (.bool (zs i)) := by
  obtain ⟨i0, hi, hz0, hz1, hz2⟩ := info_parts cloneO_info
  have hlt : b < w.heap.size := World.block_lt_of_cell? w _ (hc 0 h0)
  have HC := Lib.hid hc
  clear hc
  have hn := fun wx : World => Lib.run_eql_slice_nil (P := Try.prog) wx 105 4 (some ⟨b, off, none⟩) len cap 0 0 Try.underlying105
  go_enter Try.func69, Try.ntmps69
  go_wp2_with (at_make; refine wpList_make_full _ rfl _ _ 105 rfl w.heap.size 4 i0 (.bool false) 1 Try.underlying105 hi hz0 hz1 .i64 .i64 _ _ len rfl rfl rfl rfl ?_ ?_ ?_ ?_)
  · rw [hz2]; omega
  · unfold maxLen; omega
  · exact Nat.le_refl _
  intro w1 hown hgrow
  have hB : Below w.heap.size w w1 := (Below.refl _ _).grown hgrow (Nat.le_refl _) (by simp)
  clear hgrow hn
  go_wp2
  go_loopw [4] (fun i wr => ∃ (k : Nat) (xs : List Value), k ≤ len ∧ i = .int .i64 k ∧ wr.ownsRow w.heap.size 4 1 (.slice (some ⟨w.heap.size, 0, none⟩) len len) len xs ∧ Below w.heap.size w wr ∧ Upto xs k (fun i => .bool (zs i))) (fun i _ => len - (intOf i).toNat)
  case atStart => exact ⟨0, _, Nat.zero_le _, rfl, hown, hB, fun i hi => absurd hi (by omega)⟩
  case round =>
    clear hown hB
    obtain ⟨k, xs, hk, rfl, hown, hB, hU⟩ := hrel
    by_cases hlt2 : k < len
    · have g1 : wr.cell? ⟨b, off + k, none⟩ = some (.bool (zs k)) := (hB.cell (by exact hlt)).trans (HC.out k hlt2)
      have hxl : xs.length = len := by have := hown.1; omega
      have g2 : ∃ u, wr.cell? ⟨w.heap.size, k, none⟩ = some u := by
        rw [hown.cellAt k (by omega)]
        exact ⟨xs[k]'(by omega), List.getElem?_eq_getElem _⟩
      obtain ⟨u, g2⟩ := g2
      have g3 := hown.frozenAt k
      have R1 := Lib.hid (hown.stored k (.bool (zs k)))
      have R2 := Lib.hid (hB.setCell (p := ⟨w.heap.size, k, none⟩) (Nat.le_refl _) (.bool (zs k)))
      have R3 := Lib.hid (hU.put (by omega))
      clear hown hB hU hxl
      go_wp2
      go_roundw
      case rel => exact ⟨k + 1, _, by omega, by go_num, R1.out.1, R2.out, R3.out⟩
      case measure => simp [intOf]; omega
    · go_wp2
      go_ret
      obtain rfl : k = len := by omega
      exact ⟨rfl, hB, fun i hi => by rw [hown.cellAt i (by omega)]; exact hU i hi⟩
theorem min3 (a b c : Nat) (w : World) : Calls Try.prog 67 #[.int .i64 a, .int .i64 b, .int .i64 c] w fun e w' => e = .returned (.int .i64 ((min (min a b) c : Nat) : Int)) ∧ w = w' := by
  rcases Nat.lt_or_ge b a with h1 | h1 <;> rcases Nat.lt_or_ge c (min a b) with h2 | h2
  · have M := Lib.hid (show min (min a b) c = c by omega)
    have h3 : c < b := by omega
    clear h2
    go_enter Try.func67, Try.ntmps67
    go_wp2
    go_ret
    exact ⟨ret_int (by rw [M.out]), rfl⟩
  · have M := Lib.hid (show min (min a b) c = b by omega)
    have h3 : ¬ c < b := by omega
    clear h2
    go_enter Try.func67, Try.ntmps67
    go_wp2
    go_ret
    exact ⟨ret_int (by rw [M.out]), rfl⟩
  · have M := Lib.hid (show min (min a b) c = c by omega)
    have h3 : c < a := by omega
    have h4 : ¬ b < a := by omega
    clear h2 h1
    go_enter Try.func67, Try.ntmps67
    go_wp2
    go_ret
    exact ⟨ret_int (by rw [M.out]), rfl⟩
  · have M := Lib.hid (show min (min a b) c = a by omega)
    have h3 : ¬ c < a := by omega
    have h4 : ¬ b < a := by omega
    clear h2 h1
    go_enter Try.func67, Try.ntmps67
    go_wp2
    go_ret
    exact ⟨ret_int (by rw [M.out]), rfl⟩
theorem bytes_ok (a b c : Option Addr) (la lb lc ca cb cc : Nat) (x y z k : Value) (w : World) (h1 : la ≤ 4096) (h2 : lb ≤ 4096) (h3 : lc ≤ 4096) :
    Calls Try.prog 66 #[.slice a la ca, .slice b lb cb, .slice c lc cc, x, y, z, k] w fun e w' => e = .returned (.bool true) ∧ w = w' := by
  go_enter Try.func66, Try.ntmps66
  go_wp2
  go_ret
  exact ⟨rfl, rfl⟩
end Go.Proofs.Ytjpodhmjmohblaa
