/- The walk of the law FnIsLitRedirMatchesGrammar: it returns true at every input. -/
import Derived.Test.YtjpimejjbiemgaaRed3
namespace Go.Proofs.Ytjpimejjbiemgaa
open Go.RowKit
set_option linter.unusedVariables false
set_option maxHeartbeats 1000000 in
theorem rcall (b off n cap : Nat) (x : Nat → Int) (last l : Int) (bash : Bool) (w : World) (hn : 0 < n) (hm : n ≤ 65536) (hx : ∀ i, i < n → 0 ≤ x i ∧ x i ≤ 255) (hl : (bash = true ∧ (l = 1 ∨ l = 8)) ∨ (bash = false ∧ (l = 2 ∨ l = 4 ∨ l = 16)))
    (hc : ∀ i, i < n → w.cell? ⟨b, off + i, none⟩ = some (.int .u8 (x i))) :
    Calls Try.prog 17 #[.slice (some ⟨b, off, none⟩) n cap, .int .u8 last, .int .i64 l] w (RPost n x bash w) := by
  obtain ⟨i0, hi, hz0, hz1, hz2⟩ := info_parts cloneB_info
  have hb1 := Lib.hid (show b < w.heap.size from World.block_lt_of_cell? w _ (hc 0 hn))
  have HC := Lib.hid hc
  have HX := Lib.hid hx
  have HL := Lib.hid hl
  clear hc hx hl
  go_enter Try.func17, Try.ntmps17
  go_wp2_with (at_make; refine wpList_make_own _ rfl _ _ 22 rfl w.heap.size 5 i0 (.int .u8 0) 1 Try.underlying22 hi hz0 hz1 .i64 .i64 _ (n + 1) rfl rfl (by first | rfl | (simp; done) | omega) (by rw [hz2]; omega) (by unfold maxLen; omega) (Nat.le_refl _) ?_; intro w1 hown hgrow)
  have hB : Below w.heap.size w w1 := (Below.refl _ _).grown hgrow (Nat.le_refl _) (by simp)
  clear hgrow
  go_loopw [7, 8] (fun o i wr => ∃ k : Nat, k ≤ n ∧ i = .int .i64 k ∧ o = (.slice (some ⟨w.heap.size, 0, none⟩) k (n + 1)) ∧ wr.ownsRow w.heap.size 5 1 (.slice (some ⟨w.heap.size, 0, none⟩) k (n + 1)) k ((toL k x).map (Value.int .u8)) ∧ Below w.heap.size w wr) (fun _ i _ => n - (intOf i).toNat)
  case atStart => exact ⟨0, Nat.zero_le _, rfl, by first | rfl | simp, by simpa [toL] using hown, hB⟩
  case round =>
    clear hown hB
    obtain ⟨k, hk, rfl, rfl, hown, hB⟩ := hrel
    by_cases hlt : k < n
    · have g1 : wr.cell? ⟨b, off + k, none⟩ = some (.int .u8 (x k)) := (hB.cell (by exact hb1.out)).trans (HC.out k hlt)
      have E1 := Lib.hid (show (toL (k + 1) x).map (Value.int .u8) = (toL k x).map (Value.int .u8) ++ [.int .u8 (x k)] from by simp [toL, List.range_succ])
      have OO := Lib.hid hown
      have BB := Lib.hid hB
      clear hown hB
      go_wp2_with (at_builtin; refine wpList_append_fits _ rfl _ _ 22 rfl w.heap.size 5 i0 1 Try.underlying22 hi hz1 w.heap.size k (n + 1) _ rfl (OO.out.alloc _) ⟨wr.heap.size, 0, none⟩ 1 1 [.int .u8 (x k)] rfl rfl (cell_one_new _ _ _) (ints_oneCell .u8 [x k]) (by omega) ?_; intro w4 hown4 hgrow4)
      go_roundw
      case rel =>
        refine ⟨k + 1, by omega, by go_num, by first | rfl | (simp; omega), ?_, (BB.out.alloc BB.out.size _).grown hgrow4 (by have := BB.out.size; simp; omega) (fun j hj => by cases hj; exact Nat.le_refl _)⟩
        rw [E1.out]
        first | exact hown4 | (rw [← List.append_assoc]; exact hown4)
      case measure => simp [intOf]; omega
    · obtain rfl : n = k := by omega
      clear hk hlt
      obtain ⟨W1, rfl⟩ : ∃ W1 : World, W1 = wr := ⟨_, rfl⟩
      have OO := Lib.hid hown
      have BB := Lib.hid hB
      clear hown hB
      go_wp2_with (at_builtin; refine wpList_append_fits _ rfl _ _ 22 rfl w.heap.size 5 i0 1 Try.underlying22 hi hz1 w.heap.size n (n + 1) _ rfl (OO.out.alloc _) ⟨W1.heap.size, 0, none⟩ 1 1 [.int .u8 last] rfl rfl (cell_one_new _ _ _) (ints_oneCell .u8 [last]) (by omega) ?_; intro w4 hown4 hgrow4)
      have HB4 := (BB.out.alloc BB.out.size (.cells #[.int .u8 last] 5)).grown hgrow4 (by have := BB.out.size; simp; omega) (fun j hj => by cases hj; exact Nat.le_refl _)
      have hc4 : ∀ i, i < n → w4.cell? ⟨w.heap.size, 0 + i, none⟩ = some (.int .u8 (x i)) := fun i hi => by
        have h := hown4.cellAt i (by omega)
        rw [Nat.zero_add]
        refine h.trans ?_
        rw [List.getElem?_append_left (by simp [toL_len]; exact hi), List.getElem?_map, toL_get n x i hi]
        rfl
      have hlt4 := own_lt hown4
      have HC4 := Lib.hid hc4
      clear hc4 hown4 hgrow4 OO BB
      refine (newP _ _ _ _ _ _ _).mono ?_
      rintro e w5 ⟨rfl, hp, hB5⟩
      have HR := Lib.hid (red_call w4.heap.size w.heap.size 0 n (n + 1) l x bash w5 hn hm (Nat.le_refl _) (by omega) HX.out HL.out hp.h3 hp.h5 (fun i hi => (hB5.cell (by exact hlt4)).trans (HC4.out i hi)))
      have HB5 := HB4.trans (hB5.mono HB4.size)
      clear hp hB5 HC4 HB4
      go_wp2_with fail
      refine HR.out.mono ?_
      rintro e w6 ⟨r, rfl, hr, hb⟩
      have HR2 := Lib.hid hr
      have HB6 := HB5.trans (hb.mono HB5.size)
      clear hr hb HB5
      go_wp2
      go_ret
      exact ⟨r, rfl, HR2.out, HB6⟩
def Lng (k l : Int) (bash : Bool) : Prop := (k = 0 ∧ bash = true ∧ l = 1) ∨ (k = 1 ∧ bash = false ∧ l = 2) ∨ (k = 2 ∧ bash = false ∧ l = 4) ∨ (k = 3 ∧ bash = true ∧ l = 8) ∨ (k = 4 ∧ bash = false ∧ l = 16)
theorem lang_at (k l : Int) (bash : Bool) (h : Lng k l bash) (w : World) : Calls Try.prog 18 #[.int .i64 k] w fun e w' => e = .returned (.int .i64 l) ∧ w = w' := by
  rcases h with ⟨rfl, rfl, rfl⟩ | ⟨rfl, rfl, rfl⟩ | ⟨rfl, rfl, rfl⟩ | ⟨rfl, rfl, rfl⟩ | ⟨rfl, rfl, rfl⟩
  all_goals
    go_enter Try.func18, Try.ntmps18
    go_wp2
    go_ret
    exact ⟨rfl, rfl⟩
theorem Lng.is {k l : Int} {bash : Bool} (h : Lng k l bash) : (bash = true ∧ (l = 1 ∨ l = 8)) ∨ (bash = false ∧ (l = 2 ∨ l = 4 ∨ l = 16)) := by
  rcases h with ⟨rfl, rfl, rfl⟩ | ⟨rfl, rfl, rfl⟩ | ⟨rfl, rfl, rfl⟩ | ⟨rfl, rfl, rfl⟩ | ⟨rfl, rfl, rfl⟩ <;> simp
theorem zcl (b off n cap : Nat) (x : Nat → Int) (w : World) (hn : 0 < n) (hm : n ≤ 65536) (hc : ∀ i, i < n → w.cell? ⟨b, off + i, none⟩ = some (.int .u8 (x i))) :
    Calls Try.prog 16 #[.slice (some ⟨b, off, none⟩) n cap] w fun e w' => e = .returned (.slice (some ⟨w.heap.size, 0, none⟩) n n) ∧ Below w.heap.size w w' ∧ ∀ i, i < n → w'.cell? ⟨w.heap.size, 0 + i, none⟩ = some (.int .u8 (x i)) := by
  refine (cloneC_some b off n cap (toL n x) w hn (by omega) (by rw [toL_len]; exact Nat.le_refl _) (fun i hi => by rw [toL_getD n x i hi]; exact hc i hi)).mono ?_
  rintro e w' ⟨v', rfl, hown, hB, hv⟩
  obtain rfl : v' = .slice (some ⟨w.heap.size, 0, none⟩) n n := by simpa using hv
  refine ⟨rfl, hB, fun i hi => ?_⟩
  rw [Nat.zero_add, hown.cellAt i (by omega), List.getElem?_map, List.getElem?_take, if_pos hi, toL_get n x i hi]
  rfl
set_option maxHeartbeats 2000000 in
theorem red_in (b off n cap : Nat) (k l : Int) (bash : Bool) (x : Nat → Int) (last : Int) (w : World) (hn : 0 < n) (hm : n ≤ 65536) (hk : Lng k l bash) (hx : ∀ i, i < n → 0 ≤ x i ∧ x i ≤ 255) (hc : ∀ i, i < n → w.cell? ⟨b, off + i, none⟩ = some (.int .u8 (x i))) :
    Calls Try.prog 5 #[.slice (some ⟨b, off, none⟩) n cap, .int .u8 last, .int .i64 k] w fun e w' => e = .returned (.bool true) ∧ Below w.heap.size w w' := by
  have e0 : ((n : Int) == 0) = false := beq_eq_false_iff_ne.2 (by omega)
  have ZC := Lib.hid (zcl b off n cap x w hn hm hc)
  have RC := Lib.hid (fun (W : World) hc => rcall w.heap.size 0 n n x last l bash W hn hm hx hk.is hc)
  have MC := Lib.hid (fun (W : World) hc => mod_any w.heap.size 0 n n x bash W hn hm (Nat.le_refl _) (by omega) hc)
  have HLC := Lib.hid (lang_at k l bash hk)
  have e3 : decide ((65536 : Int) < (n : Int)) = false := by simp; omega
  have e4 : decide ((1048576 : Int) < (n : Int)) = false := by simp; omega
  clear hc hx
  rcases hk with ⟨rfl, rfl, rfl⟩ | ⟨rfl, rfl, rfl⟩ | ⟨rfl, rfl, rfl⟩ | ⟨rfl, rfl, rfl⟩ | ⟨rfl, rfl, rfl⟩
  all_goals
    go_enter Try.func5, Try.ntmps5
    go_wp2_with (go_at_call 15; go_in)
    refine ZC.out.mono ?_
    rintro e w1 ⟨rfl, hB1, hc1⟩
    have HC1 := Lib.hid hc1
    have hlt1 : w.heap.size < w1.heap.size := World.block_lt_of_cell? w1 _ (hc1 0 hn)
    clear hc1 ZC e0 e3 e4
    go_wp2_with fail
    refine (HLC.out _).mono ?_
    rintro e w2 ⟨rfl, rfl⟩
    go_wp2_with fail
    refine (RC.out w1 HC1.out).mono ?_
    rintro e w3 ⟨r, rfl, hr, hB3⟩
    have MA := Lib.hid (MC.out w3 (fun i hi => (hB3.cell (by exact hlt1)).trans (HC1.out i hi)))
    have HB := hB1.trans (hB3.mono hB1.size)
    have HR := Lib.hid hr
    clear hr hB3 hB1 HC1 HLC RC MC
    go_wp2_with fail
    refine MA.out.mono ?_
    rintro e w4 ⟨r2, rfl, hr2, rfl⟩
    obtain rfl : r = r2 := by
      have h1 := HR.out
      rw [← hr2] at h1
      cases r <;> cases r2 <;> simp_all
    clear HR hr2 MA
    cases r
    all_goals
      go_wp2
      go_ret
      exact ⟨rfl, HB⟩
theorem red_o1 (a : Option Addr) (len cap : Nat) (last k : Int) (w : World) (hm : len ≤ maxLen) (h : 65536 < len) :
    Calls Try.prog 5 #[.slice a len cap, .int .u8 last, .int .i64 k] w fun e w' => e = .returned (.bool true) ∧ Below w.heap.size w w' := by
  unfold maxLen at hm
  go_enter Try.func5, Try.ntmps5
  go_wp2_with (go_at_call 15; go_in)
  all_goals
    go_ret
    exact ⟨rfl, Below.refl _ _⟩
theorem red_o2 (a : Option Addr) (cap : Nat) (last k : Int) (w : World) :
    Calls Try.prog 5 #[.slice a 0 cap, .int .u8 last, .int .i64 k] w fun e w' => e = .returned (.bool true) ∧ Below w.heap.size w w' := by
  go_enter Try.func5, Try.ntmps5
  go_wp2_with (go_at_call 15; go_in)
  all_goals
    go_ret
    exact ⟨rfl, Below.refl _ _⟩
theorem red_o3 (a : Option Addr) (len cap : Nat) (last k : Int) (w : World) (h0 : 0 < len) (hm : len ≤ 65536) (h : k < 0 ∨ 4 < k) :
    Calls Try.prog 5 #[.slice a len cap, .int .u8 last, .int .i64 k] w fun e w' => e = .returned (.bool true) ∧ Below w.heap.size w w' := by
  have e0 : ((len : Int) == 0) = false := beq_eq_false_iff_ne.2 (by omega)
  rcases h with h | h
  · have e1 : decide (k < 0) = true := by simp; omega
    go_enter Try.func5, Try.ntmps5
    go_wp2_with (go_at_call 15; go_in)
    all_goals
      go_ret
      exact ⟨rfl, Below.refl _ _⟩
  · have e1 : decide (k < 0) = false := by simp; omega
    have e2 : decide (4 < k) = true := by simp; omega
    go_enter Try.func5, Try.ntmps5
    go_wp2_with (go_at_call 15; go_in)
    all_goals
      go_ret
      exact ⟨rfl, Below.refl _ _⟩
theorem red_law (a : Option Addr) (len cap : Nat) (zs : List Int) (last k : Int) (w : World) (h : IsRow' .u8 w a len cap zs) :
    Calls Try.prog 5 #[.slice a len cap, .int .u8 last, .int .i64 k] w fun e w' => e = .returned (.bool true) ∧ Below w.heap.size w w' := by
  by_cases h0 : len = 0
  · subst h0; exact red_o2 a cap last k w
  rcases h with ⟨rfl, rfl, rfl, rfl⟩ | ⟨x, rfl, hlc, hm, hzl, hcell, hwf⟩
  · exact absurd rfl h0
  by_cases hl : len ≤ 65536
  · by_cases hk : 0 ≤ k ∧ k ≤ 4
    · obtain ⟨b, off, spot⟩ := x
      have hc := hcell 0 (by omega)
      have hspot : spot = none := by simpa [Addr.add] using World.cell?_spot hc
      subst hspot
      have hL : ∃ l bash, Lng k l bash := by
        rcases (show k = 0 ∨ k = 1 ∨ k = 2 ∨ k = 3 ∨ k = 4 by omega) with rfl | rfl | rfl | rfl | rfl
        · exact ⟨1, true, .inl ⟨rfl, rfl, rfl⟩⟩
        · exact ⟨2, false, .inr (.inl ⟨rfl, rfl, rfl⟩)⟩
        · exact ⟨4, false, .inr (.inr (.inl ⟨rfl, rfl, rfl⟩))⟩
        · exact ⟨8, true, .inr (.inr (.inr (.inl ⟨rfl, rfl, rfl⟩)))⟩
        · exact ⟨16, false, .inr (.inr (.inr (.inr ⟨rfl, rfl, rfl⟩)))⟩
      obtain ⟨l, bash, hL⟩ := hL
      refine red_in b off len cap k l bash (fun i => zs.getD i 0) last w (by omega) hl hL (fun i hi => ?_) (fun i hi => ?_)
      · have hmem : zs.getD i 0 ∈ zs := by
          rw [List.getD_eq_getElem?_getD, List.getElem?_eq_getElem (by omega)]
          exact List.getElem_mem _
        have hw := bounds_u8 (hwf _ hmem)
        exact ⟨hw.1, by have := hw.2; show zs.getD i 0 ≤ 255; omega⟩
      · have := hcell i (by omega)
        by_cases hi0 : i = 0
        · subst hi0; simpa [Addr.add] using this
        · simpa [Addr.add, hi0] using this
    · exact red_o3 (some x) len cap last k w (by omega) hl (by omega)
  · exact red_o1 (some x) len cap last k w (by omega) (by omega)
end Go.Proofs.Ytjpimejjbiemgaa
