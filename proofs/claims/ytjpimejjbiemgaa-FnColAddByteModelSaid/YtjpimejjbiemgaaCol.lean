/- The walk of the law FnColAddByteModel. -/
import Derived.Test.YtjpimejjbiemgaaCloneB
import Derived.Test.YtjpimejjbiemgaaAdv
namespace Go.Proofs.Ytjpimejjbiemgaa
open Go.RowKit
set_option linter.unusedVariables false

def cStep (c x : Int) : Int := if x = 10 then 1 else c + 1
def lStep (l : Bool) (x : Int) : Bool := if x = 10 then true else if x = 9 ∨ x = 32 ∨ x = 255 then l else false
def cAft (c : Int) (l : List Int) : Int := l.foldl cStep c
def lAft (b : Bool) (l : List Int) : Bool := l.foldl lStep b
theorem cAft_snoc (c : Int) (l : List Int) (x : Int) : cAft c (l ++ [x]) = cStep (cAft c l) x := by simp [cAft]
theorem lAft_snoc (c : Bool) (l : List Int) (x : Int) : lAft c (l ++ [x]) = lStep (lAft c l) x := by simp [lAft]
theorem cAft_no (c : Int) (l : List Int) (h : ∀ x ∈ l, x ≠ 10) : cAft c l = c + l.length := by
  induction l generalizing c with
  | nil => simp [cAft]
  | cons x l ih =>
    have e := ih (c + 1) fun y hy => h y (List.mem_cons_of_mem _ hy)
    have hx := h x (by simp)
    unfold cAft at e ⊢
    rw [List.foldl_cons, show cStep c x = c + 1 by simp [cStep, hx], e, List.length_cons]
    omega
theorem lAft_no (b : Bool) (l : List Int) (h : ∀ x ∈ l, x = 9 ∨ x = 32 ∨ x = 255) : lAft b l = b := by
  induction l generalizing b with
  | nil => simp [lAft]
  | cons x l ih =>
    have e := ih b fun y hy => h y (List.mem_cons_of_mem _ hy)
    have hx := h x (by simp)
    unfold lAft at e ⊢
    have hx2 : x ≠ 10 := by omega
    rw [List.foldl_cons, show lStep b x = b by simp [lStep, hx, hx2], e]
theorem cAft_at (c : Int) (l : List Int) (k : Nat) (hk : k < l.length) (hx : l[k]?.getD 0 = 10) (h : ∀ x ∈ l.drop (k + 1), x ≠ 10) : cAft c l = (l.length : Int) - k := by
  conv => lhs; rw [← List.take_append_drop (k + 1) l]
  have e : cAft c (l.take (k + 1) ++ l.drop (k + 1)) = cAft (cAft c (l.take (k + 1))) (l.drop (k + 1))   := List.foldl_append
  rw [e, take_snoc' l k hk, cAft_snoc, hx, show cStep (cAft c (l.take k)) 10 = 1 from rfl, cAft_no _ _ h, List.length_drop]
  omega
theorem lAft_at (c : Bool) (l : List Int) (k : Nat) (hk : k < l.length) (x : Int) (hx : l[k]?.getD 0 = x) (hn : ¬ (x = 9 ∨ x = 32 ∨ x = 255)) (h : ∀ x ∈ l.drop (k + 1), x = 9 ∨ x = 32 ∨ x = 255) : lAft c l = (x == 10) := by
  conv => lhs; rw [← List.take_append_drop (k + 1) l]
  have e : lAft c (l.take (k + 1) ++ l.drop (k + 1)) = lAft (lAft c (l.take (k + 1))) (l.drop (k + 1))   := List.foldl_append
  rw [e, take_snoc' l k hk, lAft_snoc, hx, lAft_no _ _ h]
  by_cases h10 : x = 10
  · simp [lStep, h10]
  · simp [lStep, h10, hn]

structure colAt (B : Nat) (c : Int) (l : Bool) (w : World) : Prop where
  h1 : w.cell? ⟨B, 1, none⟩ = some (.int .i64 c)
  h2 : w.cell? ⟨B, 2, none⟩ = some (.bool l)
  h3 : w.frozen? ⟨B, 1, none⟩ = false
  h4 : w.frozen? ⟨B, 2, none⟩ = false

theorem colAt1 {B : Nat} {c c' : Int} {l : Bool} {w : World} (h : colAt B c l w) : colAt B c' l (w.setCell ⟨B, 1, none⟩ (.int .i64 c')) :=
  ⟨World.cell?_setCell_same _ _ _ h.h1, by rw [World.cell?_setCell_other _ _ _ _ (by simp)]; exact h.h2, by rw [World.frozen?_setCell]; exact h.h3, by rw [World.frozen?_setCell]; exact h.h4⟩
theorem colAt2 {B : Nat} {c : Int} {l l' : Bool} {w : World} (h : colAt B c l w) : colAt B c l' (w.setCell ⟨B, 2, none⟩ (.bool l')) :=
  ⟨by rw [World.cell?_setCell_other _ _ _ _ (by simp)]; exact h.h1, World.cell?_setCell_same _ _ _ h.h2, by rw [World.frozen?_setCell]; exact h.h3, by rw [World.frozen?_setCell]; exact h.h4⟩

theorem addB44 (B n : Nat) (c : Int) (l : Bool) (x : Int) (w0 w : World) (hn : n ≤ B) (hc : -1073741824 ≤ c ∧ c ≤ 1100000000 + 1073741824) (hb : Below n w0 w) (h : colAt B c l w) :
    Calls Try.prog 44 #[.pointer (some ⟨B, 0, none⟩), .int .u8 x] w fun e w' => e = .returned (.tuple #[]) ∧ colAt B (cStep c x) (lStep l x) w' ∧ Below n w0 w' := by
  have H := Lib.hid h
  obtain ⟨h1, h2, h3, h4⟩ := h
  by_cases hx : x = 10
  · subst hx
    go_enter Try.func44, Try.ntmps44
    go_wp2
    go_end0
    exact ⟨rfl, colAt1 (colAt2 (colAt1 H.out)), ((hb.setCell (p := ⟨B, 1, none⟩) hn _).setCell (p := ⟨B, 2, none⟩) hn _).setCell (p := ⟨B, 1, none⟩) hn _⟩
  · by_cases hy : x = 9 ∨ x = 32 ∨ x = 255
    · have e1 : cStep c x = c + 1 := by simp [cStep, hx]
      have e2 : lStep l x = l := by simp [lStep, hx, hy]
      rw [e1, e2]
      clear e1 e2 hx
      rcases hy with rfl | rfl | rfl
      all_goals
        go_enter Try.func44, Try.ntmps44
        go_wp2
        go_end0
        exact ⟨rfl, colAt1 H.out, hb.setCell (p := ⟨B, 1, none⟩) hn _⟩
    · have e1 : cStep c x = c + 1 := by simp [cStep, hx]
      have e2 : lStep l x = false := by simp [lStep, hx, hy]
      have y1 : x ≠ 9 := by omega
      have y2 : x ≠ 32 := by omega
      have y3 : x ≠ 255 := by omega
      rw [e1, e2]
      clear hy e1 e2
      go_enter Try.func44, Try.ntmps44
      go_wp2
      go_end0
      exact ⟨rfl, colAt1 (colAt2 H.out), (hb.setCell (p := ⟨B, 2, none⟩) hn _).setCell (p := ⟨B, 1, none⟩) hn _⟩
theorem addB (B n : Nat) (c : Int) (l : Bool) (x : Int) (w0 w : World) (hn : n ≤ B) (hc : -1073741824 ≤ c ∧ c ≤ 1100000000 + 1073741824) (hb : Below n w0 w) (h : colAt B c l w) :
    Calls Try.prog 23 #[.pointer (some ⟨B, 0, none⟩), .int .u8 x] w fun e w' => e = .returned (.tuple #[]) ∧ colAt B (cStep c x) (lStep l x) w' ∧ Below n w0 w' := by
  have HC := Lib.hid (addB44 B n c l x w0 w hn hc hb h)
  clear hb h
  go_enter Try.func23, Try.ntmps23
  go_wp2_with (go_at_call 44; refine HC.out.mono ?_; rintro e w1 ⟨rfl, h1, h2⟩)
  go_end0
  exact ⟨rfl, h1, h2⟩
theorem newCol (c : Int) (l : Bool) (w : World) :
    Calls Try.prog 22 #[.int .i64 c, .bool l] w fun e w' => e = .returned (.pointer (some ⟨w.heap.size, 0, none⟩)) ∧ colAt w.heap.size c l w' ∧ Below w.heap.size w w' := by
  go_enter Try.func22, Try.ntmps22
  go_wp2
  go_ret
  exact ⟨rfl, ⟨by simp, by simp, by simp, by simp⟩, (Below.refl _ _).alloc (Nat.le_refl _) _⟩
theorem colCol (B : Nat) (c : Int) (l : Bool) (w : World) (h : colAt B c l w) :
    Calls Try.prog 25 #[.pointer (some ⟨B, 0, none⟩)] w fun e w' => e = .returned (.int .i64 c) ∧ w = w' := by
  obtain ⟨h1, h2, h3, h4⟩ := h
  go_enter Try.func25, Try.ntmps25
  go_wp2
  go_ret
  exact ⟨rfl, rfl⟩
theorem colLs (B : Nat) (c : Int) (l : Bool) (w : World) (h : colAt B c l w) :
    Calls Try.prog 26 #[.pointer (some ⟨B, 0, none⟩)] w fun e w' => e = .returned (.bool l) ∧ w = w' := by
  obtain ⟨h1, h2, h3, h4⟩ := h
  go_enter Try.func26, Try.ntmps26
  go_wp2
  go_ret
  exact ⟨rfl, rfl⟩
theorem drop_cons' (l : List Int) (k : Nat) (h : k < l.length) : l.drop k = l[k]?.getD 0 :: l.drop (k + 1) := by
  rw [List.drop_eq_getElem_cons h, List.getElem?_eq_getElem h]; rfl

set_option maxHeartbeats 1000000 in
theorem model (c : Int) (l : Bool) (b len cap : Nat) (xs : List Int) (w : World) (hlen : len ≤ 1048576) (hc : -1073741824 ≤ c ∧ c ≤ 1073741824) (hxl : xs.length = len) (hcell : ∀ j, j < len → w.cell? ⟨b, j, none⟩ = some (.int .u8 (xs[j]?.getD 0))) :
    Calls Try.prog 24 #[.int .i64 c, .bool l, .slice (some ⟨b, 0, none⟩) len cap] w fun e w' => e = .returned (.tuple #[.int .i64 (cAft c xs), .bool (lAft l xs)]) ∧ w = w' := by
  have HC := Lib.hid hcell
  have HX := Lib.hid hxl
  clear hcell hxl
  go_enter Try.func24, Try.ntmps24
  go_wp2
  go_loopw [8, 9] (fun f i wr => ∃ j : Nat, j ≤ len ∧ i = .int .i64 ((j : Int) - 1) ∧ f = .int .i64 (c + len) ∧ (∀ x ∈ xs.drop j, x ≠ 10) ∧ w = wr) (fun _ i _ => (intOf i + 1).toNat)
  case atStart => exact ⟨len, Nat.le_refl _, rfl, rfl, by rw [show xs.drop len = [] by rw [← HX.out]; simp]; simp, rfl⟩
  case round =>
    obtain ⟨j, hj, rfl, rfl, hno, rfl⟩ := hrel
    have HN := Lib.hid hno
    clear hno
    cases j with
    | succ m =>
      have e1 : ((m + 1 : Nat) : Int) - 1 = (m : Int) := by omega
      rw [e1]
      clear e1
      have g1 := HC.out m (by omega)
      by_cases hx : xs[m]?.getD 0 = 10
      · have FF := Lib.hid (cAft_at c xs m (by rw [HX.out]; omega) hx HN.out)
        rw [hx] at g1
        clear hx HN
        go_wp2
        go_loopw [10, 11] (fun f i wr => ∃ j : Nat, j ≤ len ∧ i = .int .i64 ((j : Int) - 1) ∧ f = .bool l ∧ (∀ x ∈ xs.drop j, x = 9 ∨ x = 32 ∨ x = 255) ∧ w = wr) (fun _ i _ => (intOf i + 1).toNat)
        case atStart => exact ⟨len, Nat.le_refl _, rfl, rfl, by rw [show xs.drop len = [] by rw [← HX.out]; simp]; simp, rfl⟩
        case round =>
          obtain ⟨j, hj, rfl, rfl, hno, rfl⟩ := hrel
          have HN := Lib.hid hno
          clear hno
          cases j with
          | succ m =>
            have e1 : ((m + 1 : Nat) : Int) - 1 = (m : Int) := by omega
            rw [e1]
            clear e1
            have g1 := HC.out m (by omega)
            obtain ⟨x, hx⟩ : ∃ x, x = xs[m]?.getD 0 := ⟨_, rfl⟩
            rw [← hx] at g1
            have HXX := Lib.hid hx
            clear hx
            by_cases hb : x = 9 ∨ x = 32 ∨ x = 255
            · have RR : ∀ y ∈ xs.drop m, y = 9 ∨ y = 32 ∨ y = 255 := by
                rw [drop_cons' xs m (by rw [HX.out]; omega), ← HXX.out]
                intro y hy
                rcases List.mem_cons.1 hy with rfl | hy
                · exact hb
                · exact HN.out y hy
              have RR2 := Lib.hid RR
              clear RR HXX
              rcases hb with rfl | rfl | rfl
              all_goals
                go_wp2
                go_roundw
                case rel => exact ⟨m, by omega, rfl, rfl, RR2.out, by first | rfl | trivial⟩
                case measure => simp [intOf]
            · have EE := Lib.hid (lAft_at l xs m (by rw [HX.out]; omega) x HXX.out.symm hb HN.out)
              have y1 : x ≠ 9 := by omega
              have y2 : x ≠ 32 := by omega
              have y3 : x ≠ 255 := by omega
              clear hb HN HXX
              go_wp2
              all_goals first | (go_ret2; exact ⟨by rw [EE.out, FF.out, HX.out]; rfl, rfl⟩) | (exfalso; rename_i hh; simp at hh; omega)
          | zero =>
            have e2 := Lib.hid (show lAft l xs = l by exact lAft_no l xs (by simpa using HN.out))
            have e4 : ((0 : Nat) : Int) - 1 = -1 := by omega
            rw [e4]
            clear e4 HN
            go_wp2
            go_ret2
            exact ⟨by rw [e2.out, FF.out, HX.out]; rfl, rfl⟩
      · obtain ⟨x, hxx⟩ : ∃ x, x = xs[m]?.getD 0 := ⟨_, rfl⟩
        have RR : ∀ y ∈ xs.drop m, y ≠ 10 := by
          rw [drop_cons' xs m (by rw [HX.out]; omega)]
          intro y hy
          rcases List.mem_cons.1 hy with rfl | hy
          · exact hx
          · exact HN.out y hy
        have RR2 := Lib.hid RR
        clear RR
        rw [← hxx] at g1 hx
        clear hxx
        go_wp2
        go_roundw
        case rel => exact ⟨m, by omega, rfl, rfl, RR2.out, by first | rfl | trivial⟩
        case measure => simp [intOf]
    | zero =>
      have FF := Lib.hid (cAft_no c xs (by simpa using HN.out))
      have e4 : ((0 : Nat) : Int) - 1 = -1 := by omega
      rw [e4]
      clear e4 HN
      go_wp2
      go_loopw [10, 11] (fun f i wr => ∃ j : Nat, j ≤ len ∧ i = .int .i64 ((j : Int) - 1) ∧ f = .bool l ∧ (∀ x ∈ xs.drop j, x = 9 ∨ x = 32 ∨ x = 255) ∧ w = wr) (fun _ i _ => (intOf i + 1).toNat)
      case atStart => exact ⟨len, Nat.le_refl _, rfl, rfl, by rw [show xs.drop len = [] by rw [← HX.out]; simp]; simp, rfl⟩
      case round =>
        obtain ⟨j, hj, rfl, rfl, hno, rfl⟩ := hrel
        have HN := Lib.hid hno
        clear hno
        cases j with
        | succ m =>
          have e1 : ((m + 1 : Nat) : Int) - 1 = (m : Int) := by omega
          rw [e1]
          clear e1
          have g1 := HC.out m (by omega)
          obtain ⟨x, hx⟩ : ∃ x, x = xs[m]?.getD 0 := ⟨_, rfl⟩
          rw [← hx] at g1
          have HXX := Lib.hid hx
          clear hx
          by_cases hb : x = 9 ∨ x = 32 ∨ x = 255
          · have RR : ∀ y ∈ xs.drop m, y = 9 ∨ y = 32 ∨ y = 255 := by
              rw [drop_cons' xs m (by rw [HX.out]; omega), ← HXX.out]
              intro y hy
              rcases List.mem_cons.1 hy with rfl | hy
              · exact hb
              · exact HN.out y hy
            have RR2 := Lib.hid RR
            clear RR HXX
            rcases hb with rfl | rfl | rfl
            all_goals
              go_wp2
              go_roundw
              case rel => exact ⟨m, by omega, rfl, rfl, RR2.out, by first | rfl | trivial⟩
              case measure => simp [intOf]
          · have EE := Lib.hid (lAft_at l xs m (by rw [HX.out]; omega) x HXX.out.symm hb HN.out)
            have y1 : x ≠ 9 := by omega
            have y2 : x ≠ 32 := by omega
            have y3 : x ≠ 255 := by omega
            clear hb HN HXX
            go_wp2
            all_goals first | (go_ret2; exact ⟨by rw [EE.out, FF.out, HX.out]; rfl, rfl⟩) | (exfalso; rename_i hh; simp at hh; omega)
        | zero =>
          have e2 := Lib.hid (show lAft l xs = l by exact lAft_no l xs (by simpa using HN.out))
          have e4 : ((0 : Nat) : Int) - 1 = -1 := by omega
          rw [e4]
          clear e4 HN
          go_wp2
          go_ret2
          exact ⟨by rw [e2.out, FF.out, HX.out]; rfl, rfl⟩
theorem cAft_bd (c : Int) (l : List Int) : (c ≤ cAft c l ∨ 1 ≤ cAft c l) ∧ (cAft c l ≤ c + l.length ∨ cAft c l ≤ 1 + l.length) := by
  induction l generalizing c with
  | nil => simp [cAft]
  | cons x l ih =>
    have e := ih (cStep c x)
    unfold cAft at e ⊢
    rw [List.foldl_cons, List.length_cons]
    by_cases h : x = 10
    · rw [show cStep c x = 1 by simp [cStep, h]] at e ⊢; omega
    · rw [show cStep c x = c + 1 by simp [cStep, h]] at e ⊢; omega

set_option maxHeartbeats 1000000 in
theorem col_some (c : Int) (l : Bool) (b off len cap : Nat) (zs : List Int) (w : World) (hcr : -1073741824 ≤ c ∧ c ≤ 1073741824) (h0 : 0 < len) (hlen : len ≤ 1048576) (hz : len ≤ zs.length) (hc : ∀ i, i < len → w.cell? ⟨b, off + i, none⟩ = some (.int .u8 (zs.getD i 0))) :
    Calls Try.prog 6 #[.int .i64 c, .bool l, .slice (some ⟨b, off, none⟩) len cap] w fun e w' => e = .returned (.bool true) ∧ Below w.heap.size w w' := by
  have HC := Lib.hid (cloneB_some b off len cap zs w h0 (by omega) hz hc)
  clear hc
  go_enter Try.func6, Try.ntmps6
  go_wp2_with (go_at_call 20; go_in)
  refine HC.out.mono ?_
  rintro e W ⟨v', rfl, hown, hB, hv⟩
  obtain rfl : v' = .slice (some ⟨w.heap.size, 0, none⟩) len len := by simpa using hv
  clear hv HC
  obtain ⟨xs, hxs⟩ : ∃ xs, xs = zs.take len := ⟨_, rfl⟩
  have hxl : xs.length = len := by rw [hxs]; simp; omega
  have hcell : ∀ j, j < len → W.cell? ⟨w.heap.size, j, none⟩ = some (.int .u8 (xs[j]?.getD 0)) := fun j hj => by
    rw [hown.cellAt j (by omega), ← hxs, List.getElem?_map, List.getElem?_eq_getElem (by omega)]
    simp
  have HW := Lib.hid hcell
  have hgW : w.heap.size < W.heap.size := World.block_lt_of_cell? W _ (hcell 0 h0)
  have HXL := Lib.hid hxl
  clear hcell hxl hxs hown hz
  go_wp2_with (go_at_call 22; refine (newCol c l _).mono ?_; rintro e W1 ⟨rfl, hcol, hB1⟩)
  go_loopw [8] (fun i wr => ∃ k : Nat, k ≤ len ∧ i = .int .i64 k ∧ colAt W.heap.size (cAft c (xs.take k)) (lAft l (xs.take k)) wr ∧ Below W.heap.size W wr) (fun i _ => len - (intOf i).toNat)
  case atStart => exact ⟨0, Nat.zero_le _, rfl, hcol, hB1⟩
  case round =>
    clear hcol hB1
    obtain ⟨k, hk, rfl, hcol, hb⟩ := hrel
    by_cases hlt : k < len
    · have g1 : wr.cell? ⟨w.heap.size, k, none⟩ = some (.int .u8 (xs[k]?.getD 0)) := (hb.cell (by exact hgW)).trans (HW.out k hlt)
      have hcb : -1073741824 ≤ cAft c (xs.take k) ∧ cAft c (xs.take k) ≤ 1100000000 + 1073741824 := by
        have := cAft_bd c (xs.take k)
        have e : (xs.take k).length = k := by rw [List.length_take, HXL.out]; omega
        rw [e] at this
        omega
      have AA := Lib.hid (addB W.heap.size W.heap.size _ _ (xs[k]?.getD 0) W wr (Nat.le_refl _) hcb hb hcol)
      clear hcol hcb hb
      go_wp2_with (go_at_call 23; refine AA.out.mono ?_; rintro e w1 ⟨rfl, hcol, hb⟩)
      go_roundw
      case rel => exact ⟨k + 1, by omega, by go_num, by rw [take_snoc' xs k (by rw [HXL.out]; omega), cAft_snoc, lAft_snoc]; exact hcol, hb⟩
      case measure => simp [intOf]; omega
    · obtain rfl : len = k := by omega
      have et : xs.take len = xs := by rw [← HXL.out]; simp
      rw [et] at hcol
      clear et hk hlt
      have MM := Lib.hid (model c l w.heap.size len len xs wr hlen hcr HXL.out fun j hj => (hb.cell (by exact hgW)).trans (HW.out j hj))
      have CC := Lib.hid hcol
      clear hcol
      go_wp2_with (first | (go_at_call 24; refine MM.out.mono ?_; rintro e w1 ⟨rfl, rfl⟩) | (go_at_call 25; refine (colCol _ _ _ _ CC.out).mono ?_; rintro e w1 ⟨rfl, rfl⟩) | (go_at_call 26; refine (colLs _ _ _ _ CC.out).mono ?_; rintro e w1 ⟨rfl, rfl⟩))
      go_ret
      exact ⟨ret_bool' (by simp), btrans hB hb⟩

theorem col_zero (c : Int) (l : Bool) (v : Value) (a : Option Addr) (cap : Nat) (w : World) (hcr : -1073741824 ≤ c ∧ c ≤ 1073741824) (hv : v = .slice none 0 0 ∨ v = .slice (some ⟨w.heap.size, 0, none⟩) 0 0) (hC : Calls Try.prog 21 #[.slice a 0 cap] w fun e w' => e = .returned v ∧ Below w.heap.size w w') :
    Calls Try.prog 6 #[.int .i64 c, .bool l, .slice a 0 cap] w fun e w' => e = .returned (.bool true) ∧ Below w.heap.size w w' := by
  have HC := Lib.hid hC
  clear hC
  rcases hv with rfl | rfl
  all_goals
    go_enter Try.func6, Try.ntmps6
    go_wp2_with (go_at_call 20; go_in)
    refine HC.out.mono ?_
    rintro e W ⟨rfl, hB⟩
    clear HC
    go_wp2_with (go_at_call 22; refine (newCol c l _).mono ?_; rintro e W1 ⟨rfl, hcol, hB1⟩)
    have CC := Lib.hid hcol
    clear hcol
    refine wp_loop_rounds 1 ?_
    rw [rounds_succ]
    go_wp2_with (first | (go_at_call 24; go_in) | (go_at_call 25; refine (colCol _ _ _ _ CC.out).mono ?_; rintro e w1 ⟨rfl, rfl⟩) | (go_at_call 26; refine (colLs _ _ _ _ CC.out).mono ?_; rintro e w1 ⟨rfl, rfl⟩))
    refine wp_loop_rounds 1 ?_
    rw [rounds_succ]
    go_wp2
    refine wp_loop_rounds 1 ?_
    rw [rounds_succ]
    go_wp2_with (first | (go_at_call 25; refine (colCol _ _ _ _ CC.out).mono ?_; rintro e w1 ⟨rfl, rfl⟩) | (go_at_call 26; refine (colLs _ _ _ _ CC.out).mono ?_; rintro e w1 ⟨rfl, rfl⟩))
    go_ret
    exact ⟨ret_bool' (by simp), btrans hB hB1⟩
theorem col_out (c : Int) (l : Bool) (a : Option Addr) (len cap : Nat) (w : World) (h : 1048576 < len ∨ c < -1073741824 ∨ 1073741824 < c) (hm : len ≤ maxLen) :
    Calls Try.prog 6 #[.int .i64 c, .bool l, .slice a len cap] w fun e w' => e = .returned (.bool true) ∧ Below w.heap.size w w' := by
  unfold maxLen at hm
  by_cases h1 : 1048576 < len
  · go_enter Try.func6, Try.ntmps6
    go_wp2_with (go_at_call 20; go_in)
    all_goals
      go_ret
      exact ⟨rfl, Below.refl _ _⟩
  · rcases (show c < -1073741824 ∨ (¬ c < -1073741824 ∧ 1073741824 < c) by omega) with h2 | ⟨h2, h3⟩
    · clear h
      go_enter Try.func6, Try.ntmps6
      go_wp2_with (go_at_call 20; go_in)
      all_goals
        go_ret
        exact ⟨rfl, Below.refl _ _⟩
    · clear h
      go_enter Try.func6, Try.ntmps6
      go_wp2_with (go_at_call 20; go_in)
      all_goals
        go_ret
        exact ⟨rfl, Below.refl _ _⟩
theorem col_law (c : Int) (l : Bool) (a : Option Addr) (len cap : Nat) (zs : List Int) (w : World) (h : IsRow' .u8 w a len cap zs) :
    Calls Try.prog 6 #[.int .i64 c, .bool l, .slice a len cap] w fun e w' => e = .returned (.bool true) ∧ Below w.heap.size w w' := by
  by_cases hcr : -1073741824 ≤ c ∧ c ≤ 1073741824
  · rcases h with ⟨rfl, rfl, rfl, rfl⟩ | ⟨x, rfl, hlc, hm, hzl, hcell, _⟩
    · exact col_zero c l (.slice none 0 0) none 0 w hcr (.inl rfl) ((cloneB_nil [] w).mono fun e w' ⟨v', he, _, hb, hv⟩ => ⟨by rw [he]; rcases hv with ⟨_, rfl⟩ | ⟨h, _⟩; rfl; exact absurd rfl h, hb⟩)
    · by_cases h0 : len = 0
      · subst h0
        exact col_zero c l (.slice (some ⟨w.heap.size, 0, none⟩) 0 0) (some x) cap w hcr (.inr rfl) ((cloneB_empty x cap [] w).mono fun e w' ⟨v', he, _, hb, hv⟩ => ⟨by rw [he]; rcases hv with ⟨h, _⟩ | ⟨_, rfl⟩; cases h; rfl, hb⟩)
      · by_cases hl : len ≤ 1048576
        · obtain ⟨b, off, spot⟩ := x
          have hc := hcell 0 (by omega)
          have hspot : spot = none := by simpa [Addr.add] using World.cell?_spot hc
          subst hspot
          refine col_some c l b off len cap zs w hcr (by omega) hl (by omega) fun i hi => ?_
          have := hcell i (by omega)
          by_cases hi0 : i = 0
          · subst hi0; simpa [Addr.add] using this
          · simpa [Addr.add, hi0] using this
        · exact col_out c l (some x) len cap w (.inl (by omega)) (by omega)
  · refine col_out c l a len cap w (by omega) ?_
    rcases h with ⟨rfl, rfl, rfl, rfl⟩ | ⟨x, rfl, hlc, hm, hzl, hcell, _⟩
    · unfold maxLen; omega
    · omega
end Go.Proofs.Ytjpimejjbiemgaa
