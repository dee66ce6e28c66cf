/- The walk of the law FnAdvanceLineOrderFreeAndIdempotent: it returns true at every start line and every slice of lines. -/
import Derived.Test.YtjpimejjbiemgaaClone
import Derived.Laws.Tables
namespace Go.Proofs.Ytjpimejjbiemgaa
open Go.RowKit
set_option linter.unusedVariables false

theorem ret_int {k : IntKind} {a b : Int} (h : a = b) : Ending.returned (.int k a) = .returned (.int k b) := by rw [h]
theorem ret_bool' {a b : Bool} (h : a = b) : Ending.returned (.bool a) = .returned (.bool b) := by rw [h]
theorem btrans {a b c : World} (h : Below a.heap.size a b) (k : Below b.heap.size b c) : Below a.heap.size a c := h.trans (k.mono h.size)
theorem wpList_build_some {P : Program} {ops : Array Oper} {rest : List Oper} {o : Oper} {a : Act} {w : World} {Q : Exit → Act → World → Prop} (hg : o.guard = none) (t : TypeId) (parts : Array (Nat × Operand)) (ho : o.op = .build t parts)
    (l : List (Nat × Value)) (cells : Array Value) (hf : P.built t l = some cells) (hl : (parts.map fun (i, x) => (i, a.eval x)).toList = l)
    (h : wpList P ops Q rest (a.put o.dst (.agg cells)) w) : wpList P ops Q (o :: rest) a w :=
  wpList_build hg t parts ho (by rw [hl, hf]; rfl) (by rw [hl, hf]; exact h)
theorem builtL (s : Int) : ∃ cs : Array Value, Try.prog.built 68 [(17, .int .u64 s)] = some cs ∧ cs[19]? = some (.int .u64 s) :=
  ⟨(Try.prog.built 68 [(17, .int .u64 s)]).getD #[], by kernel_rfl, by kernel_rfl⟩

theorem advl (b : Nat) (s l : Int) (w : World) (hc : w.cell? ⟨b, 19, none⟩ = some (.int .u64 s)) (hf : w.frozen? ⟨b, 19, none⟩ = false) :
    Calls Try.prog 45 #[.pointer (some ⟨b, 0, none⟩), .int .u64 l] w fun e w' => e = .returned (.tuple #[]) ∧ w.setCell ⟨b, 19, none⟩ (.int .u64 (max s l)) = w' := by
  by_cases h : s < l
  · go_enter Try.func45, Try.ntmps45
    go_wp2
    go_end0
    exact ⟨rfl, by rw [show max s l = l by omega]⟩
  · go_enter Try.func45, Try.ntmps45
    go_wp2
    go_end0
    exact ⟨rfl, by rw [show max s l = s by omega]⟩

theorem adv_any (s l : Int) (w : World) : Calls Try.prog 29 #[.int .u64 s, .int .u64 l] w fun e w' => e = .returned (.int .u64 (max s l)) ∧ Below w.heap.size w w' := by
  obtain ⟨cs, hb, h1⟩ := builtL s
  have HB := Lib.hid hb
  clear hb
  have H1 := Lib.hid h1
  clear h1
  go_enter Try.func29, Try.ntmps29
  go_wp2_with (refine wpList_build_some rfl 68 _ rfl _ cs HB.out ?hl ?_; focus (go_simp; done))
  refine (advl _ s l _ (by simp [H1.out]) (by simp)).mono ?_
  rintro e w1 ⟨rfl, hw⟩
  have hB : Below w.heap.size w w1 := by rw [← hw]; exact ((Below.refl _ _).alloc (Nat.le_refl _) _).setCell (Nat.le_refl _) _
  have hc : w1.cell? ⟨w.heap.size, 19, none⟩ = some (.int .u64 (max s l)) := by
    rw [← hw]
    exact World.cell?_setCell_same' _ _ _ (by simp [H1.out])
  clear hw
  go_wp2
  go_ret
  exact ⟨rfl, hB⟩

def mx (s : Int) (l : List Int) : Int := l.foldl max s
theorem mx_snoc (s : Int) (l : List Int) (x : Int) : mx s (l ++ [x]) = max (mx s l) x := by simp [mx]
theorem mx_cons (s x : Int) (l : List Int) : mx s (x :: l) = mx (max s x) l := rfl
theorem mx_ge (s : Int) (l : List Int) : s ≤ mx s l ∧ ∀ x ∈ l, x ≤ mx s l := by
  induction l generalizing s with
  | nil => simp [mx]
  | cons x l ih =>
    rw [mx_cons]
    have h := ih (max s x)
    refine ⟨by have := h.1; omega, fun y hy => ?_⟩
    rcases List.mem_cons.1 hy with e | e
    · subst e; have := h.1; omega
    · exact h.2 y e
theorem mx_le (s : Int) (l : List Int) (m : Int) (hs : s ≤ m) (h : ∀ x ∈ l, x ≤ m) : mx s l ≤ m := by
  induction l generalizing s with
  | nil => simpa [mx] using hs
  | cons x l ih =>
    rw [mx_cons]
    exact ih _ (by have := h x (by simp); omega) (fun y hy => h y (List.mem_cons_of_mem _ hy))
theorem mx_rev (s : Int) (l : List Int) : mx s l.reverse = mx s l := by
  apply Int.le_antisymm
  · exact mx_le _ _ _ (mx_ge s l).1 fun x hx => (mx_ge s l).2 x (by simpa using hx)
  · exact mx_le _ _ _ (mx_ge s l.reverse).1 fun x hx => (mx_ge s l.reverse).2 x (by simpa using hx)
theorem mx_again (s : Int) (l : List Int) (k : Nat) : mx (mx s l) (l.take k) = mx s l := by
  apply Int.le_antisymm
  · exact mx_le _ _ _ (Int.le_refl _) fun x hx => (mx_ge s l).2 x (List.mem_of_mem_take hx)
  · exact (mx_ge _ _).1
theorem take_snoc' (l : List Int) (k : Nat) (h : k < l.length) : l.take (k + 1) = l.take k ++ [l[k]?.getD 0] := by
  rw [List.take_succ_eq_append_getElem h, List.getElem?_eq_getElem h]; rfl
theorem drop_rev (l : List Int) (k : Nat) (h : k < l.length) : (l.drop k).reverse = (l.drop (k + 1)).reverse ++ [l[k]?.getD 0] := by
  rw [List.drop_eq_getElem_cons h, List.reverse_cons, List.getElem?_eq_getElem h]; rfl

set_option maxHeartbeats 1000000 in
theorem adv_some (s : Int) (b off len cap : Nat) (zs : List Int) (w : World) (h0 : 0 < len) (hlen : len ≤ 65536) (hz : len ≤ zs.length) (hc : ∀ i, i < len → w.cell? ⟨b, off + i, none⟩ = some (.int .u64 (zs.getD i 0))) :
    Calls Try.prog 7 #[.int .u64 s, .slice (some ⟨b, off, none⟩) len cap] w fun e w' => e = .returned (.bool true) ∧ Below w.heap.size w w' := by
  have HC := Lib.hid (cloneU_some b off len cap zs w h0 (by omega) hz hc)
  clear hc
  go_enter Try.func7, Try.ntmps7
  go_wp2_with (go_at_call 27; go_in)
  refine HC.out.mono ?_
  rintro e W ⟨v', rfl, hown, hB, hv⟩
  obtain rfl : v' = .slice (some ⟨w.heap.size, 0, none⟩) len len := by simpa using hv
  clear hv HC
  obtain ⟨xs, hxs⟩ : ∃ xs, xs = zs.take len := ⟨_, rfl⟩
  have hxl : xs.length = len := by rw [hxs]; simp; omega
  have hcell : ∀ j, j < len → W.cell? ⟨w.heap.size, j, none⟩ = some (.int .u64 (xs[j]?.getD 0)) := fun j hj => by
    rw [hown.cellAt j (by omega), ← hxs, List.getElem?_map, List.getElem?_eq_getElem (by omega)]
    simp
  have HW := Lib.hid hcell
  have hgW : w.heap.size < W.heap.size := World.block_lt_of_cell? W _ (hcell 0 h0)
  have HXL := Lib.hid hxl
  clear hcell hxl hxs hown hz
  go_wp2
  go_loopw [5, 6] (fun f i wr => ∃ k : Nat, k ≤ len ∧ i = .int .i64 k ∧ f = .int .u64 (mx s (xs.take k)) ∧ Below W.heap.size W wr) (fun _ i _ => len - (intOf i).toNat)
  case atStart => exact ⟨0, Nat.zero_le _, rfl, rfl, Below.refl _ _⟩
  case round =>
    obtain ⟨k, hk, rfl, rfl, hb⟩ := hrel
    by_cases hlt : k < len
    · have g1 : wr.cell? ⟨w.heap.size, k, none⟩ = some (.int .u64 (xs[k]?.getD 0)) := (hb.cell (by exact hgW)).trans (HW.out k hlt)
      go_wp2_with (go_at_call 29; refine (adv_any _ _ _).mono ?_; rintro e w1 ⟨rfl, hb1⟩)
      go_roundw
      case rel => exact ⟨k + 1, by omega, by go_num, by rw [take_snoc' xs k (by rw [HXL.out]; omega), mx_snoc], hb.trans (hb1.mono hb.size)⟩
      case measure => simp [intOf]; omega
    · obtain rfl : len = k := by omega
      have et : xs.take len = xs := by rw [← HXL.out]; simp
      rw [et]
      clear et hk hlt
      obtain ⟨M, hM⟩ : ∃ M, M = mx s xs := ⟨_, rfl⟩
      rw [← hM]
      have HM := Lib.hid hM
      clear hM
      obtain ⟨W2, rfl⟩ : ∃ W2 : World, W2 = wr := ⟨_, rfl⟩
      go_wp2
      go_loopw [7, 8] (fun f i wr => ∃ j : Nat, j ≤ len ∧ i = .int .i64 ((j : Int) - 1) ∧ f = .int .u64 (mx s (xs.drop j).reverse) ∧ Below W.heap.size W wr) (fun _ i _ => (intOf i + 1).toNat)
      case atStart => exact ⟨len, Nat.le_refl _, rfl, by rw [show xs.drop len = [] by rw [← HXL.out]; simp]; rfl, hb⟩
      case round =>
        clear hb
        obtain ⟨j, hj, rfl, rfl, hb⟩ := hrel
        cases j with
        | succ m =>
          have e1 : ((m + 1 : Nat) : Int) - 1 = (m : Int) := by omega
          rw [e1]
          clear e1
          have g1 : wr.cell? ⟨w.heap.size, m, none⟩ = some (.int .u64 (xs[m]?.getD 0)) := (hb.cell (by exact hgW)).trans (HW.out m (by omega))
          go_wp2_with (go_at_call 29; refine (adv_any _ _ _).mono ?_; rintro e w1 ⟨rfl, hb1⟩)
          go_roundw
          case rel => exact ⟨m, by omega, rfl, by rw [drop_rev xs m (by rw [HXL.out]; omega), mx_snoc], hb.trans (hb1.mono hb.size)⟩
          case measure => simp [intOf]
        | zero =>
          have e2 : mx s (xs.drop 0).reverse = M := by rw [HM.out, List.drop_zero, mx_rev]
          have e4 : ((0 : Nat) : Int) - 1 = -1 := by omega
          rw [e2, e4]
          clear e2 e4
          obtain ⟨W3, rfl⟩ : ∃ W3 : World, W3 = wr := ⟨_, rfl⟩
          go_wp2
          go_loopw [9, 10] (fun f i wr => ∃ k : Nat, k ≤ len ∧ i = .int .i64 k ∧ f = .int .u64 (mx M (xs.take k)) ∧ Below W.heap.size W wr) (fun _ i _ => len - (intOf i).toNat)
          case atStart => exact ⟨0, Nat.zero_le _, rfl, rfl, hb⟩
          case round =>
            clear hb
            obtain ⟨k, hk, rfl, rfl, hb⟩ := hrel
            by_cases hlt : k < len
            · have g1 : wr.cell? ⟨w.heap.size, k, none⟩ = some (.int .u64 (xs[k]?.getD 0)) := (hb.cell (by exact hgW)).trans (HW.out k hlt)
              go_wp2_with (go_at_call 29; refine (adv_any _ _ _).mono ?_; rintro e w1 ⟨rfl, hb1⟩)
              go_roundw
              case rel => exact ⟨k + 1, by omega, by go_num, by rw [take_snoc' xs k (by rw [HXL.out]; omega), mx_snoc], hb.trans (hb1.mono hb.size)⟩
              case measure => simp [intOf]; omega
            · have e3 : mx M (xs.take k) = M := by rw [HM.out]; exact mx_again s xs k
              rw [e3]
              clear e3
              go_wp2
              go_ret
              exact ⟨rfl, btrans hB hb⟩

theorem adv_zero (s : Int) (v : Value) (a : Option Addr) (cap : Nat) (w : World) (hv : v = .slice none 0 0 ∨ v = .slice (some ⟨w.heap.size, 0, none⟩) 0 0) (hC : Calls Try.prog 28 #[.slice a 0 cap] w fun e w' => e = .returned v ∧ Below w.heap.size w w') :
    Calls Try.prog 7 #[.int .u64 s, .slice a 0 cap] w fun e w' => e = .returned (.bool true) ∧ Below w.heap.size w w' := by
  have HC := Lib.hid hC
  clear hC
  rcases hv with rfl | rfl
  all_goals
    go_enter Try.func7, Try.ntmps7
    go_wp2_with (go_at_call 27; go_in)
    refine HC.out.mono ?_
    rintro e W ⟨rfl, hB⟩
    clear HC
    go_wp2
    refine wp_loop_rounds 1 ?_
    rw [rounds_succ]
    go_wp2
    refine wp_loop_rounds 1 ?_
    rw [rounds_succ]
    go_wp2
    refine wp_loop_rounds 1 ?_
    rw [rounds_succ]
    go_wp2
    go_ret
    exact ⟨ret_bool' (by simp), hB⟩
theorem adv_long (s : Int) (a : Option Addr) (len cap : Nat) (w : World) (h : 65536 < len) (hm : len ≤ maxLen) :
    Calls Try.prog 7 #[.int .u64 s, .slice a len cap] w fun e w' => e = .returned (.bool true) ∧ Below w.heap.size w w' := by
  unfold maxLen at hm
  go_enter Try.func7, Try.ntmps7
  go_wp2_with (go_at_call 27; go_in)
  all_goals
    go_ret
    exact ⟨rfl, Below.refl _ _⟩

def IsRow' (k : IntKind) (w : World) (a : Option Addr) (len cap : Nat) (zs : List Int) : Prop :=
  (a = none ∧ len = 0 ∧ cap = 0 ∧ zs = []) ∨
  ∃ x, a = some x ∧ len ≤ cap ∧ cap ≤ maxLen ∧ zs.length = cap ∧ (∀ i, i < zs.length → w.cell? (x.add i) = some (.int k (zs.getD i 0))) ∧ ∀ n ∈ zs, (Lit.int k n).wf = true
theorem adv_law (s : Int) (a : Option Addr) (len cap : Nat) (zs : List Int) (w : World) (h : IsRow' .u64 w a len cap zs) :
    Calls Try.prog 7 #[.int .u64 s, .slice a len cap] w fun e w' => e = .returned (.bool true) ∧ Below w.heap.size w w' := by
  rcases h with ⟨rfl, rfl, rfl, rfl⟩ | ⟨x, rfl, hlc, hm, hzl, hcell, _⟩
  · exact adv_zero s (.slice none 0 0) none 0 w (.inl rfl) ((cloneU_nil [] w).mono fun e w' ⟨v', he, _, hb, hv⟩ => ⟨by rw [he]; rcases hv with ⟨_, rfl⟩ | ⟨h, _⟩; rfl; exact absurd rfl h, hb⟩)
  · by_cases h0 : len = 0
    · subst h0
      exact adv_zero s (.slice (some ⟨w.heap.size, 0, none⟩) 0 0) (some x) cap w (.inr rfl) ((cloneU_empty x cap [] w).mono fun e w' ⟨v', he, _, hb, hv⟩ => ⟨by rw [he]; rcases hv with ⟨h, _⟩ | ⟨_, rfl⟩; cases h; rfl, hb⟩)
    · by_cases hl : len ≤ 65536
      · obtain ⟨b, off, spot⟩ := x
        have hc := hcell 0 (by omega)
        have hspot : spot = none := by simpa [Addr.add] using World.cell?_spot hc
        subst hspot
        refine adv_some s b off len cap zs w (by omega) hl (by omega) fun i hi => ?_
        have := hcell i (by omega)
        by_cases hi0 : i = 0
        · subst hi0; simpa [Addr.add] using this
        · simpa [Addr.add, hi0] using this
      · exact adv_long s (some x) len cap w (by omega) (by omega)
end Go.Proofs.Ytjpimejjbiemgaa
