/- The walk of the law FnCaseItemPosIgnoresRest: it returns true at every input. -/
import Derived.Test.YtjpodhmjmohblaaItem2
namespace Go.Proofs.Ytjpodhmjmohblaa
open Go.RowKit
set_option linter.unusedVariables false

theorem PosAt.drew {w : World} {g q : Nat} {o l : Int} (h : PosAt w g q o l) : PosAt w.drew g q o l := h
/-- a slice that came in: nil, or a row of cells each of which holds a value of the kind Q -/
def RowOf (Q : Value → Prop) (w : World) (a : Option Addr) (len cap : Nat) : Prop :=
  (a = none ∧ len = 0 ∧ cap = 0) ∨ ∃ x, a = some x ∧ len ≤ cap ∧ cap ≤ maxLen ∧ ∀ i, i < cap → ∃ v, w.cell? (x.add i) = some v ∧ Q v
theorem RowOf.len {Q : Value → Prop} {w : World} {a : Option Addr} {len cap : Nat} (h : RowOf Q w a len cap) : len ≤ 9223372036854775807 := by
  rcases h with ⟨_, rfl, _⟩ | ⟨x, _, h1, h2, _⟩
  · omega
  · unfold maxLen at h2; omega
theorem RowOf.some_ {Q : Value → Prop} {w : World} {a : Option Addr} {len cap : Nat} (h : RowOf Q w a len cap) (h0 : 0 < len) : ∃ b off, a = some ⟨b, off, none⟩ ∧ ∀ i, i < len → ∃ v, w.cell? ⟨b, off + i, none⟩ = some v ∧ Q v := by
  rcases h with ⟨_, rfl, _⟩ | ⟨x, rfl, h1, h2, hc⟩
  · omega
  · obtain ⟨b, off, spot⟩ := x
    obtain ⟨v0, hv0, _⟩ := hc 0 (by omega)
    have hspot : spot = none := by simpa [Addr.add] using World.cell?_spot hv0
    subst hspot
    refine ⟨b, off, rfl, fun i hi => ?_⟩
    obtain ⟨v, hv, hq⟩ := hc i (by omega)
    refine ⟨v, ?_, hq⟩
    by_cases hi0 : i = 0
    · subst hi0; simpa [Addr.add] using hv
    · simpa [Addr.add, hi0] using hv
theorem pick_int {w : World} {b off len : Nat} (h : ∀ i, i < len → ∃ v, w.cell? ⟨b, off + i, none⟩ = some v ∧ ∃ n, v = .int .u32 n) : ∃ z : Nat → Int, ∀ i, i < len → w.cell? ⟨b, off + i, none⟩ = some (.int .u32 (z i)) := by
  have : ∀ i, ∃ n : Int, i < len → w.cell? ⟨b, off + i, none⟩ = some (.int .u32 n) := fun i => by
    by_cases hi : i < len
    · obtain ⟨v, hv, n, rfl⟩ := h i hi
      exact ⟨n, fun _ => hv⟩
    · exact ⟨0, fun hh => absurd hh hi⟩
  exact ⟨fun i => (this i).choose, fun i hi => (this i).choose_spec hi⟩
theorem pick_bool {w : World} {b off len : Nat} (h : ∀ i, i < len → ∃ v, w.cell? ⟨b, off + i, none⟩ = some v ∧ ∃ n, v = .bool n) : ∃ z : Nat → Bool, ∀ i, i < len → w.cell? ⟨b, off + i, none⟩ = some (.bool (z i)) := by
  have : ∀ i, ∃ n : Bool, i < len → w.cell? ⟨b, off + i, none⟩ = some (.bool n) := fun i => by
    by_cases hi : i < len
    · obtain ⟨v, hv, n, rfl⟩ := h i hi
      exact ⟨n, fun _ => hv⟩
    · exact ⟨false, fun hh => absurd hh hi⟩
  exact ⟨fun i => (this i).choose, fun i hi => (this i).choose_spec hi⟩
theorem item_o1 (a b c : Option Addr) (la lb lc ca cb cc : Nat) (x y z k : Int) (w : World) (ma : la ≤ 9223372036854775807) (mb : lb ≤ 9223372036854775807) (mc : lc ≤ 9223372036854775807) (h : 4096 < la) : Calls Try.prog 13 #[.slice a la ca, .slice b lb cb, .slice c lc cc, .int .u32 x, .int .u32 y, .int .u32 z, .int .i64 k] w fun e w' => e = .returned (.bool true) ∧ Below w.heap.size w w' := by
  go_enter Try.func13, Try.ntmps13
  go_wp2_with (go_at_call 66; go_in)
  all_goals
    go_ret
    exact ⟨rfl, Below.refl _ _⟩
theorem item_o2 (a b c : Option Addr) (la lb lc ca cb cc : Nat) (x y z k : Int) (w : World) (ma : la ≤ 9223372036854775807) (mb : lb ≤ 9223372036854775807) (mc : lc ≤ 9223372036854775807) (h1 : la ≤ 4096) (h : 4096 < lb) : Calls Try.prog 13 #[.slice a la ca, .slice b lb cb, .slice c lc cc, .int .u32 x, .int .u32 y, .int .u32 z, .int .i64 k] w fun e w' => e = .returned (.bool true) ∧ Below w.heap.size w w' := by
  go_enter Try.func13, Try.ntmps13
  go_wp2_with (go_at_call 66; go_in)
  all_goals
    go_ret
    exact ⟨rfl, Below.refl _ _⟩
theorem item_o3 (a b c : Option Addr) (la lb lc ca cb cc : Nat) (x y z k : Int) (w : World) (ma : la ≤ 9223372036854775807) (mb : lb ≤ 9223372036854775807) (mc : lc ≤ 9223372036854775807) (h1 : la ≤ 4096) (h2 : lb ≤ 4096) (h : 4096 < lc) : Calls Try.prog 13 #[.slice a la ca, .slice b lb cb, .slice c lc cc, .int .u32 x, .int .u32 y, .int .u32 z, .int .i64 k] w fun e w' => e = .returned (.bool true) ∧ Below w.heap.size w w' := by
  go_enter Try.func13, Try.ntmps13
  go_wp2_with (go_at_call 66; go_in)
  all_goals
    go_ret
    exact ⟨rfl, Below.refl _ _⟩
theorem item_o4 (a b c : Option Addr) (la lb lc ca cb cc : Nat) (x y z k : Int) (w : World) (ma : la ≤ 9223372036854775807) (mb : lb ≤ 9223372036854775807) (mc : lc ≤ 9223372036854775807) (h1 : la ≤ 4096) (h2 : lb ≤ 4096) (h3 : lc ≤ 4096) (h : k < 0) : Calls Try.prog 13 #[.slice a la ca, .slice b lb cb, .slice c lc cc, .int .u32 x, .int .u32 y, .int .u32 z, .int .i64 k] w fun e w' => e = .returned (.bool true) ∧ Below w.heap.size w w' := by
  go_enter Try.func13, Try.ntmps13
  go_wp2_with (first | (go_at_call 66; refine (bytes_ok _ _ _ _ _ _ _ _ _ _ _ _ _ _ h1 h2 h3).mono ?_; rintro e w' ⟨rfl, rfl⟩) | (go_at_call 67; refine (min3 _ _ _ _).mono ?_; rintro e w' ⟨rfl, rfl⟩))
  all_goals
    go_ret
    exact ⟨rfl, Below.refl _ _⟩
theorem item_o5 (a b c : Option Addr) (la lb lc ca cb cc : Nat) (x y z k : Int) (w : World) (ma : la ≤ 9223372036854775807) (mb : lb ≤ 9223372036854775807) (mc : lc ≤ 9223372036854775807) (h1 : la ≤ 4096) (h2 : lb ≤ 4096) (h3 : lc ≤ 4096) (h4 : 0 ≤ k) (h : 4096 < k) : Calls Try.prog 13 #[.slice a la ca, .slice b lb cb, .slice c lc cc, .int .u32 x, .int .u32 y, .int .u32 z, .int .i64 k] w fun e w' => e = .returned (.bool true) ∧ Below w.heap.size w w' := by
  go_enter Try.func13, Try.ntmps13
  go_wp2_with (first | (go_at_call 66; refine (bytes_ok _ _ _ _ _ _ _ _ _ _ _ _ _ _ h1 h2 h3).mono ?_; rintro e w' ⟨rfl, rfl⟩) | (go_at_call 67; refine (min3 _ _ _ _).mono ?_; rintro e w' ⟨rfl, rfl⟩))
  all_goals
    go_ret
    exact ⟨rfl, Below.refl _ _⟩
theorem item_o6 (a b c : Option Addr) (la lb lc ca cb cc : Nat) (x y z k : Int) (w : World) (ma : la ≤ 9223372036854775807) (mb : lb ≤ 9223372036854775807) (mc : lc ≤ 9223372036854775807) (h1 : la ≤ 4096) (h2 : lb ≤ 4096) (h3 : lc ≤ 4096) (h4 : 0 ≤ k) (h5 : k ≤ 4096) (h : min (min la lb) lc = 0) : Calls Try.prog 13 #[.slice a la ca, .slice b lb cb, .slice c lc cc, .int .u32 x, .int .u32 y, .int .u32 z, .int .i64 k] w fun e w' => e = .returned (.bool true) ∧ Below w.heap.size w w' := by
  go_enter Try.func13, Try.ntmps13
  go_wp2_with (first | (go_at_call 66; refine (bytes_ok _ _ _ _ _ _ _ _ _ _ _ _ _ _ h1 h2 h3).mono ?_; rintro e w' ⟨rfl, rfl⟩) | (go_at_call 67; refine (min3 _ _ _ _).mono ?_; rintro e w' ⟨rfl, rfl⟩))
  all_goals
    go_ret
    exact ⟨rfl, Below.refl _ _⟩
theorem coms_info : (Try.prog.info? 112).map (fun i => (i.zero, i.size, i.bytes)) = some (some (.agg #[.int .u32 0, .int .u32 0, .string ⟨#[]⟩]), 3, 24) := by kernel_rfl
set_option maxRecDepth 20000 in
set_option maxHeartbeats 4000000 in
theorem item_in (a b c oa ob oc la lb lc ca cb cc kn : Nat) (x y z : Int) (za zb : Nat → Int) (zc : Nat → Bool) (w : World) (a0 : 0 < la) (a1 : la ≤ 4096) (b0 : 0 < lb) (b1 : lb ≤ 4096) (c0 : 0 < lc) (c1 : lc ≤ 4096) (k1 : kn ≤ 4096) (ha : ∀ i, i < la → w.cell? ⟨a, oa + i, none⟩ = some (.int .u32 (za i))) (hb : ∀ i, i < lb → w.cell? ⟨b, ob + i, none⟩ = some (.int .u32 (zb i))) (hc : ∀ i, i < lc → w.cell? ⟨c, oc + i, none⟩ = some (.bool (zc i))) : Calls Try.prog 13 #[.slice (some ⟨a, oa, none⟩) la ca, .slice (some ⟨b, ob, none⟩) lb cb, .slice (some ⟨c, oc, none⟩) lc cc, .int .u32 x, .int .u32 y, .int .u32 z, .int .i64 kn] w fun e w' => e = .returned (.bool true) ∧ Below w.heap.size w w' := by
  obtain ⟨i0, hi, hz0, hz1, hz2⟩ := info_parts coms_info
  obtain ⟨n, hn⟩ : ∃ n, n = min (min la lb) lc := ⟨_, rfl⟩
  have n0 : 0 < n := by omega
  have n1 : n ≤ la := by omega
  have n2 : n ≤ lb := by omega
  have n3 : n ≤ lc := by omega
  have nz : ((n : Int) == 0) = false := by simp; omega
  have HN := Lib.hid hn
  clear hn
  have HA := Lib.hid ha
  have HB := Lib.hid hb
  have HC := Lib.hid hc
  clear ha hb hc
  go_enter Try.func13, Try.ntmps13
  go_wp2_with (first | (go_at_call 66; refine (bytes_ok _ _ _ _ _ _ _ _ _ _ _ _ _ _ a1 b1 c1).mono ?_; rintro e w' ⟨rfl, rfl⟩) | (go_at_call 67; refine (min3 _ _ _ _).mono ?_; rintro e w' ⟨rfl, rfl⟩; rw [← HN.out]))
  refine (cloneU a oa la ca za _ a0 a1 HA.out).mono ?_
  rintro e w1 ⟨rfl, hb, ua⟩
  have HB1 := Lib.hid (fun i hi => blater hb (HB.out i hi))
  have HC1 := Lib.hid (fun i hi => blater hb (HC.out i hi))
  have hB := hb
  have HA := Lib.hid ua
  clear hb ua
  go_wp2_with fail
  refine (cloneU b ob lb cb zb _ b0 b1 HB1.out).mono ?_
  rintro e w2 ⟨rfl, hb, ub⟩
  have HA2 := Lib.hid (fun i hi => blater hb (HA.out i hi))
  have HC2 := Lib.hid (fun i hi => blater hb (HC1.out i hi))
  have HB2 := Lib.hid ub
  replace hB := btrans hB hb
  clear hb ub
  go_wp2_with fail
  refine (cloneO c oc lc cc zc _ c0 c1 HC2.out).mono ?_
  rintro e w3 ⟨rfl, hb, uc⟩
  have HA3 := Lib.hid (fun i hi => blater hb (HA2.out i hi))
  have HB3 := Lib.hid (fun i hi => blater hb (HB2.out i hi))
  have HC3 := Lib.hid uc
  replace hB := btrans hB hb
  clear hb uc
  go_wp2_with fail
  refine (pats _ _ _ n la lb lc la lb lc _ n0 (by omega) n1 n2 n3 (fun i hi => ⟨_, HA3.out i (by omega)⟩) (fun i hi => ⟨_, HB3.out i (by omega)⟩) (fun i hi => ⟨_, HC3.out i (by omega)⟩)).mono ?_
  rintro e w4 ⟨xs, rfl, hown, hb, hF⟩
  obtain ⟨q, o, l, hx, P⟩ := hF n0
  have kG : w4.cell? ⟨w3.heap.size, 0, none⟩ = some (.pointer (some ⟨q, 0, none⟩)) := by rw [hown.cellAt 0 (by omega)]; exact hx
  replace hB := btrans hB hb
  clear hb hown hF hx HA HB HC HB1 HC1 HA2 HC2 HB2 HA3 HB3 HC3 HN
  go_wp2_with fail
  refine (zp_any _ _ _).mono ?_
  rintro e w5 ⟨rfl, hb⟩
  replace kG := blater hb kG
  replace P := P.later hb
  replace hB := btrans hB hb
  clear hb
  obtain ⟨B, hBB⟩ : ∃ B, B = w5.heap.size := ⟨_, rfl⟩
  have HBB := Lib.hid hBB
  clear hBB
  go_wp2_with (at_make; refine wpList_make_full _ rfl _ _ 30 rfl (w5.heap.size + 1) 112 i0 (.agg #[.int .u32 0, .int .u32 0, .string ⟨#[]⟩]) 3 Try.underlying30 hi hz0 hz1 .i64 .i64 _ _ kn rfl rfl rfl rfl ?_ ?_ ?_ ?_)
  · rw [hz2]; omega
  · unfold maxLen; omega
  · simp
  intro w6 hown hgrow
  have hb := (Below.refl _ _).grown hgrow (Nat.le_refl _) (by simp)
  have p0 : w6.cell? ⟨w5.heap.size, 0, none⟩ = some (.int .u32 (zO y z)) := blater hb (by go_simp)
  have p1 : w6.cell? ⟨w5.heap.size, 1, none⟩ = some (.int .u32 (zL y z)) := blater hb (by go_simp)
  have H6 := btrans (balloc (Below.refl w5.heap.size w5) _) hb
  clear hb hgrow HBB B
  go_wp2
  go_loopw [19] (fun i wr => ∃ (j : Nat) (ys : List Value), j ≤ kn ∧ i = .int .i64 j ∧ wr.ownsRow (w5.heap.size + 1) 112 3 (.slice (some ⟨w5.heap.size + 1, 0, none⟩) kn kn) kn ys ∧ Below (w5.heap.size + 1) w6 wr) (fun i _ => kn - (intOf i).toNat)
  case atStart => exact ⟨0, _, Nat.zero_le _, rfl, hown, Below.refl _ _⟩
  case round =>
    clear hown
    obtain ⟨j, ys, hj, rfl, hown, hb⟩ := hrel
    replace p0 := (hb.cell (p := ⟨w5.heap.size, 0, none⟩) (by show w5.heap.size < _; omega)).trans p0
    replace p1 := (hb.cell (p := ⟨w5.heap.size, 1, none⟩) (by show w5.heap.size < _; omega)).trans p1
    by_cases hlt : j < kn
    · have hyl : ys.length = kn * 3 := hown.1
      have c0 : ∃ u, wr.cell? ⟨w5.heap.size + 1, j * 3, none⟩ = some u := by
        rw [hown.cellAt _ (by omega)]; exact ⟨ys[j * 3]'(by omega), List.getElem?_eq_getElem _⟩
      have c1 : ∃ u, wr.cell? ⟨w5.heap.size + 1, j * 3 + 1, none⟩ = some u := by
        rw [hown.cellAt _ (by omega)]; exact ⟨ys[j * 3 + 1]'(by omega), List.getElem?_eq_getElem _⟩
      have c2 : ∃ u, wr.cell? ⟨w5.heap.size + 1, j * 3 + 1 + 1, none⟩ = some u := by
        rw [hown.cellAt _ (by omega)]; exact ⟨ys[j * 3 + 1 + 1]'(by omega), List.getElem?_eq_getElem _⟩
      obtain ⟨u0, c0⟩ := c0
      obtain ⟨u1, c1⟩ := c1
      obtain ⟨u2, c2⟩ := c2
      have f0 := hown.frozenAt (j * 3)
      have f1 := hown.frozenAt (j * 3 + 1)
      have f2 := hown.frozenAt (j * 3 + 1 + 1)
      have R1 := Lib.hid (((hown.stored (j * 3) (.int .u32 (zO y z))).1.stored (j * 3 + 1) (.int .u32 (zL y z))).1.stored (j * 3 + 1 + 1) (.string ⟨#[99]⟩)).1
      have R2 := Lib.hid (((hb.setCell (p := ⟨w5.heap.size + 1, j * 3, none⟩) (Nat.le_refl _) (.int .u32 (zO y z))).setCell (p := ⟨w5.heap.size + 1, j * 3 + 1, none⟩) (Nat.le_refl _) (.int .u32 (zL y z))).setCell (p := ⟨w5.heap.size + 1, j * 3 + 1 + 1, none⟩) (Nat.le_refl _) (.string ⟨#[99]⟩))
      clear hown hb hyl kG P hB H6
      go_wp2
      go_roundw
      case rel => exact ⟨j + 1, _, by omega, by go_num, R1.out, R2.out⟩
      case measure => simp [intOf]; omega
    · have H := H6.trans (hb.mono (Nat.le_succ _))
      replace kG := blater H kG
      replace P := P.later H
      replace hB := btrans hB H
      clear hb H H6 hown
      have m1 : (1 : Int) ≤ (n : Int) := by omega
      have m2 : (0 : Int) < (n : Int) := by omega
      have m3 : 1 ≤ n := n0
      go_wp2_with fail
      refine (itemPos _ _ q n n o l _ n0 (by go_simp) (later (later kG _) _) (P.later (balloc (balloc (Below.refl _ _) _) _))).mono ?_
      rintro e w7 ⟨rfl, hb⟩
      have i1 : w7.cell? ⟨wr.heap.size + 1, 4, none⟩ = some (.slice (some ⟨w3.heap.size, 0, none⟩) 1 n) := blater hb (by go_simp)
      replace kG := blater hb (later (later kG _) _)
      replace P := PosAt.later hb (P.later (balloc (balloc (Below.refl _ _) _) _))
      replace hB := btrans (balloc (balloc hB _) _) hb
      clear hb p0 p1
      go_wp2_with fail
      refine gen (fun W => Below w.heap.size w W ∧ W.cell? ⟨w7.heap.size, 0, none⟩ = some (.int .u32 o) ∧ W.cell? ⟨w7.heap.size, 1, none⟩ = some (.int .u32 l) ∧ W.cell? ⟨wr.heap.size + 1, 4, none⟩ = some (.slice (some ⟨w3.heap.size, 0, none⟩) 1 n) ∧ W.cell? ⟨w3.heap.size, 0, none⟩ = some (.pointer (some ⟨q, 0, none⟩)) ∧ PosAt W w3.heap.size q o l) ⟨balloc hB _, by go_simp, by go_simp, later i1 _, later kG _, P.later (balloc (Below.refl _ _) _)⟩ ?_
      clear hB i1 kG P
      rintro W ⟨hB, k0, k1, i1, kG, P⟩
      go_region_held3 (fun w' => Below w.heap.size w w' ∧ w'.cell? ⟨w7.heap.size, 0, none⟩ = some (.int .u32 o) ∧ w'.cell? ⟨w7.heap.size, 1, none⟩ = some (.int .u32 l) ∧ w'.cell? ⟨wr.heap.size + 1, 4, none⟩ = some (.slice (some ⟨w3.heap.size, 0, none⟩) 1 n) ∧ w'.cell? ⟨w3.heap.size, 0, none⟩ = some (.pointer (some ⟨q, 0, none⟩)) ∧ PosAt w' w3.heap.size q o l) ((go_split_ands; (refine ⟨?_, ?_, ?_, ?_, ?_, ?_⟩) <;> (first | assumption | (with_reducible refine Below.drew ?_; assumption) | (with_reducible refine PosAt.drew ?_; assumption) | (with_reducible refine btrans ?_ hb; assumption) | (with_reducible refine blater hb ?_; assumption) | (with_reducible refine PosAt.later hb ?_; assumption)))) (first | (go_at_call 71; go_split_ands; refine (itemPos _ w3.heap.size q 1 n o l _ (by decide) ?_ ?_ ?_).mono ?_; (focus assumption); (focus assumption); (focus assumption); rintro e w' ⟨rfl, hb⟩) | (go_at_call 72; go_split_ands; refine (wordPos w3.heap.size q o l _ ?_).mono ?_; (focus assumption); rintro e w' ⟨rfl, hb⟩))
      clear hB k0 k1 i1 kG P
      obtain ⟨hB, k0, k1, i1, kG, P⟩ : Below w.heap.size w w' ∧ w'.cell? ⟨w7.heap.size, 0, none⟩ = some (.int .u32 o) ∧ w'.cell? ⟨w7.heap.size, 1, none⟩ = some (.int .u32 l) ∧ w'.cell? ⟨wr.heap.size + 1, 4, none⟩ = some (.slice (some ⟨w3.heap.size, 0, none⟩) 1 n) ∧ w'.cell? ⟨w3.heap.size, 0, none⟩ = some (.pointer (some ⟨q, 0, none⟩)) ∧ PosAt w' w3.heap.size q o l := by assumption
      go_wp2
      go_ret
      exact ⟨ret_bool (by simp), hB⟩
theorem item_law (a b c : Option Addr) (la lb lc ca cb cc : Nat) (x y z k : Int) (w : World)
    (ha : RowOf (fun v => ∃ n, v = .int .u32 n) w a la ca) (hb : RowOf (fun v => ∃ n, v = .int .u32 n) w b lb cb) (hc : RowOf (fun v => ∃ n, v = .bool n) w c lc cc) : Calls Try.prog 13 #[.slice a la ca, .slice b lb cb, .slice c lc cc, .int .u32 x, .int .u32 y, .int .u32 z, .int .i64 k] w fun e w' => e = .returned (.bool true) ∧ Below w.heap.size w w' := by
  have ma := ha.len
  have mb := hb.len
  have mc := hc.len
  by_cases h1 : la ≤ 4096
  · by_cases h2 : lb ≤ 4096
    · by_cases h3 : lc ≤ 4096
      · by_cases h4 : 0 ≤ k
        · by_cases h5 : k ≤ 4096
          · by_cases h6 : min (min la lb) lc = 0
            · exact item_o6 a b c la lb lc ca cb cc x y z k w ma mb mc h1 h2 h3 h4 h5 h6
            · obtain ⟨a, oa, rfl, va⟩ := ha.some_ (by omega)
              obtain ⟨b, ob, rfl, vb⟩ := hb.some_ (by omega)
              obtain ⟨c, oc, rfl, vc⟩ := hc.some_ (by omega)
              obtain ⟨kn, rfl⟩ : ∃ kn : Nat, k = kn := ⟨k.toNat, by omega⟩
              have ea : ∃ za : Nat → Int, ∀ i, i < la → w.cell? ⟨a, oa + i, none⟩ = some (.int .u32 (za i)) := pick_int va
              have eb : ∃ zb : Nat → Int, ∀ i, i < lb → w.cell? ⟨b, ob + i, none⟩ = some (.int .u32 (zb i)) := pick_int vb
              have ec : ∃ zc : Nat → Bool, ∀ i, i < lc → w.cell? ⟨c, oc + i, none⟩ = some (.bool (zc i)) := pick_bool vc
              obtain ⟨za, va⟩ := ea
              obtain ⟨zb, vb⟩ := eb
              obtain ⟨zc, vc⟩ := ec
              exact item_in a b c oa ob oc la lb lc ca cb cc kn x y z za zb zc w (by omega) h1 (by omega) h2 (by omega) h3 (by omega) va vb vc
          · exact item_o5 a b c la lb lc ca cb cc x y z k w ma mb mc h1 h2 h3 h4 (by omega)
        · exact item_o4 a b c la lb lc ca cb cc x y z k w ma mb mc h1 h2 h3 (by omega)
      · exact item_o3 a b c la lb lc ca cb cc x y z k w ma mb mc h1 h2 (by omega)
    · exact item_o2 a b c la lb lc ca cb cc x y z k w ma mb mc h1 (by omega)
  · exact item_o1 a b c la lb lc ca cb cc x y z k w ma mb mc (by omega)
end Go.Proofs.Ytjpodhmjmohblaa
