/- The walks of the three laws: clone, build, ask. -/
import Derived.Test.YtfpfeeojnchkaaaBuild
import Derived.Test.YtfpfeeojnchkaaaPlain
import Derived.OpenShut
namespace Go.Proofs.Ytfpfeeojnchkaaa
open Go.RowKit
set_option linter.unusedVariables false

theorem ret_bool {a b : Bool} (h : a = b) : Ending.returned (.bool a) = .returned (.bool b) := by rw [h]
theorem w9 {p : Nat} {b : Bool} {w : World} (S : Says 19 none w (SP p) b) : Calls Try.prog 9 #[PT p] w fun e w' => e = .returned (.bool b) ∧ w = w' := by
  have H := Lib.hid S.here
  clear S
  go_enter Try.func9, Try.ntmps9
  go_wp2_with (go_at_call 19; refine H.out.mono ?_; rintro e w' ⟨rfl, rfl⟩)
  go_ret
  exact ⟨rfl, rfl⟩
theorem w11 {p : Nat} {b : Bool} {w : World} (S : Says 20 none w (SP p) b) : Calls Try.prog 11 #[PT p] w fun e w' => e = .returned (.bool b) ∧ w = w' := by
  have H := Lib.hid S.here
  clear S
  go_enter Try.func11, Try.ntmps11
  go_wp2_with (go_at_call 20; refine H.out.mono ?_; rintro e w' ⟨rfl, rfl⟩)
  go_ret
  exact ⟨rfl, rfl⟩
/-- a slice that came in: nil, or a row of cells each of which holds a value of the kind Q -/
def RowOf (Q : Value → Prop) (w : World) (a : Option Addr) (len cap : Nat) : Prop :=
  (a = none ∧ len = 0 ∧ cap = 0) ∨ ∃ x, a = some x ∧ len ≤ cap ∧ cap ≤ maxLen ∧ ∀ i, i < cap → ∃ v, w.cell? (x.add i) = some v ∧ Q v
theorem RowOf.len {Q : Value → Prop} {w : World} {a : Option Addr} {len cap : Nat} (h : RowOf Q w a len cap) : len ≤ 9223372036854775807 := by
  rcases h with ⟨_, rfl, _⟩ | ⟨x, _, h1, h2, _⟩
  · omega
  · unfold maxLen at h2; omega
theorem RowOf.some_ {Q : Value → Prop} {w : World} {a : Option Addr} {len cap : Nat} (h : RowOf Q w a len cap) (h0 : 0 < len) : ∃ b off, a = some ⟨b, off, none⟩ ∧ ∀ i, i < len → ∃ v, w.cell? ⟨b, off + i, none⟩ = some v ∧ Q v := by
  rcases h with ⟨_, rfl, _⟩ | ⟨x, rfl, h1, h2, hc⟩
  · omega
  · obtain ⟨b, off, spot⟩ := x
    obtain ⟨v0, hv0, _⟩ := hc 0 (by omega)
    have hspot : spot = none := by simpa [Addr.add] using World.cell?_spot hv0
    subst hspot
    refine ⟨b, off, rfl, fun i hi => ?_⟩
    obtain ⟨v, hv, hq⟩ := hc i (by omega)
    refine ⟨v, ?_, hq⟩
    by_cases hi0 : i = 0
    · subst hi0; simpa [Addr.add] using hv
    · simpa [Addr.add, hi0] using hv
theorem pick_u8 {w : World} {b off len : Nat} (h : ∀ i, i < len → ∃ v, w.cell? ⟨b, off + i, none⟩ = some v ∧ ∃ n, v = .int .u8 n ∧ (Lit.int .u8 n).wf = true) : ∃ z : Nat → Int, ∀ i, i < len → w.cell? ⟨b, off + i, none⟩ = some (.int .u8 (z i)) ∧ 0 ≤ z i ∧ z i < 256 := by
  have : ∀ i, ∃ n : Int, i < len → w.cell? ⟨b, off + i, none⟩ = some (.int .u8 n) ∧ 0 ≤ n ∧ n < 256 := fun i => by
    by_cases hi : i < len
    · obtain ⟨v, hv, n, rfl, hw⟩ := h i hi
      exact ⟨n, fun _ => ⟨hv, (bounds_u8 hw).1, by have := (bounds_u8 hw).2; omega⟩⟩
    · exact ⟨0, fun hh => absurd hh hi⟩
  exact ⟨fun i => (this i).choose, fun i hi => (this i).choose_spec hi⟩
def Upto (xs : List Value) (k : Nat) (f : Nat → Value) : Prop := ∀ i, i < k → xs[i]? = some (f i)
theorem Upto.put {xs : List Value} {k : Nat} {f : Nat → Value} (h : Upto xs k f) (hk : k < xs.length) : Upto (xs.set k (f k)) (k + 1) f := fun i hi => by
  by_cases e : i = k
  · subst e; rw [List.getElem?_set_self (by omega)]
  · rw [List.getElem?_set_ne (by omega)]; exact h i (by omega)
theorem cloneB_info : (Try.prog.info? 5).map (fun i => (i.zero, i.size, i.bytes)) = some (some (.int .u8 0), 1, 1) := by kernel_rfl
set_option maxHeartbeats 400000 in
theorem cloneB (b off len cap : Nat) (zs : Nat → Int) (w : World) (h0 : 0 < len) (hlen : len ≤ 4096) (hc : ∀ i, i < len → w.cell? ⟨b, off + i, none⟩ = some (.int .u8 (zs i))) :
    Calls Try.prog 7 #[.slice (some ⟨b, off, none⟩) len cap] w fun e w' => e = .returned (.slice (some ⟨w.heap.size, 0, none⟩) len len) ∧ Below w.heap.size w w' ∧ ∀ i, i < len → w'.cell? ⟨w.heap.size, i, none⟩ = some (.int .u8 (zs i)) := by
  obtain ⟨i0, hi, hz0, hz1, hz2⟩ := info_parts cloneB_info
  have hlt : b < w.heap.size := World.block_lt_of_cell? w _ (hc 0 h0)
  have HC := Lib.hid hc
  clear hc
  have hn := fun wx : World => Lib.run_eql_slice_nil (P := Try.prog) wx 22 5 (some ⟨b, off, none⟩) len cap 0 0 Try.underlying22
  go_enter Try.func7, Try.ntmps7
  go_wp2_with (at_make; refine wpList_make_full _ rfl _ _ 22 rfl w.heap.size 5 i0 (.int .u8 0) 1 Try.underlying22 hi hz0 hz1 .i64 .i64 _ _ len rfl rfl rfl rfl ?_ ?_ ?_ ?_)
  · rw [hz2]; omega
  · unfold maxLen; omega
  · exact Nat.le_refl _
  intro w1 hown hgrow
  have hB : Below w.heap.size w w1 := (Below.refl _ _).grown hgrow (Nat.le_refl _) (by simp)
  clear hgrow hn
  go_wp2
  go_loopw [4] (fun i wr => ∃ (k : Nat) (xs : List Value), k ≤ len ∧ i = .int .i64 k ∧ wr.ownsRow w.heap.size 5 1 (.slice (some ⟨w.heap.size, 0, none⟩) len len) len xs ∧ Below w.heap.size w wr ∧ Upto xs k (fun i => .int .u8 (zs i))) (fun i _ => len - (intOf i).toNat)
  case atStart => exact ⟨0, _, Nat.zero_le _, rfl, hown, hB, fun i hi => absurd hi (by omega)⟩
  case round =>
    clear hown hB
    obtain ⟨k, xs, hk, rfl, hown, hB, hU⟩ := hrel
    by_cases hlt2 : k < len
    · have g1 : wr.cell? ⟨b, off + k, none⟩ = some (.int .u8 (zs k)) := (hB.cell (by exact hlt)).trans (HC.out k hlt2)
      have hxl : xs.length = len := by have := hown.1; omega
      have g2 : ∃ u, wr.cell? ⟨w.heap.size, k, none⟩ = some u := by
        rw [hown.cellAt k (by omega)]
        exact ⟨xs[k]'(by omega), List.getElem?_eq_getElem _⟩
      obtain ⟨u, g2⟩ := g2
      have g3 := hown.frozenAt k
      have R1 := Lib.hid (hown.stored k (.int .u8 (zs k)))
      have R2 := Lib.hid (hB.setCell (p := ⟨w.heap.size, k, none⟩) (Nat.le_refl _) (.int .u8 (zs k)))
      have R3 := Lib.hid (hU.put (by omega))
      clear hown hB hU hxl
      go_wp2
      go_roundw
      case rel => exact ⟨k + 1, _, by omega, by go_num, R1.out.1, R2.out, R3.out⟩
      case measure => simp [intOf]; omega
    · go_wp2
      go_ret
      obtain rfl : k = len := by omega
      exact ⟨rfl, hB, fun i hi => by rw [hown.cellAt i (by omega)]; exact hU i hi⟩
theorem clone_nil (w : World) : Calls Try.prog 7 #[.slice none 0 0] w fun e w' => ∃ A c, e = .returned (.slice A 0 c) ∧ Below w.heap.size w w' := by
  have hn := fun wx : World => Lib.run_eql_slice_nil (P := Try.prog) wx 22 5 none 0 0 0 0 Try.underlying22
  go_enter Try.func7, Try.ntmps7
  go_wp2
  go_ret
  exact ⟨_, _, rfl, Below.refl _ _⟩
theorem clone_empty (x : Addr) (cap : Nat) (w : World) : Calls Try.prog 7 #[.slice (some x) 0 cap] w fun e w' => ∃ A c, e = .returned (.slice A 0 c) ∧ Below w.heap.size w w' := by
  obtain ⟨i0, hi, hz0, hz1, hz2⟩ := info_parts cloneB_info
  have hn := fun wx : World => Lib.run_eql_slice_nil (P := Try.prog) wx 22 5 (some x) 0 cap 0 0 Try.underlying22
  go_enter Try.func7, Try.ntmps7
  go_wp2_with (at_make; refine wpList_make_full _ rfl _ _ 22 rfl w.heap.size 5 i0 (.int .u8 0) 1 Try.underlying22 hi hz0 hz1 .i64 .i64 _ _ 0 rfl rfl rfl rfl ?_ ?_ ?_ ?_)
  · rw [hz2]; omega
  · decide
  · exact Nat.le_refl _
  intro w1 hown hgrow
  have hB : Below w.heap.size w w1 := (Below.refl _ _).grown hgrow (Nat.le_refl _) (by simp)
  go_wp2
  refine wp_loop_rounds 1 ?_
  rw [rounds_succ]
  go_wp2
  go_ret
  exact ⟨_, _, rfl, hB⟩
theorem clone_zero (a : Option Addr) (cap : Nat) (w : World) (h : a = none → cap = 0) : Calls Try.prog 7 #[.slice a 0 cap] w fun e w' => ∃ A c, e = .returned (.slice A 0 c) ∧ Below w.heap.size w w' := by
  cases a with
  | none => rw [h rfl]; exact clone_nil w
  | some x => exact clone_empty x cap w
set_option maxRecDepth 100000 in
theorem build_zero (A : Option Addr) (c : Nat) (cl mi : Bool) (w : World) : Calls Try.prog 8 #[.slice A 0 c, .bool cl, .bool mi] w fun e w' => e = .returned (.tuple #[.pointer none, .bool false, .bool false, .bool false, .bool false]) ∧ w = w' := by
  go_enter Try.func8, Try.ntmps8
  go_wp2
  refine wp_loop_rounds 1 ?_
  rw [rounds_succ]
  go_wp2
  exact bodyPost_ret (v := .tuple #[.pointer none, .bool false, .bool false, .bool false, .bool false]) (by simp [results, Try.results8, go_sem]) rfl ⟨rfl, rfl⟩
theorem l3_long (a : Option Addr) (len cap : Nat) (w : World) (h : 4096 < len) (m : len ≤ 9223372036854775807) : Calls Try.prog 3 #[.slice a len cap] w fun e w' => e = .returned (.bool true) ∧ Below w.heap.size w w' := by
  go_enter Try.func3, Try.ntmps3
  go_wp2_with (go_at_call 6; go_in)
  all_goals
    go_ret
    exact ⟨rfl, Below.refl _ _⟩
theorem l3_zero (a : Option Addr) (cap : Nat) (w : World) (h : a = none → cap = 0) : Calls Try.prog 3 #[.slice a 0 cap] w fun e w' => e = .returned (.bool true) ∧ Below w.heap.size w w' := by
  have CZ := Lib.hid (clone_zero a cap w h)
  clear h
  go_enter Try.func3, Try.ntmps3
  go_wp2_with (go_at_call 6; go_in)
  refine CZ.out.mono ?_
  rintro e w1 ⟨A, c, rfl, hb⟩
  go_wp2_with (first | (go_at_call 8; refine (build_zero _ _ _ _ _).mono ?_; rintro e w' ⟨rfl, rfl⟩))
  go_ret
  exact ⟨rfl, hb⟩
theorem l4_long (a : Option Addr) (len cap : Nat) (w : World) (h : 4096 < len) (m : len ≤ 9223372036854775807) : Calls Try.prog 4 #[.slice a len cap] w fun e w' => e = .returned (.bool true) ∧ Below w.heap.size w w' := by
  go_enter Try.func4, Try.ntmps4
  go_wp2_with (go_at_call 10; go_in)
  all_goals
    go_ret
    exact ⟨rfl, Below.refl _ _⟩
theorem l4_zero (a : Option Addr) (cap : Nat) (w : World) (h : a = none → cap = 0) : Calls Try.prog 4 #[.slice a 0 cap] w fun e w' => e = .returned (.bool true) ∧ Below w.heap.size w w' := by
  have CZ := Lib.hid (clone_zero a cap w h)
  clear h
  go_enter Try.func4, Try.ntmps4
  go_wp2_with (go_at_call 10; go_in)
  refine CZ.out.mono ?_
  rintro e w1 ⟨A, c, rfl, hb⟩
  go_wp2_with (first | (go_at_call 8; refine (build_zero _ _ _ _ _).mono ?_; rintro e w' ⟨rfl, rfl⟩))
  go_ret
  exact ⟨rfl, hb⟩
theorem l5_long (a : Option Addr) (len cap : Nat) (w : World) (h : 4096 < len) (m : len ≤ 9223372036854775807) : Calls Try.prog 5 #[.slice a len cap] w fun e w' => e = .returned (.bool true) ∧ Below w.heap.size w w' := by
  go_enter Try.func5, Try.ntmps5
  go_wp2_with (go_at_call 12; go_in)
  all_goals
    go_ret
    exact ⟨rfl, Below.refl _ _⟩
theorem l5_zero (a : Option Addr) (cap : Nat) (w : World) (h : a = none → cap = 0) : Calls Try.prog 5 #[.slice a 0 cap] w fun e w' => e = .returned (.bool true) ∧ Below w.heap.size w w' := by
  have CZ := Lib.hid (clone_zero a cap w h)
  clear h
  go_enter Try.func5, Try.ntmps5
  go_wp2_with (go_at_call 12; go_in)
  refine CZ.out.mono ?_
  rintro e w1 ⟨A, c, rfl, hb⟩
  go_wp2_with (first | (go_at_call 8; refine (build_zero _ _ _ _ _).mono ?_; rintro e w' ⟨rfl, rfl⟩))
  go_ret
  exact ⟨rfl, hb⟩
set_option maxHeartbeats 1000000 in
theorem l3_in (b off len cap : Nat) (zs : Nat → Int) (w : World) (l0 : 0 < len) (hl : len ≤ 4096) (hc : ∀ i, i < len → w.cell? ⟨b, off + i, none⟩ = some (.int .u8 (zs i)) ∧ 0 ≤ zs i ∧ zs i < 256) : Calls Try.prog 3 #[.slice (some ⟨b, off, none⟩) len cap] w fun e w' => e = .returned (.bool true) ∧ Below w.heap.size w w' := by
  have HC := Lib.hid hc
  clear hc
  go_enter Try.func3, Try.ntmps3
  go_wp2_with (go_at_call 6; go_in)
  refine (cloneB b off len cap zs _ l0 hl (fun i hi => (HC.out i hi).1)).mono ?_
  rintro e w1 ⟨rfl, hb, ua⟩
  have HU := Lib.hid (fun i hi => (⟨ua i hi, (HC.out i hi).2⟩ : w1.cell? ⟨w.heap.size, i, none⟩ = some (.int .u8 (zs i)) ∧ 0 ≤ zs i ∧ zs i < 256))
  clear ua
  go_wp2_with fail
  refine (build_x w.heap.size len len zs false false _ l0 hl HU.out).mono ?_
  rintro e w2 ⟨hB2, ⟨hs, rfl⟩ | ⟨s', ⟨xa, xe, xf⟩, p, hs, rfl, S1, S2⟩⟩
  · clear hs
    go_wp2
    go_ret
    exact ⟨rfl, btrans hb hB2⟩
  · have HS1 := Lib.hid S1
    clear S1 S2 hs
    go_wp2_with (go_at_call 9; refine (w9 HS1.out).mono ?_; rintro e w' ⟨rfl, rfl⟩)
    go_ret
    exact ⟨ret_bool (by simp), btrans hb hB2⟩
set_option maxHeartbeats 1000000 in
theorem l4_in (b off len cap : Nat) (zs : Nat → Int) (w : World) (l0 : 0 < len) (hl : len ≤ 4096) (hc : ∀ i, i < len → w.cell? ⟨b, off + i, none⟩ = some (.int .u8 (zs i)) ∧ 0 ≤ zs i ∧ zs i < 256) : Calls Try.prog 4 #[.slice (some ⟨b, off, none⟩) len cap] w fun e w' => e = .returned (.bool true) ∧ Below w.heap.size w w' := by
  have HC := Lib.hid hc
  clear hc
  go_enter Try.func4, Try.ntmps4
  go_wp2_with (go_at_call 10; go_in)
  refine (cloneB b off len cap zs _ l0 hl (fun i hi => (HC.out i hi).1)).mono ?_
  rintro e w1 ⟨rfl, hb, ua⟩
  have HU := Lib.hid (fun i hi => (⟨ua i hi, (HC.out i hi).2⟩ : w1.cell? ⟨w.heap.size, i, none⟩ = some (.int .u8 (zs i)) ∧ 0 ≤ zs i ∧ zs i < 256))
  clear ua
  go_wp2_with fail
  refine (build_x w.heap.size len len zs true false _ l0 hl HU.out).mono ?_
  rintro e w2 ⟨hB2, ⟨hs, rfl⟩ | ⟨s', ⟨xa, xe, xf⟩, p, hs, rfl, S1, S2⟩⟩
  · clear hs
    go_wp2
    go_ret
    exact ⟨rfl, btrans hb hB2⟩
  have HS := Lib.hid hs
  have HS1 := Lib.hid S1
  have HS2 := Lib.hid S2
  have HB2 := Lib.hid hB2
  have HU2 := Lib.hid (fun i hi => (⟨blater hB2 (HU.out i hi).1, (HU.out i hi).2⟩ : w2.cell? ⟨w.heap.size, i, none⟩ = some (.int .u8 (zs i)) ∧ 0 ≤ zs i ∧ zs i < 256))
  clear hs S1 S2 hB2
  go_wp2_with fail
  refine (build_x w.heap.size len len zs true true _ l0 hl HU2.out).mono ?_
  rintro e w3 ⟨hB3, ⟨ht, rfl⟩ | ⟨u', ⟨ya, ye, yf⟩, q, ht, rfl, T1, T2⟩⟩
  · exfalso
    have := HS.out
    rw [mirror, this] at ht
    simp at ht
  · have hxy : xa = ye ∧ xe = ya := by
      have h := HS.out
      rw [mirror, h] at ht
      simp only [List.map_append, List.map_cons, List.map_nil, sw] at ht
      have := List.append_inj_right' ht rfl
      simp at this
      exact ⟨this.2.1, this.1⟩
    obtain ⟨rfl, rfl⟩ := hxy
    have K1 := Lib.hid (Says.later HS1.out (Kp.below hB3))
    have K2 := Lib.hid (Says.later HS2.out (Kp.below hB3))
    have K3 := Lib.hid T1
    have K4 := Lib.hid T2
    have HB3 := Lib.hid hB3
    clear T1 T2 hB3 ht HS1 HS2 HS
    go_wp2_with (first | (go_at_call 9; refine (w9 K1.out).mono ?_; rintro e w' ⟨rfl, rfl⟩) | (go_at_call 9; refine (w9 K3.out).mono ?_; rintro e w' ⟨rfl, rfl⟩) | (go_at_call 11; refine (w11 K2.out).mono ?_; rintro e w' ⟨rfl, rfl⟩) | (go_at_call 11; refine (w11 K4.out).mono ?_; rintro e w' ⟨rfl, rfl⟩))
    go_ret
    exact ⟨ret_bool (by simp), btrans hb (btrans HB2.out HB3.out)⟩
set_option maxHeartbeats 1000000 in
theorem l5_in (b off len cap : Nat) (zs : Nat → Int) (w : World) (l0 : 0 < len) (hl : len ≤ 4096) (hc : ∀ i, i < len → w.cell? ⟨b, off + i, none⟩ = some (.int .u8 (zs i)) ∧ 0 ≤ zs i ∧ zs i < 256) : Calls Try.prog 5 #[.slice (some ⟨b, off, none⟩) len cap] w fun e w' => e = .returned (.bool true) ∧ Below w.heap.size w w' := by
  have HC := Lib.hid hc
  clear hc
  go_enter Try.func5, Try.ntmps5
  go_wp2_with (go_at_call 12; go_in)
  refine (cloneB b off len cap zs _ l0 hl (fun i hi => (HC.out i hi).1)).mono ?_
  rintro e w1 ⟨rfl, hb, ua⟩
  have HU := Lib.hid (fun i hi => (⟨ua i hi, (HC.out i hi).2⟩ : w1.cell? ⟨w.heap.size, i, none⟩ = some (.int .u8 (zs i)) ∧ 0 ≤ zs i ∧ zs i < 256))
  clear ua
  go_wp2_with fail
  refine (build_x w.heap.size len len zs false false _ l0 hl HU.out).mono ?_
  rintro e w2 ⟨hB2, ⟨hs, rfl⟩ | ⟨s', ⟨xa, xe, xf⟩, p, hs, rfl, S1, S2⟩⟩
  · clear hs
    go_wp2
    go_ret
    exact ⟨rfl, btrans hb hB2⟩
  have HS := Lib.hid hs
  have HS1 := Lib.hid S1
  have HS2 := Lib.hid S2
  have HB2 := Lib.hid hB2
  have HU2 := Lib.hid (fun i hi => (⟨blater hB2 (HU.out i hi).1, (HU.out i hi).2⟩ : w2.cell? ⟨w.heap.size, i, none⟩ = some (.int .u8 (zs i)) ∧ 0 ≤ zs i ∧ zs i < 256))
  clear hs S1 S2 hB2
  go_wp2_with fail
  refine (build_x w.heap.size len len zs true false _ l0 hl HU2.out).mono ?_
  rintro e w3 ⟨hB3, ⟨ht, rfl⟩ | ⟨u', ⟨ya, ye, yf⟩, q, ht, rfl, T1, T2⟩⟩
  · exfalso
    have h1 := (leq_run zs len).1
    rw [HS.out, ht] at h1
    simp at h1
  · have hle : xe = true → ye = true := leq_last (leq_run zs len) HS.out ht
    have htf : xf = true → xe = false := top_flag false false zs len (xa, xe, xf) (by rw [HS.out]; simp)
    have K2 := Lib.hid (Says.later HS2.out (Kp.below hB3))
    have K4 := Lib.hid T2
    have HB3 := Lib.hid hB3
    clear T1 T2 hB3 ht HS1 HS2 HS
    cases xe
    · clear hle htf
      cases xf
      all_goals
        go_wp2_with (first | (go_at_call 11; refine (w11 K2.out).mono ?_; rintro e w' ⟨rfl, rfl⟩) | (go_at_call 11; refine (w11 K4.out).mono ?_; rintro e w' ⟨rfl, rfl⟩))
        go_ret
        exact ⟨rfl, btrans hb (btrans HB2.out HB3.out)⟩
    · obtain rfl : ye = true := hle rfl
      obtain rfl : xf = false := by cases xf <;> simp at htf ⊢
      clear hle htf
      go_wp2_with (first | (go_at_call 11; refine (w11 K2.out).mono ?_; rintro e w' ⟨rfl, rfl⟩) | (go_at_call 11; refine (w11 K4.out).mono ?_; rintro e w' ⟨rfl, rfl⟩))
      go_ret
      exact ⟨rfl, btrans hb (btrans HB2.out HB3.out)⟩
theorem l3 (a : Option Addr) (len cap : Nat) (w : World) (h : RowOf (fun v => ∃ n, v = .int .u8 n ∧ (Lit.int .u8 n).wf = true) w a len cap) : Calls Try.prog 3 #[.slice a len cap] w fun e w' => e = .returned (.bool true) ∧ Below w.heap.size w w' := by
  have hm := h.len
  by_cases h0 : len = 0
  · subst h0
    exact l3_zero a cap w (fun ha => by rcases h with ⟨_, _, hc⟩ | ⟨x, hx, _⟩; exact hc; rw [ha] at hx; cases hx)
  · by_cases hl : len ≤ 4096
    · obtain ⟨b, off, rfl, hv⟩ := h.some_ (by omega)
      obtain ⟨zs, hz⟩ := pick_u8 hv
      exact l3_in b off len cap zs w (by omega) hl hz
    · exact l3_long a len cap w (by omega) hm
theorem l4 (a : Option Addr) (len cap : Nat) (w : World) (h : RowOf (fun v => ∃ n, v = .int .u8 n ∧ (Lit.int .u8 n).wf = true) w a len cap) : Calls Try.prog 4 #[.slice a len cap] w fun e w' => e = .returned (.bool true) ∧ Below w.heap.size w w' := by
  have hm := h.len
  by_cases h0 : len = 0
  · subst h0
    exact l4_zero a cap w (fun ha => by rcases h with ⟨_, _, hc⟩ | ⟨x, hx, _⟩; exact hc; rw [ha] at hx; cases hx)
  · by_cases hl : len ≤ 4096
    · obtain ⟨b, off, rfl, hv⟩ := h.some_ (by omega)
      obtain ⟨zs, hz⟩ := pick_u8 hv
      exact l4_in b off len cap zs w (by omega) hl hz
    · exact l4_long a len cap w (by omega) hm
theorem l5 (a : Option Addr) (len cap : Nat) (w : World) (h : RowOf (fun v => ∃ n, v = .int .u8 n ∧ (Lit.int .u8 n).wf = true) w a len cap) : Calls Try.prog 5 #[.slice a len cap] w fun e w' => e = .returned (.bool true) ∧ Below w.heap.size w w' := by
  have hm := h.len
  by_cases h0 : len = 0
  · subst h0
    exact l5_zero a cap w (fun ha => by rcases h with ⟨_, _, hc⟩ | ⟨x, hx, _⟩; exact hc; rw [ha] at hx; cases hx)
  · by_cases hl : len ≤ 4096
    · obtain ⟨b, off, rfl, hv⟩ := h.some_ (by omega)
      obtain ⟨zs, hz⟩ := pick_u8 hv
      exact l5_in b off len cap zs w (by omega) hl hz
    · exact l5_long a len cap w (by omega) hm
end Go.Proofs.Ytfpfeeojnchkaaa
