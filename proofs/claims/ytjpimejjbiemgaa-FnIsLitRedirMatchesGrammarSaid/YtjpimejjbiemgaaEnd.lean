/- The walk of the law FnEndLitReturnsTextBeforeCurrentRune. -/
import Derived.Test.YtjpimejjbiemgaaJoin
namespace Go.Proofs.Ytjpimejjbiemgaa
open Go.RowKit
set_option linter.unusedVariables false

theorem cloneC_info : (Try.prog.info? 5).map (fun i => (i.zero, i.size, i.bytes)) = some (some (.int .u8 0), 1, 1) := by kernel_rfl
def cloneCPost (a : Option Addr) (len : Nat) (zs : List Int) (w : World) (e : Ending) (w' : World) : Prop :=
  ∃ v', e = .returned v' ∧ w'.ownsRow w.heap.size 5 1 v' len ((zs.take len).map (Value.int .u8)) ∧ Below w.heap.size w w' ∧ ((a = none ∧ v' = .slice none 0 0) ∨ (a ≠ none ∧ v' = .slice (some ⟨w.heap.size, 0, none⟩) len len))
theorem cloneC_nil (zs : List Int) (w : World) : Calls Try.prog 16 #[.slice none 0 0] w (cloneCPost none 0 zs w) := by
  have hn := fun wx : World => Lib.run_eql_slice_nil (P := Try.prog) wx 22 5 none 0 0 0 0 Try.underlying22
  go_enter Try.func16, Try.ntmps16
  go_wp2
  go_ret
  exact ⟨_, rfl, World.ownsRow_nil _ _ _ _, Below.refl _ _, .inl ⟨rfl, rfl⟩⟩
theorem cloneC_empty (x : Addr) (cap : Nat) (zs : List Int) (w : World) : Calls Try.prog 16 #[.slice (some x) 0 cap] w (cloneCPost (some x) 0 zs w) := by
  obtain ⟨i0, hi, hz0, hz1, hz2⟩ := info_parts cloneC_info
  have hn := fun wx : World => Lib.run_eql_slice_nil (P := Try.prog) wx 22 5 (some x) 0 cap 0 0 Try.underlying22
  go_enter Try.func16, Try.ntmps16
  go_wp2_with (at_make; refine wpList_make_full _ rfl _ _ 22 rfl w.heap.size 5 i0 (.int .u8 0) 1 Try.underlying22 hi hz0 hz1 .i64 .i64 _ _ 0 rfl rfl rfl rfl ?_ ?_ ?_ ?_)
  · rw [hz2]; omega
  · decide
  · exact Nat.le_refl _
  intro w1 hown hgrow
  have hB : Below w.heap.size w w1 := (Below.refl _ _).grown hgrow (Nat.le_refl _) (by simp)
  go_wp2
  refine wp_loop_rounds 1 ?_
  rw [rounds_succ]
  go_wp2
  go_ret
  exact ⟨_, rfl, by simpa [madeCells] using hown, hB, .inr ⟨by simp, rfl⟩⟩
set_option maxHeartbeats 400000 in
theorem cloneC_some (b off len cap : Nat) (zs : List Int) (w : World) (h0 : 0 < len) (hlen : len ≤ 1048576) (hz : len ≤ zs.length) (hc : ∀ i, i < len → w.cell? ⟨b, off + i, none⟩ = some (.int .u8 (zs.getD i 0))) :
    Calls Try.prog 16 #[.slice (some ⟨b, off, none⟩) len cap] w (cloneCPost (some ⟨b, off, none⟩) len zs w) := by
  obtain ⟨i0, hi, hz0, hz1, hz2⟩ := info_parts cloneC_info
  have hlt : b < w.heap.size := World.block_lt_of_cell? w _ (hc 0 h0)
  have HC := Lib.hid hc
  clear hc
  have hn := fun wx : World => Lib.run_eql_slice_nil (P := Try.prog) wx 22 5 (some ⟨b, off, none⟩) len cap 0 0 Try.underlying22
  go_enter Try.func16, Try.ntmps16
  go_wp2_with (at_make; refine wpList_make_full _ rfl _ _ 22 rfl w.heap.size 5 i0 (.int .u8 0) 1 Try.underlying22 hi hz0 hz1 .i64 .i64 _ _ len rfl rfl rfl rfl ?_ ?_ ?_ ?_)
  · rw [hz2]; omega
  · unfold maxLen; omega
  · exact Nat.le_refl _
  intro w1 hown hgrow
  rw [made_list, ← part_zero .u8 zs len] at hown
  have hB : Below w.heap.size w w1 := (Below.refl _ _).grown hgrow (Nat.le_refl _) (by simp)
  clear hgrow hn
  go_wp2
  go_loopw [4] (fun i wr => ∃ k : Nat, k ≤ len ∧ i = .int .i64 k ∧ wr.ownsRow w.heap.size 5 1 (.slice (some ⟨w.heap.size, 0, none⟩) len len) len (part .u8 zs len k) ∧ Below w.heap.size w wr) (fun i _ => len - (intOf i).toNat)
  case atStart => exact ⟨0, Nat.zero_le _, rfl, hown, hB⟩
  case round =>
    clear hown hB
    obtain ⟨k, hk, rfl, hown, hB⟩ := hrel
    by_cases hlt2 : k < len
    · have g1 : wr.cell? ⟨b, off + k, none⟩ = some (.int .u8 (zs.getD k 0)) := (hB.cell (by exact hlt)).trans (HC.out k hlt2)
      have g2 : ∃ u, wr.cell? ⟨w.heap.size, k, none⟩ = some u := by
        rw [hown.cellAt k (by omega)]
        have hp := part_len .u8 zs len k hz hk
        exact ⟨(part .u8 zs len k)[k]'(by omega), List.getElem?_eq_getElem _⟩
      obtain ⟨u, g2⟩ := g2
      have g3 := hown.frozenAt k
      have R1 := Lib.hid (hown.stored k (.int .u8 (zs.getD k 0)))
      have R2 := Lib.hid (hB.setCell (p := ⟨w.heap.size, k, none⟩) (Nat.le_refl _) (.int .u8 (zs.getD k 0)))
      clear hown hB
      go_wp2
      go_roundw
      case rel =>
        have r1 := R1.out
        have r2 := R2.out
        rw [part_step .u8 zs len k hz hlt2] at r1
        simp only [List.getD_eq_getElem?_getD] at r1 r2
        exact ⟨k + 1, by omega, by go_num, r1.1, r2⟩
      case measure => simp [intOf]; omega
    · go_wp2
      go_ret
      obtain rfl : k = len := by omega
      exact ⟨_, rfl, by rw [part_full] at hown; exact hown, hB, .inr ⟨by simp, rfl⟩⟩

structure prs (p : Nat) (r m : Int) (l : Int) (lit : Value) (w : World) : Prop where
  h1 : w.cell? ⟨p, 3, none⟩ = some (.int .i32 r)
  h2 : w.cell? ⟨p, 4, none⟩ = some (.int .i64 m)
  h3 : w.cell? ⟨p, 2087, none⟩ = some lit
  h4 : w.frozen? ⟨p, 2087, none⟩ = false
  h5 : w.cell? ⟨p, 20, none⟩ = some (.int .i64 l)
theorem builtP (r m l : Int) (a : Option Addr) (len cap : Nat) : ∃ cs : Array Value, Try.prog.built 87 [(1, .slice none 0 0), (2, .int .u64 0), (3, .int .i32 r), (4, .int .i64 m), (40, .slice a len cap), (19, .int .i64 l)] = some cs ∧ cs[3]? = some (.int .i32 r) ∧ cs[4]? = some (.int .i64 m) ∧ cs[2087]? = some (.slice a len cap) ∧ cs[20]? = some (.int .i64 l) :=
  ⟨(Try.prog.built 87 [(1, .slice none 0 0), (2, .int .u64 0), (3, .int .i32 r), (4, .int .i64 m), (40, .slice a len cap), (19, .int .i64 l)]).getD #[], by kernel_rfl, by kernel_rfl, by kernel_rfl, by kernel_rfl, by kernel_rfl⟩
theorem newP (r m l : Int) (a : Option Addr) (len cap : Nat) (w : World) :
    Calls Try.prog 33 #[.slice none 0 0, .int .u64 0, .int .i32 r, .int .i64 m, .slice a len cap, .int .i64 l] w fun e w' => e = .returned (.pointer (some ⟨w.heap.size, 0, none⟩)) ∧ prs w.heap.size r m l (.slice a len cap) w' ∧ Below w.heap.size w w' := by
  obtain ⟨cs, hb, h1, h2, h3, h4⟩ := builtP r m l a len cap
  have HB := Lib.hid hb
  clear hb
  have H1 := Lib.hid h1
  have H2 := Lib.hid h2
  have H3 := Lib.hid h3
  have H4 := Lib.hid h4
  clear h1 h2 h3 h4
  go_enter Try.func33, Try.ntmps33
  go_wp2_with (refine wpList_build_some rfl 87 _ rfl _ cs HB.out ?hl ?_; focus (go_simp; done))
  go_ret
  exact ⟨rfl, ⟨by simp [H1.out], by simp [H2.out], by simp [H3.out], by simp, by simp [H4.out]⟩, (Below.refl _ _).alloc (Nat.le_refl _) _⟩
set_option maxRecDepth 100000 in
theorem endLit_sent (p g L cap n : Nat) (r m l : Int) (xs : List Int) (w0 w : World) (hn : n ≤ p) (hB : Below n w0 w) (hr : r = 1114112 ∨ r = 1114113) (hp : prs p r m l (.slice (some ⟨g, 0, none⟩) L cap) w) (hl : L = xs.length) (hx : ∀ j v, (xs.map (Value.int .u8))[j]? = some v → w.cell? ((⟨g, 0, none⟩ : Addr).add j) = some v) :
    Calls Try.prog 48 #[.pointer (some ⟨p, 0, none⟩)] w fun e w' => e = .returned (.string (strOf xs)) ∧ w'.cell? ⟨p, 2087, none⟩ = some (.slice none 0 0) ∧ Below n w0 w' := by
  have hc := conv_bytes w ⟨g, 0, none⟩ cap L xs hl hx
  clear hx hl
  obtain ⟨h1, h2, h3, h4, h5⟩ := hp
  rcases hr with rfl | rfl
  all_goals
    go_enter Try.func48, Try.ntmps48
    go_wp2
    go_ret
    exact ⟨rfl, World.cell?_setCell_same _ _ _ h3, hB.setCell hn _⟩
set_option maxRecDepth 100000 in
theorem endLit_rune (p g la cap n : Nat) (m : Nat) (r l : Int) (xs : List Int) (w0 w : World) (hn : n ≤ p) (hB : Below n w0 w) (hr1 : r ≠ 1114112) (hr2 : r ≠ 1114113) (hm : m ≤ 4) (hla : la ≤ 65536) (hcap : la + m ≤ cap ∧ cap ≤ 70000) (hp : prs p r m l (.slice (some ⟨g, 0, none⟩) (la + m) cap) w) (hl : la = xs.length) (hx : ∀ j v, (xs.map (Value.int .u8))[j]? = some v → w.cell? ((⟨g, 0, none⟩ : Addr).add j) = some v) :
    Calls Try.prog 48 #[.pointer (some ⟨p, 0, none⟩)] w fun e w' => e = .returned (.string (strOf xs)) ∧ w'.cell? ⟨p, 2087, none⟩ = some (.slice none 0 0) ∧ Below n w0 w' := by
  have hc := fun c => conv_bytes w.drew ⟨g, 0, none⟩ c la xs hl (fun j v h => by simpa using hx j v h)
  clear hx hl
  obtain ⟨h1, h2, h3, h4, h5⟩ := hp
  obtain ⟨hcap1, hcap2⟩ := hcap
  go_enter Try.func48, Try.ntmps48
  go_wp2
  · exfalso
    rcases ‹(r == 1114112) = true ∨ (r == 1114113) = true› with h | h
    · simp at h; omega
    · simp at h; omega
  · go_region
    all_goals go_wp2
    all_goals go_ret
    all_goals exact ⟨rfl, World.cell?_setCell_same _ _ _ (u := .slice (some ⟨g, 0, none⟩) (la + m) cap) (by simpa using h3), hB.drew.setCell hn _⟩
theorem endLitE (p n : Nat) (S : ByteArray) (w0 w : World) (h : Calls Try.prog 48 #[.pointer (some ⟨p, 0, none⟩)] w fun e w' => e = .returned (.string S) ∧ w'.cell? ⟨p, 2087, none⟩ = some (.slice none 0 0) ∧ Below n w0 w') :
    Calls Try.prog 34 #[.pointer (some ⟨p, 0, none⟩)] w fun e w' => e = .returned (.string S) ∧ w'.cell? ⟨p, 2087, none⟩ = some (.slice none 0 0) ∧ Below n w0 w' := by
  have H := Lib.hid h
  clear h
  go_enter Try.func34, Try.ntmps34
  go_wp2_with (go_at_call 48; refine H.out.mono ?_; rintro e w1 ⟨rfl, h1, h2⟩)
  go_ret
  exact ⟨rfl, h1, h2⟩
set_option maxRecDepth 100000 in
theorem litBsE (p : Nat) (v : Value) (w : World) (h : w.cell? ⟨p, 2087, none⟩ = some v) :
    Calls Try.prog 35 #[.pointer (some ⟨p, 0, none⟩)] w fun e w' => e = .returned v ∧ w = w' := by
  go_enter Try.func35, Try.ntmps35
  go_wp2
  go_ret
  exact ⟨rfl, rfl⟩
theorem sent_yes (r : Int) (w : World) (hr : r = 1114112 ∨ r = 1114113) : Calls Try.prog 31 #[.int .i32 r] w fun e w' => e = .returned (.bool true) ∧ w = w' := by
  rcases hr with rfl | rfl
  all_goals
    go_enter Try.func31, Try.ntmps31
    go_wp2_with (first | (go_at_call 46; go_in) | (go_at_call 47; go_in))
    go_ret
    exact ⟨rfl, rfl⟩
theorem sent_no (r : Int) (w : World) (h1 : r ≠ 1114112) (h2 : r ≠ 1114113) : Calls Try.prog 31 #[.int .i32 r] w fun e w' => e = .returned (.bool false) ∧ w = w' := by
  go_enter Try.func31, Try.ntmps31
  go_wp2_with (first | (go_at_call 46; go_in) | (go_at_call 47; go_in))
  go_ret
  exact ⟨ret_bool' (by simp [h1, h2]), rfl⟩
theorem conv_nil (w : World) : (convert 22 9 (.slice none 0 0)).run Try.prog w = .ok (.string (strOf [])) w := by
  rw [run_convert_bytes_string w 22 9 5 _ _ _ Try.underlying22 Try.underlying5 Try.underlying9]
  rfl
theorem row_cells {w : World} {B g L cap : Nat} {xs : List Int} (h : w.ownsRow B 5 1 (.slice (some ⟨g, 0, none⟩) L cap) L (xs.map (Value.int .u8))) : ∀ j v, (xs.map (Value.int .u8))[j]? = some v → w.cell? ((⟨g, 0, none⟩ : Addr).add j) = some v := by
  intro j v hj
  have e : (⟨g, 0, none⟩ : Addr).add j = ⟨g, j, none⟩ := by
    by_cases h : j = 0
    · subst h; rfl
    · simp [Addr.add, h]
  have hl := h.1
  have hj2 : j < (xs.map (Value.int .u8)).length := by
    rcases Nat.lt_or_ge j (xs.map (Value.int .u8)).length with h' | h'
    · exact h'
    · rw [List.getElem?_eq_none h'] at hj; cases hj
  rw [e, h.cellAt j (by omega)]
  exact hj

theorem addr_blk (g j : Nat) : ((⟨g, 0, none⟩ : Addr).add j).block = g := by unfold Addr.add; split <;> rfl
theorem own_lt {w : World} {B g L cap : Nat} {xs : List Value} (h : w.ownsRow B 5 1 (.slice (some ⟨g, 0, none⟩) L cap) L xs) : g < w.heap.size := by
  rcases h.2 with ⟨h, _⟩ | ⟨g', cap', cur, he, _, hh, _⟩
  · cases h
  · simp at he
    rw [he.1]
    exact (Array.getElem?_eq_some_iff.1 hh).1
theorem row_keep {w1 w2 : World} {B g L cap : Nat} {xs ys : List Int} (hb : Below w1.heap.size w1 w2) (h : w1.ownsRow B 5 1 (.slice (some ⟨g, 0, none⟩) L cap) L ((xs ++ ys).map (Value.int .u8))) :
    ∀ j v, (xs.map (Value.int .u8))[j]? = some v → w2.cell? ((⟨g, 0, none⟩ : Addr).add j) = some v := by
  intro j v hj
  refine (hb.cell (by rw [addr_blk]; exact own_lt h)).trans (row_cells h j v ?_)
  rw [List.map_append, List.getElem?_append_left (List.getElem?_eq_some_iff.1 hj).1]
  exact hj
set_option maxRecDepth 100000 in
set_option maxHeartbeats 1000000 in
theorem end_nil_sent (r : Int) (w : World) (hr : r = 1114112 ∨ r = 1114113) :
    Calls Try.prog 8 #[.slice none 0 0, .int .i32 r] w fun e w' => e = .returned (.bool true) ∧ Below w.heap.size w w' := by
  have HR := Lib.hid hr
  clear hr
  have hn := fun wx : World => Lib.run_eql_slice_nil (P := Try.prog) wx 22 5 none 0 0 0 0 Try.underlying22
  have hcN := fun wx : World => conv_nil wx
  go_enter Try.func8, Try.ntmps8
  go_wp2_with (first | (go_at_call 30; go_in) | (go_at_call 31; refine (sent_yes _ _ HR.out).mono ?_; rintro e w1 ⟨rfl, rfl⟩))
  refine (cloneC_nil [] _).mono ?_
  rintro e W ⟨v', rfl, hown, hB, hv⟩
  obtain rfl : v' = .slice none 0 0 := by simpa using hv
  clear hv hown
  go_wp2_with (first | (go_at_call 32; refine (join_nil_nil [] [] _ rfl rfl).mono ?_; rintro e W1 ⟨rfl, hown1, hB1⟩) | (go_at_call 33; refine (newP _ _ _ _ _ _ _).mono ?_; rintro e W2 ⟨rfl, hp, hB2⟩))
  have hgW1 := own_lt hown1
  have hRow2 := row_keep (xs := []) hB2 hown1
  have EL := Lib.hid (endLitE _ _ _ _ _ (endLit_sent _ _ _ _ _ _ _ _ [] _ _ (Nat.le_refl _) hB2 HR.out hp rfl hRow2))
  clear hRow2 hp
  go_wp2_with (first | (go_at_call 34; refine EL.out.mono ?_; rintro e W3 ⟨rfl, h2087, hB3⟩) | (go_at_call 35; refine (litBsE _ _ _ h2087).mono ?_; rintro e w1 ⟨rfl, rfl⟩))
  go_ret
  exact ⟨ret_bool' (by first | rfl | simp), btrans hB (btrans hB1 hB3)⟩
set_option maxRecDepth 100000 in
set_option maxHeartbeats 1000000 in
theorem end_nil_rune (r : Int) (w : World) (hr : 0 ≤ r ∧ r ≤ 1114111 ∧ ¬ (55296 ≤ r ∧ r ≤ 57343)) :
    Calls Try.prog 8 #[.slice none 0 0, .int .i32 r] w fun e w' => e = .returned (.bool true) ∧ Below w.heap.size w w' := by
  have HR := Lib.hid hr
  clear hr
  have hn := fun wx : World => Lib.run_eql_slice_nil (P := Try.prog) wx 22 5 none 0 0 0 0 Try.underlying22
  have hcN := fun wx : World => conv_nil wx
  go_enter Try.func8, Try.ntmps8
  go_wp2_with (first | (go_at_call 30; go_in) | (go_at_call 31; refine (sent_no _ _ (by have := HR.out; omega) (by have := HR.out; omega)).mono ?_; rintro e w1 ⟨rfl, rfl⟩) | (go_at_call 11; refine (valid_yes _ _ HR.out).mono ?_; rintro e w1 ⟨rfl, rfl⟩))
  refine (cloneC_nil [] _).mono ?_
  rintro e W ⟨v', rfl, hown, hB, hv⟩
  obtain rfl : v' = .slice none 0 0 := by simpa using hv
  clear hv hown
  go_wp2_with fail
  refine (enc_any r W ⟨HR.out.1, HR.out.2.1⟩).mono ?_
  rintro e WE ⟨n, ns, rfl, hWE, hl3, -⟩
  have hBE : Below W.heap.size W WE := by rw [← hWE]; exact (Below.refl _ _).alloc (Nat.le_refl _) _
  have hEc : ∀ i, i < ns.length + 1 → WE.cell? ⟨W.heap.size, 0 + i, none⟩ = some (.int .u8 ((n :: ns)[i]?.getD 0)) := fun i hi => by
    rw [← hWE, Nat.zero_add, World.cell?_alloc_new]
    simp only [List.getElem?_toArray, List.getElem?_map]
    rw [List.getElem?_eq_getElem (show i < (n :: ns).length by simpa using hi)]
    rfl
  have HE := Lib.hid hEc
  clear hEc hWE
  obtain ⟨m, hm⟩ : ∃ m, m = ns.length + 1 := ⟨_, rfl⟩
  rw [← hm]
  have HM := Lib.hid hm
  have hm4 : m ≤ 4 := by omega
  have hm1 : 1 ≤ m := by omega
  clear hm hl3
  go_wp2_with (first | (go_at_call 32; refine (join_nil_some [] (n :: ns) _ rfl W.heap.size 0 m m HM.out.symm hm4 (by rw [HM.out]; exact HE.out)).mono ?_; rintro e W1 ⟨rfl, hown1, hB1⟩) | (go_at_call 33; refine (newP _ _ _ _ _ _ _).mono ?_; rintro e W2 ⟨rfl, hp, hB2⟩))
  have hgW1 := own_lt hown1
  have hRow2 := row_keep (xs := []) hB2 hown1
  have EL := Lib.hid (endLitE _ _ _ _ _ (endLit_rune _ _ 0 (m) _ m r _ [] _ _ (Nat.le_refl _) hB2 (by have := HR.out; omega) (by have := HR.out; omega) hm4 (by omega) (by omega) (by first | exact hp | simpa using hp) rfl hRow2))
  clear hRow2 hp
  go_wp2_with (first | (go_at_call 34; refine EL.out.mono ?_; rintro e W3 ⟨rfl, h2087, hB3⟩) | (go_at_call 35; refine (litBsE _ _ _ h2087).mono ?_; rintro e w1 ⟨rfl, rfl⟩))
  go_ret
  exact ⟨ret_bool' (by first | rfl | simp), btrans hB (btrans hBE (btrans hB1 hB3))⟩
set_option maxRecDepth 100000 in
set_option maxHeartbeats 1000000 in
theorem end_some_sent (b off len cap : Nat) (zs : List Int) (r : Int) (w : World) (h0 : 0 < len) (hlen : len ≤ 65536) (hz : len ≤ zs.length) (hc : ∀ i, i < len → w.cell? ⟨b, off + i, none⟩ = some (.int .u8 (zs.getD i 0))) (hr : r = 1114112 ∨ r = 1114113) :
    Calls Try.prog 8 #[.slice (some ⟨b, off, none⟩) len cap, .int .i32 r] w fun e w' => e = .returned (.bool true) ∧ Below w.heap.size w w' := by
  have HR := Lib.hid hr
  clear hr
  have hn := fun wx : World => Lib.run_eql_slice_nil (P := Try.prog) wx 22 5 none 0 0 0 0 Try.underlying22
  have HC := Lib.hid (cloneC_some b off len cap zs w h0 (by omega) hz hc)
  clear hc
  go_enter Try.func8, Try.ntmps8
  go_wp2_with (first | (go_at_call 30; go_in) | (go_at_call 31; refine (sent_yes _ _ HR.out).mono ?_; rintro e w1 ⟨rfl, rfl⟩))
  refine HC.out.mono ?_
  rintro e W ⟨v', rfl, hown, hB, hv⟩
  obtain rfl : v' = .slice (some ⟨w.heap.size, 0, none⟩) len len := by simpa using hv
  clear hv HC
  obtain ⟨xs, hxs⟩ : ∃ xs, xs = zs.take len := ⟨_, rfl⟩
  have hxl : xs.length = len := by rw [hxs]; simp; omega
  have hcell : ∀ j, j < len → W.cell? ⟨w.heap.size, 0 + j, none⟩ = some (.int .u8 (xs[j]?.getD 0)) := fun j hj => by
    rw [Nat.zero_add, hown.cellAt j (by omega), ← hxs, List.getElem?_map, List.getElem?_eq_getElem (by omega)]
    simp
  have HRow := Lib.hid (row_cells (xs := xs) (by rw [hxs]; exact hown))
  have HW := Lib.hid hcell
  have hgW : w.heap.size < W.heap.size := World.block_lt_of_cell? W _ (hcell 0 h0)
  have HXL := Lib.hid hxl
  clear hcell hxl hxs hown hz
  go_wp2_with (first | (go_at_call 32; refine (join_some_nil xs [] _ w.heap.size 0 len len HXL.out hlen (fun i hi => HW.out i hi) rfl).mono ?_; rintro e W1 ⟨rfl, hown1, hB1⟩) | (go_at_call 33; refine (newP _ _ _ _ _ _ _).mono ?_; rintro e W2 ⟨rfl, hp, hB2⟩))
  have hgW1 := own_lt hown1
  have hRow2 := row_keep (xs := xs) hB2 hown1
  have EL := Lib.hid (endLitE _ _ _ _ _ (endLit_sent _ _ _ _ _ _ _ _ xs _ _ (Nat.le_refl _) hB2 HR.out hp HXL.out.symm hRow2))
  clear hRow2 hp
  go_wp2_with (first | (go_at_call 34; refine EL.out.mono ?_; rintro e W3 ⟨rfl, h2087, hB3⟩; have hcv := conv_bytes W3 ⟨w.heap.size, 0, none⟩ len len xs HXL.out.symm (fun j v h => (hB3.cell (by rw [addr_blk]; show w.heap.size < _; have := hB1.size;  omega)).trans ((hB1.cell (by rw [addr_blk]; show w.heap.size < _;  omega)).trans ((HRow.out j v h))))) | (go_at_call 35; refine (litBsE _ _ _ h2087).mono ?_; rintro e w1 ⟨rfl, rfl⟩))
  go_ret
  exact ⟨ret_bool' (by first | rfl | simp), btrans hB (btrans hB1 hB3)⟩
set_option maxRecDepth 100000 in
set_option maxHeartbeats 1000000 in
theorem end_some_rune (b off len cap : Nat) (zs : List Int) (r : Int) (w : World) (h0 : 0 < len) (hlen : len ≤ 65536) (hz : len ≤ zs.length) (hc : ∀ i, i < len → w.cell? ⟨b, off + i, none⟩ = some (.int .u8 (zs.getD i 0))) (hr : 0 ≤ r ∧ r ≤ 1114111 ∧ ¬ (55296 ≤ r ∧ r ≤ 57343)) :
    Calls Try.prog 8 #[.slice (some ⟨b, off, none⟩) len cap, .int .i32 r] w fun e w' => e = .returned (.bool true) ∧ Below w.heap.size w w' := by
  have HR := Lib.hid hr
  clear hr
  have hn := fun wx : World => Lib.run_eql_slice_nil (P := Try.prog) wx 22 5 none 0 0 0 0 Try.underlying22
  have HC := Lib.hid (cloneC_some b off len cap zs w h0 (by omega) hz hc)
  clear hc
  go_enter Try.func8, Try.ntmps8
  go_wp2_with (first | (go_at_call 30; go_in) | (go_at_call 31; refine (sent_no _ _ (by have := HR.out; omega) (by have := HR.out; omega)).mono ?_; rintro e w1 ⟨rfl, rfl⟩) | (go_at_call 11; refine (valid_yes _ _ HR.out).mono ?_; rintro e w1 ⟨rfl, rfl⟩))
  refine HC.out.mono ?_
  rintro e W ⟨v', rfl, hown, hB, hv⟩
  obtain rfl : v' = .slice (some ⟨w.heap.size, 0, none⟩) len len := by simpa using hv
  clear hv HC
  obtain ⟨xs, hxs⟩ : ∃ xs, xs = zs.take len := ⟨_, rfl⟩
  have hxl : xs.length = len := by rw [hxs]; simp; omega
  have hcell : ∀ j, j < len → W.cell? ⟨w.heap.size, 0 + j, none⟩ = some (.int .u8 (xs[j]?.getD 0)) := fun j hj => by
    rw [Nat.zero_add, hown.cellAt j (by omega), ← hxs, List.getElem?_map, List.getElem?_eq_getElem (by omega)]
    simp
  have HRow := Lib.hid (row_cells (xs := xs) (by rw [hxs]; exact hown))
  have HW := Lib.hid hcell
  have hgW : w.heap.size < W.heap.size := World.block_lt_of_cell? W _ (hcell 0 h0)
  have HXL := Lib.hid hxl
  clear hcell hxl hxs hown hz
  go_wp2_with fail
  refine (enc_any r W ⟨HR.out.1, HR.out.2.1⟩).mono ?_
  rintro e WE ⟨n, ns, rfl, hWE, hl3, -⟩
  have hBE : Below W.heap.size W WE := by rw [← hWE]; exact (Below.refl _ _).alloc (Nat.le_refl _) _
  have hEc : ∀ i, i < ns.length + 1 → WE.cell? ⟨W.heap.size, 0 + i, none⟩ = some (.int .u8 ((n :: ns)[i]?.getD 0)) := fun i hi => by
    rw [← hWE, Nat.zero_add, World.cell?_alloc_new]
    simp only [List.getElem?_toArray, List.getElem?_map]
    rw [List.getElem?_eq_getElem (show i < (n :: ns).length by simpa using hi)]
    rfl
  have HE := Lib.hid hEc
  clear hEc hWE
  obtain ⟨m, hm⟩ : ∃ m, m = ns.length + 1 := ⟨_, rfl⟩
  rw [← hm]
  have HM := Lib.hid hm
  have hm4 : m ≤ 4 := by omega
  have hm1 : 1 ≤ m := by omega
  clear hm hl3
  go_wp2_with (first | (go_at_call 32; refine (join_some_some xs (n :: ns) _ w.heap.size 0 len len HXL.out hlen (fun i hi => (hBE.cell (by exact hgW)).trans (HW.out i hi)) W.heap.size 0 m m HM.out.symm hm4 (by rw [HM.out]; exact HE.out)).mono ?_; rintro e W1 ⟨rfl, hown1, hB1⟩) | (go_at_call 33; refine (newP _ _ _ _ _ _ _).mono ?_; rintro e W2 ⟨rfl, hp, hB2⟩))
  have hgW1 := own_lt hown1
  have hRow2 := row_keep (xs := xs) hB2 hown1
  have EL := Lib.hid (endLitE _ _ _ _ _ (endLit_rune _ _ len (len + m) _ m r _ xs _ _ (Nat.le_refl _) hB2 (by have := HR.out; omega) (by have := HR.out; omega) hm4 (by omega) (by omega) (by first | exact hp | simpa using hp) HXL.out.symm hRow2))
  clear hRow2 hp
  go_wp2_with (first | (go_at_call 34; refine EL.out.mono ?_; rintro e W3 ⟨rfl, h2087, hB3⟩; have hcv := conv_bytes W3 ⟨w.heap.size, 0, none⟩ len len xs HXL.out.symm (fun j v h => (hB3.cell (by rw [addr_blk]; show w.heap.size < _; have := hB1.size; have := hBE.size; omega)).trans ((hB1.cell (by rw [addr_blk]; show w.heap.size < _; have := hBE.size; omega)).trans ((hBE.cell (by rw [addr_blk]; show w.heap.size < _; omega)).trans (HRow.out j v h))))) | (go_at_call 35; refine (litBsE _ _ _ h2087).mono ?_; rintro e w1 ⟨rfl, rfl⟩))
  go_ret
  exact ⟨ret_bool' (by first | rfl | simp), btrans hB (btrans hBE (btrans hB1 hB3))⟩
set_option maxRecDepth 100000 in
set_option maxHeartbeats 1000000 in
theorem end_empty_sent (x : Addr) (cap : Nat) (r : Int) (w : World) (hr : r = 1114112 ∨ r = 1114113) :
    Calls Try.prog 8 #[.slice (some x) 0 cap, .int .i32 r] w fun e w' => e = .returned (.bool true) ∧ Below w.heap.size w w' := by
  have HR := Lib.hid hr
  clear hr
  have hn := fun wx : World => Lib.run_eql_slice_nil (P := Try.prog) wx 22 5 none 0 0 0 0 Try.underlying22
  have hcN := fun wx : World => conv_bytes wx ⟨w.heap.size, 0, none⟩ 0 0 [] rfl (fun j v h => by simp at h)
  go_enter Try.func8, Try.ntmps8
  go_wp2_with (first | (go_at_call 30; go_in) | (go_at_call 31; refine (sent_yes _ _ HR.out).mono ?_; rintro e w1 ⟨rfl, rfl⟩))
  refine (cloneC_empty x cap [] _).mono ?_
  rintro e W ⟨v', rfl, hown, hB, hv⟩
  obtain rfl : v' = .slice (some ⟨w.heap.size, 0, none⟩) 0 0 := by simpa using hv
  clear hv hown
  go_wp2_with (first | (go_at_call 32; refine (join_some_nil [] [] _ w.heap.size 0 0 0 rfl (by decide) (fun i hi => absurd hi (Nat.not_lt_zero _)) rfl).mono ?_; rintro e W1 ⟨rfl, hown1, hB1⟩) | (go_at_call 33; refine (newP _ _ _ _ _ _ _).mono ?_; rintro e W2 ⟨rfl, hp, hB2⟩))
  have hgW1 := own_lt hown1
  have hRow2 := row_keep (xs := []) hB2 hown1
  have EL := Lib.hid (endLitE _ _ _ _ _ (endLit_sent _ _ _ _ _ _ _ _ [] _ _ (Nat.le_refl _) hB2 HR.out hp rfl hRow2))
  clear hRow2 hp
  go_wp2_with (first | (go_at_call 34; refine EL.out.mono ?_; rintro e W3 ⟨rfl, h2087, hB3⟩) | (go_at_call 35; refine (litBsE _ _ _ h2087).mono ?_; rintro e w1 ⟨rfl, rfl⟩))
  go_ret
  exact ⟨ret_bool' (by first | rfl | simp), btrans hB (btrans hB1 hB3)⟩
set_option maxRecDepth 100000 in
set_option maxHeartbeats 1000000 in
theorem end_empty_rune (x : Addr) (cap : Nat) (r : Int) (w : World) (hr : 0 ≤ r ∧ r ≤ 1114111 ∧ ¬ (55296 ≤ r ∧ r ≤ 57343)) :
    Calls Try.prog 8 #[.slice (some x) 0 cap, .int .i32 r] w fun e w' => e = .returned (.bool true) ∧ Below w.heap.size w w' := by
  have HR := Lib.hid hr
  clear hr
  have hn := fun wx : World => Lib.run_eql_slice_nil (P := Try.prog) wx 22 5 none 0 0 0 0 Try.underlying22
  have hcN := fun wx : World => conv_bytes wx ⟨w.heap.size, 0, none⟩ 0 0 [] rfl (fun j v h => by simp at h)
  go_enter Try.func8, Try.ntmps8
  go_wp2_with (first | (go_at_call 30; go_in) | (go_at_call 31; refine (sent_no _ _ (by have := HR.out; omega) (by have := HR.out; omega)).mono ?_; rintro e w1 ⟨rfl, rfl⟩) | (go_at_call 11; refine (valid_yes _ _ HR.out).mono ?_; rintro e w1 ⟨rfl, rfl⟩))
  refine (cloneC_empty x cap [] _).mono ?_
  rintro e W ⟨v', rfl, hown, hB, hv⟩
  obtain rfl : v' = .slice (some ⟨w.heap.size, 0, none⟩) 0 0 := by simpa using hv
  clear hv hown
  go_wp2_with fail
  refine (enc_any r W ⟨HR.out.1, HR.out.2.1⟩).mono ?_
  rintro e WE ⟨n, ns, rfl, hWE, hl3, -⟩
  have hBE : Below W.heap.size W WE := by rw [← hWE]; exact (Below.refl _ _).alloc (Nat.le_refl _) _
  have hEc : ∀ i, i < ns.length + 1 → WE.cell? ⟨W.heap.size, 0 + i, none⟩ = some (.int .u8 ((n :: ns)[i]?.getD 0)) := fun i hi => by
    rw [← hWE, Nat.zero_add, World.cell?_alloc_new]
    simp only [List.getElem?_toArray, List.getElem?_map]
    rw [List.getElem?_eq_getElem (show i < (n :: ns).length by simpa using hi)]
    rfl
  have HE := Lib.hid hEc
  clear hEc hWE
  obtain ⟨m, hm⟩ : ∃ m, m = ns.length + 1 := ⟨_, rfl⟩
  rw [← hm]
  have HM := Lib.hid hm
  have hm4 : m ≤ 4 := by omega
  have hm1 : 1 ≤ m := by omega
  clear hm hl3
  go_wp2_with (first | (go_at_call 32; refine (join_some_some [] (n :: ns) _ w.heap.size 0 0 0 rfl (by decide) (fun i hi => absurd hi (Nat.not_lt_zero _)) W.heap.size 0 m m HM.out.symm hm4 (by rw [HM.out]; exact HE.out)).mono ?_; rintro e W1 ⟨rfl, hown1, hB1⟩) | (go_at_call 33; refine (newP _ _ _ _ _ _ _).mono ?_; rintro e W2 ⟨rfl, hp, hB2⟩))
  have hgW1 := own_lt hown1
  have hRow2 := row_keep (xs := []) hB2 hown1
  have EL := Lib.hid (endLitE _ _ _ _ _ (endLit_rune _ _ 0 (0 + m) _ m r _ [] _ _ (Nat.le_refl _) hB2 (by have := HR.out; omega) (by have := HR.out; omega) hm4 (by omega) (by omega) (by first | exact hp | simpa using hp) rfl hRow2))
  clear hRow2 hp
  go_wp2_with (first | (go_at_call 34; refine EL.out.mono ?_; rintro e W3 ⟨rfl, h2087, hB3⟩) | (go_at_call 35; refine (litBsE _ _ _ h2087).mono ?_; rintro e w1 ⟨rfl, rfl⟩))
  go_ret
  exact ⟨ret_bool' (by first | rfl | simp), btrans hB (btrans hBE (btrans hB1 hB3))⟩
theorem end_out (r : Int) (a : Option Addr) (len cap : Nat) (w : World) (h : 65536 < len ∨ ¬ (r = 1114112 ∨ r = 1114113) ∧ ¬ (0 ≤ r ∧ r ≤ 1114111 ∧ ¬ (55296 ≤ r ∧ r ≤ 57343))) (hm : len ≤ maxLen) :
    Calls Try.prog 8 #[.slice a len cap, .int .i32 r] w fun e w' => e = .returned (.bool true) ∧ Below w.heap.size w w' := by
  unfold maxLen at hm
  by_cases h1 : 65536 < len
  · go_enter Try.func8, Try.ntmps8
    go_wp2_with (go_at_call 30; go_in)
    all_goals
      go_ret
      exact ⟨rfl, Below.refl _ _⟩
  · have HR := Lib.hid (h.resolve_left h1)
    clear h
    go_enter Try.func8, Try.ntmps8
    go_wp2_with (first | (go_at_call 30; go_in) | (go_at_call 31; refine (sent_no _ _ (by have := HR.out; omega) (by have := HR.out; omega)).mono ?_; rintro e w1 ⟨rfl, rfl⟩) | (go_at_call 11; refine (valid_no _ _ HR.out.2).mono ?_; rintro e w1 ⟨rfl, rfl⟩))
    all_goals
      go_ret
      exact ⟨rfl, Below.refl _ _⟩
theorem end_law (r : Int) (a : Option Addr) (len cap : Nat) (zs : List Int) (w : World) (h : IsRow' .u8 w a len cap zs) :
    Calls Try.prog 8 #[.slice a len cap, .int .i32 r] w fun e w' => e = .returned (.bool true) ∧ Below w.heap.size w w' := by
  by_cases hs : r = 1114112 ∨ r = 1114113
  · rcases h with ⟨rfl, rfl, rfl, rfl⟩ | ⟨x, rfl, hlc, hm, hzl, hcell, _⟩
    · exact end_nil_sent r w hs
    · by_cases h0 : len = 0
      · subst h0
        exact end_empty_sent x cap r w hs
      · by_cases hl : len ≤ 65536
        · obtain ⟨b, off, spot⟩ := x
          have hc := hcell 0 (by omega)
          have hspot : spot = none := by simpa [Addr.add] using World.cell?_spot hc
          subst hspot
          refine end_some_sent b off len cap zs r w (by omega) hl (by omega) (fun i hi => ?_) hs
          have := hcell i (by omega)
          by_cases hi0 : i = 0
          · subst hi0; simpa [Addr.add] using this
          · simpa [Addr.add, hi0] using this
        · exact end_out r (some x) len cap w (.inl (by omega)) (by omega)
  · by_cases hv : 0 ≤ r ∧ r ≤ 1114111 ∧ ¬ (55296 ≤ r ∧ r ≤ 57343)
    · rcases h with ⟨rfl, rfl, rfl, rfl⟩ | ⟨x, rfl, hlc, hm, hzl, hcell, _⟩
      · exact end_nil_rune r w hv
      · by_cases h0 : len = 0
        · subst h0
          exact end_empty_rune x cap r w hv
        · by_cases hl : len ≤ 65536
          · obtain ⟨b, off, spot⟩ := x
            have hc := hcell 0 (by omega)
            have hspot : spot = none := by simpa [Addr.add] using World.cell?_spot hc
            subst hspot
            refine end_some_rune b off len cap zs r w (by omega) hl (by omega) (fun i hi => ?_) hv
            have := hcell i (by omega)
            by_cases hi0 : i = 0
            · subst hi0; simpa [Addr.add] using this
            · simpa [Addr.add, hi0] using this
          · exact end_out r (some x) len cap w (.inl (by omega)) (by omega)
    · refine end_out r a len cap w (.inr ⟨hs, hv⟩) ?_
      rcases h with ⟨rfl, rfl, rfl, rfl⟩ | ⟨x, rfl, hlc, hm, hzl, hcell, _⟩
      · unfold maxLen; omega
      · omega
end Go.Proofs.Ytjpimejjbiemgaa
