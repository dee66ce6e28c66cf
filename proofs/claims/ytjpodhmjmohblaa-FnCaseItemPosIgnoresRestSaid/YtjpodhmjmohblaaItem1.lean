/- Contracts for the law FnCaseItemPosIgnoresRest: Word.Pos of a one-part word, the loop that builds the pattern words, CaseItem.Pos. -/
import Derived.Test.YtjpodhmjmohblaaKit2
import Derived.WalkSpells
import Derived.OwnWalk
import Derived.OpenShut
import Derived.Laws.OwnMore
import Derived.Laws.AppendOwn
namespace Go.Proofs.Ytjpodhmjmohblaa
open Go.RowKit
set_option linter.unusedVariables false

theorem only_of_below {a w : World} (h : Below a.heap.size a w) (row : Option Nat) : a.grownBy w row := ⟨h.os, h.tape, h.output, h.size, fun i hi _ => h.block i hi⟩
theorem own_below {w w' : World} {base : Nat} {e : TypeId} {size : Nat} {v : Value} {n : Nat} {xs : List Value} (h : w.ownsRow base e size v n xs) (hb : Below w.heap.size w w') : w'.ownsRow base e size v n xs :=
  h.kept (only_of_below hb none) (by cases v.ownBlock <;> simp)
/-- the word at block q has one part whose position is (o, l); its memory lies off block g -/
def PosAt (w : World) (g q : Nat) (o l : Int) : Prop := q ≠ g ∧ ∃ (s p c : Nat) (T : TypeId), (T = 39 ∨ T = 101) ∧ s ≠ g ∧ p ≠ g ∧ w.cell? ⟨q, 0, none⟩ = some (.slice (some ⟨s, 0, none⟩) 1 c) ∧ w.cell? ⟨s, 0, none⟩ = some (.iface T (.pointer (some ⟨p, 0, none⟩))) ∧ w.cell? ⟨p, 0, none⟩ = some (.int .u32 o) ∧ w.cell? ⟨p, 1, none⟩ = some (.int .u32 l)
theorem PosAt.later {w W : World} {g q : Nat} {o l : Int} (hb : Below w.heap.size w W) (h : PosAt w g q o l) : PosAt W g q o l := by
  obtain ⟨hq, s, p, c, T, hT, hs, hp, h1, h2, h3, h4⟩ := h
  exact ⟨hq, s, p, c, T, hT, hs, hp, blater hb h1, blater hb h2, blater hb h3, blater hb h4⟩
theorem PosAt.set_ {w : World} {g q k : Nat} {o l : Int} {u : Value} (h : PosAt w g q o l) : PosAt (w.setCell ⟨g, k, none⟩ u) g q o l := by
  obtain ⟨hq, s, p, c, T, hT, hs, hp, h1, h2, h3, h4⟩ := h
  refine ⟨hq, s, p, c, T, hT, hs, hp, ?_, ?_, ?_, ?_⟩
  · rw [World.cell?_setCell_other _ _ _ _ (fun e => hq (by simp only [Addr.mk.injEq] at e; omega))]; exact h1
  · rw [World.cell?_setCell_other _ _ _ _ (fun e => hs (by simp only [Addr.mk.injEq] at e; omega))]; exact h2
  · rw [World.cell?_setCell_other _ _ _ _ (fun e => hp (by simp only [Addr.mk.injEq] at e; omega))]; exact h3
  · rw [World.cell?_setCell_other _ _ _ _ (fun e => hp (by simp only [Addr.mk.injEq] at e; omega))]; exact h4
theorem litWord_pos (o l : Int) (w : World) : Calls Try.prog 37 #[P2 o l, P2 o l] w fun e w' => ∃ b, e = .returned (.pointer (some ⟨b, 0, none⟩)) ∧ Below w.heap.size w w' ∧ ∀ g, g < w.heap.size → PosAt w' g b o l :=
  (litWord_x o l o l w).mono fun _ _ k => by
    obtain ⟨k1, rfl⟩ := k
    exact ⟨_, k1, balloc (balloc (balloc (balloc (balloc (Below.refl _ _) _) _) _) _) _, fun g hg => ⟨by omega, w.heap.size + 1 + 1 + 1, w.heap.size + 1 + 1, 1, 39, by simp, by omega, by omega, by go_simp, by go_simp, by go_simp, by go_simp⟩⟩
theorem sglWord_pos (o l : Int) (w : World) : Calls Try.prog 36 #[P2 o l, P2 o l] w fun e w' => ∃ b, e = .returned (.pointer (some ⟨b, 0, none⟩)) ∧ Below w.heap.size w w' ∧ ∀ g, g < w.heap.size → PosAt w' g b o l :=
  (sglWord_x o l o l w).mono fun _ _ k => by
    obtain ⟨k1, rfl⟩ := k
    exact ⟨_, k1, balloc (balloc (balloc (balloc (balloc (Below.refl _ _) _) _) _) _) _, fun g hg => ⟨by omega, w.heap.size + 1 + 1 + 1, w.heap.size + 1 + 1, 1, 101, by simp, by omega, by omega, by go_simp, by go_simp, by go_simp, by go_simp⟩⟩
theorem wordPos_L (q s p c : Nat) (o l : Int) (w : World) (h1 : w.cell? ⟨q, 0, none⟩ = some (.slice (some ⟨s, 0, none⟩) 1 c)) (h2 : w.cell? ⟨s, 0, none⟩ = some (.iface 39 (.pointer (some ⟨p, 0, none⟩)))) (h3 : w.cell? ⟨p, 0, none⟩ = some (.int .u32 o)) (h4 : w.cell? ⟨p, 1, none⟩ = some (.int .u32 l)) :
    Calls Try.prog 72 #[.pointer (some ⟨q, 0, none⟩)] w fun e w' => e = .returned (P2 o l) ∧ Below w.heap.size w w' := by
  have g1 := later h1
  have g2 := later h2
  have g3 := later h3
  have g4 := later h4
  have n1 := nil_litP
  have n2 := meth_litP
  have z3 : (0 : Int) < 1 := by decide
  have z4 : (0 : Int) ≤ 0 := by decide
  go_enter Try.func72, Try.ntmps72
  go_wp2_with (first | (go_at_call 55; refine (wLitPos _ o l _ ?_ ?_).mono ?_; (focus (go_simp; done)); (focus (go_simp; done)); rintro e w' ⟨rfl, rfl⟩))
  refine bodyPost_ret (v := P2 o l) (by simp [results, Try.results72, go_sem]) rfl ⟨rfl, ?_⟩
  repeat (first | (with_reducible refine Below.drew ?_) | (with_reducible refine balloc ?_ _))
  exact Below.refl _ _

theorem wordPos_S (q s p c : Nat) (o l : Int) (w : World) (h1 : w.cell? ⟨q, 0, none⟩ = some (.slice (some ⟨s, 0, none⟩) 1 c)) (h2 : w.cell? ⟨s, 0, none⟩ = some (.iface 101 (.pointer (some ⟨p, 0, none⟩)))) (h3 : w.cell? ⟨p, 0, none⟩ = some (.int .u32 o)) (h4 : w.cell? ⟨p, 1, none⟩ = some (.int .u32 l)) :
    Calls Try.prog 72 #[.pointer (some ⟨q, 0, none⟩)] w fun e w' => e = .returned (P2 o l) ∧ Below w.heap.size w w' := by
  have g1 := later h1
  have g2 := later h2
  have g3 := later h3
  have g4 := later h4
  have n1 := nil_sglP
  have n2 := meth_sglP
  have z3 : (0 : Int) < 1 := by decide
  have z4 : (0 : Int) ≤ 0 := by decide
  go_enter Try.func72, Try.ntmps72
  go_wp2_with (first | (go_at_call 64; refine (sglPos _ o l _ ?_ ?_).mono ?_; (focus (go_simp; done)); (focus (go_simp; done)); rintro e w' ⟨rfl, rfl⟩))
  refine bodyPost_ret (v := P2 o l) (by simp [results, Try.results72, go_sem]) rfl ⟨rfl, ?_⟩
  repeat (first | (with_reducible refine Below.drew ?_) | (with_reducible refine balloc ?_ _))
  exact Below.refl _ _

theorem wordPos (g q : Nat) (o l : Int) (w : World) (h : PosAt w g q o l) : Calls Try.prog 72 #[.pointer (some ⟨q, 0, none⟩)] w fun e w' => e = .returned (P2 o l) ∧ Below w.heap.size w w' := by
  obtain ⟨hq, s, p, c, T, hT, hs, hp, h1, h2, h3, h4⟩ := h
  rcases hT with rfl | rfl
  · exact wordPos_L q s p c o l w h1 h2 h3 h4
  · exact wordPos_S q s p c o l w h1 h2 h3 h4
theorem itemPos (b g q n c : Nat) (o l : Int) (w : World) (n0 : 0 < n) (h : w.cell? ⟨b, 4, none⟩ = some (.slice (some ⟨g, 0, none⟩) n c)) (hg : w.cell? ⟨g, 0, none⟩ = some (.pointer (some ⟨q, 0, none⟩))) (P : PosAt w g q o l) :
    Calls Try.prog 71 #[.pointer (some ⟨b, 0, none⟩)] w fun e w' => e = .returned (P2 o l) ∧ Below w.heap.size w w' := by
  have g1 := later h
  have g2 := later hg
  have n1 : (0 : Int) < (n : Int) := by omega
  have z4 : (0 : Int) ≤ 0 := by decide
  go_enter Try.func71, Try.ntmps71
  go_wp2_with (first | (go_at_call 72; refine (wordPos g q o l _ (P.later (balloc (Below.refl _ _) _))).mono ?_; rintro e w1 ⟨rfl, hb⟩; obtain ⟨r0, r1, f0, f1, hB⟩ := rcell hb))
  refine bodyPost_ret (v := P2 o l) (by simp [results, Try.results71, go_sem, r0, r1]) rfl ⟨rfl, rend hB _ _⟩

theorem setl2 {w W : World} {b k : Nat} {x y v : Value} (hlt : b < w.heap.size) (h : W.cell? ⟨b, k, none⟩ = some v) : ((W.setCell ⟨w.heap.size, 0, none⟩ x).setCell ⟨w.heap.size, 1, none⟩ y).cell? ⟨b, k, none⟩ = some v := by
  rw [World.cell?_setCell_other _ _ _ _ (fun e => by simp only [Addr.mk.injEq] at e; omega), World.cell?_setCell_other _ _ _ _ (fun e => by simp only [Addr.mk.injEq] at e; omega)]
  exact h
theorem pats_info : (Try.prog.info? 36).map (fun i => (i.zero, i.size, i.bytes)) = some (some (.pointer none), 1, 8) := by kernel_rfl
def First (w : World) (g k : Nat) (xs : List Value) : Prop := 0 < k → ∃ q o l, xs[0]? = some (.pointer (some ⟨q, 0, none⟩)) ∧ PosAt w g q o l
theorem First.later {w W : World} {g k : Nat} {xs : List Value} (hb : Below w.heap.size w W) (h : First w g k xs) : First W g k xs := fun hk => by
  obtain ⟨q, o, l, hx, hp⟩ := h hk
  exact ⟨q, o, l, hx, hp.later hb⟩
theorem First.put {w : World} {g k q : Nat} {o l : Int} {xs : List Value} (h : First w g k xs) (hk : k < xs.length) (hq : PosAt w g q o l) : First (w.setCell ⟨g, k, none⟩ (.pointer (some ⟨q, 0, none⟩))) g (k + 1) (xs.set k (.pointer (some ⟨q, 0, none⟩))) := fun _ => by
  rcases Nat.eq_zero_or_pos k with rfl | h0
  · exact ⟨q, o, l, by rw [List.getElem?_set_self (by omega)], hq.set_⟩
  · obtain ⟨q', o', l', hx, hp⟩ := h h0
    exact ⟨q', o', l', by rw [List.getElem?_set_ne (by omega)]; exact hx, hp.set_⟩
def PatsPost (w : World) (n : Nat) (e : Ending) (w' : World) : Prop := ∃ xs, e = .returned (.slice (some ⟨w.heap.size, 0, none⟩) n n) ∧ w'.ownsRow w.heap.size 36 1 (.slice (some ⟨w.heap.size, 0, none⟩) n n) n xs ∧ Below w.heap.size w w' ∧ First w' w.heap.size n xs
set_option maxHeartbeats 1000000 in
set_option maxRecDepth 20000 in
theorem pats (a b c n na nb nc ca cb cc : Nat) (w : World) (n0 : 0 < n) (hn : n ≤ 4096) (hna : n ≤ na) (hnb : n ≤ nb) (hnc : n ≤ nc)
    (ha : ∀ i, i < n → ∃ x, w.cell? ⟨a, i, none⟩ = some (.int .u32 x)) (hb : ∀ i, i < n → ∃ x, w.cell? ⟨b, i, none⟩ = some (.int .u32 x)) (hc : ∀ i, i < n → ∃ x, w.cell? ⟨c, i, none⟩ = some (.bool x)) :
    Calls Try.prog 70 #[.slice (some ⟨a, 0, none⟩) na ca, .slice (some ⟨b, 0, none⟩) nb cb, .slice (some ⟨c, 0, none⟩) nc cc, .int .i64 n] w (PatsPost w n) := by
  obtain ⟨i0, hi, hz0, hz1, hz2⟩ := info_parts pats_info
  have HA := Lib.hid ha
  have HB := Lib.hid hb
  have HC := Lib.hid hc
  clear ha hb hc
  go_enter Try.func70, Try.ntmps70
  go_wp2_with (at_make; refine wpList_make_full _ rfl _ _ 43 rfl w.heap.size 36 i0 (.pointer none) 1 Try.underlying43 hi hz0 hz1 .i64 .i64 _ _ n rfl rfl rfl rfl ?_ ?_ ?_ ?_)
  · rw [hz2]; omega
  · unfold maxLen; omega
  · exact Nat.le_refl _
  intro w1 hown hgrow
  have hB : Below w.heap.size w w1 := (Below.refl _ _).grown hgrow (Nat.le_refl _) (by simp)
  obtain ⟨xs, hxs⟩ : ∃ xs, xs = (madeCells (Value.pointer none).cells (n * 1)).toList := ⟨_, rfl⟩
  clear hgrow
  go_wp2
  go_loopw [10] (fun i wr => ∃ (k : Nat) (xs : List Value), k ≤ n ∧ i = .int .i64 k ∧ wr.ownsRow w.heap.size 36 1 (.slice (some ⟨w.heap.size, 0, none⟩) n n) n xs ∧ Below w.heap.size w wr ∧ First wr w.heap.size k xs) (fun i _ => n - (intOf i).toNat)
  case atStart => exact ⟨0, _, Nat.zero_le _, rfl, hown, hB, fun h => absurd h (by omega)⟩
  case round =>
    clear hown hB hxs xs
    obtain ⟨k, xs, hk, rfl, hown, hB, hF⟩ := hrel
    by_cases hlt : k < n
    · obtain ⟨x, ga⟩ := HA.out k hlt
      obtain ⟨y, gb⟩ := HB.out k hlt
      obtain ⟨z, gc⟩ := HC.out k hlt
      replace ga := blater hB ga
      replace gb := blater hB gb
      replace gc := blater hB gc
      have k0 : (0 : Int) ≤ (k : Int) := by omega
      have k1 : (k : Int) < (na : Int) := by omega
      have k2 : (k : Int) < (nb : Int) := by omega
      have k3 : (k : Int) < (nc : Int) := by omega
      have k4 : (k : Int) < (n : Int) := by omega
      cases z
      · go_wp2_with fail
        have y1 := World.new_ne wr _ ga
        have y2 := World.new_ne wr _ gb
        have hA : a < wr.heap.size := World.block_lt_of_cell? wr _ ga
        have hD : c < wr.heap.size := World.block_lt_of_cell? wr _ gc
        have hC : b < wr.heap.size := World.block_lt_of_cell? wr _ gb
        go_region_held3 (fun w' => w'.cell? ⟨a, k, none⟩ = some (.int .u32 x) ∧ w'.cell? ⟨b, k, none⟩ = some (.int .u32 y)) (first | (go_split_ands; (refine ⟨?_, ?_⟩) <;> (first | assumption | (with_reducible refine blater hb ?_; assumption) | (with_reducible refine later ?_ _; first | exact ga2.out | exact gb2.out) | (with_reducible refine setl2 hA ?_; exact ga2.out) | (with_reducible refine setl2 hC ?_; exact gb2.out))) | go_keep) (first | (go_at_call 35; refine (zp_any _ _ _).mono ?_; rintro e w2 ⟨rfl, hb⟩; have hb' := btrans (Below.drew (Below.refl wr.heap.size wr)) hb; have ga2 := Lib.hid (blater hb' ga); have gb2 := Lib.hid (blater hb' gb)) | (go_at_call 35; refine (zp_any _ _ _).mono ?_; rintro e w2 ⟨rfl, hb⟩; obtain ⟨r0, r1, f0, f1, hb'⟩ := rcell (w := wr) (btrans (Below.drew (Below.refl _ (wr.alloc (C2 0 0)))) hb); have ga2 := Lib.hid (blater hb' ga); have gb2 := Lib.hid (blater hb' gb)))
        · have gg := later (blater hb' gc)
          have HV := fun o => balloc hb' o
          clear hb
          go_wp2_with fail
          refine (litWord_pos _ _ _).mono ?_
          rintro e w3 ⟨q, rfl, hb, P⟩
          have P1 := P w.heap.size (Nat.lt_of_lt_of_le (hown.lt w.heap.size rfl).2 (HV _).size)
          have hb3 := btrans (HV _) hb
          replace hown := own_below hown hb3
          replace hF := First.later hb3 hF
          replace hB := btrans hB hb3
          clear hb hb3 HV gc gg P ga gb y1 y2 hA hC hD ga2 gb2 hb'
          have hxl : xs.length = n := by have := hown.1; omega
          have g2 : ∃ u, w3.cell? ⟨w.heap.size, k, none⟩ = some u := by
            rw [hown.cellAt k (by omega)]
            exact ⟨xs[k]'(by omega), List.getElem?_eq_getElem _⟩
          obtain ⟨u, g2⟩ := g2
          have g3 := hown.frozenAt k
          have R1 := Lib.hid (hown.stored k (.pointer (some ⟨q, 0, none⟩)))
          have R2 := Lib.hid (hB.setCell (p := ⟨w.heap.size, k, none⟩) (Nat.le_refl _) (.pointer (some ⟨q, 0, none⟩)))
          have R3 := Lib.hid (hF.put (by omega) P1)
          clear hown hB hF P1 hxl
          go_wp2
          go_roundw
          case rel => exact ⟨k + 1, _, by omega, by go_num, R1.out.1, R2.out, R3.out⟩
          case measure => simp [intOf]; omega
        · have gg := fun (u v : Value) => setl2 (x := u) (y := v) hD (blater hb' gc)
          have HV := fun u v => rend hb' u v
          clear hb
          go_wp2_with fail
          refine (litWord_pos _ _ _).mono ?_
          rintro e w3 ⟨q, rfl, hb, P⟩
          clear r0 r1 f0 f1
          have P1 := P w.heap.size (Nat.lt_of_lt_of_le (hown.lt w.heap.size rfl).2 (HV _ _).size)
          have hb3 := btrans (HV _ _) hb
          replace hown := own_below hown hb3
          replace hF := First.later hb3 hF
          replace hB := btrans hB hb3
          clear hb hb3 HV gc gg P ga gb y1 y2 hA hC hD ga2 gb2 hb'
          have hxl : xs.length = n := by have := hown.1; omega
          have g2 : ∃ u, w3.cell? ⟨w.heap.size, k, none⟩ = some u := by
            rw [hown.cellAt k (by omega)]
            exact ⟨xs[k]'(by omega), List.getElem?_eq_getElem _⟩
          obtain ⟨u, g2⟩ := g2
          have g3 := hown.frozenAt k
          have R1 := Lib.hid (hown.stored k (.pointer (some ⟨q, 0, none⟩)))
          have R2 := Lib.hid (hB.setCell (p := ⟨w.heap.size, k, none⟩) (Nat.le_refl _) (.pointer (some ⟨q, 0, none⟩)))
          have R3 := Lib.hid (hF.put (by omega) P1)
          clear hown hB hF P1 hxl
          go_wp2
          go_roundw
          case rel => exact ⟨k + 1, _, by omega, by go_num, R1.out.1, R2.out, R3.out⟩
          case measure => simp [intOf]; omega
      · go_wp2_with fail
        have y1 := World.new_ne wr _ ga
        have y2 := World.new_ne wr _ gb
        have hA : a < wr.heap.size := World.block_lt_of_cell? wr _ ga
        have hD : c < wr.heap.size := World.block_lt_of_cell? wr _ gc
        have hC : b < wr.heap.size := World.block_lt_of_cell? wr _ gb
        go_region_held3 (fun w' => w'.cell? ⟨a, k, none⟩ = some (.int .u32 x) ∧ w'.cell? ⟨b, k, none⟩ = some (.int .u32 y)) (first | (go_split_ands; (refine ⟨?_, ?_⟩) <;> (first | assumption | (with_reducible refine blater hb ?_; assumption) | (with_reducible refine later ?_ _; first | exact ga2.out | exact gb2.out) | (with_reducible refine setl2 hA ?_; exact ga2.out) | (with_reducible refine setl2 hC ?_; exact gb2.out))) | go_keep) (first | (go_at_call 35; refine (zp_any _ _ _).mono ?_; rintro e w2 ⟨rfl, hb⟩; have hb' := btrans (Below.drew (Below.refl wr.heap.size wr)) hb; have ga2 := Lib.hid (blater hb' ga); have gb2 := Lib.hid (blater hb' gb)) | (go_at_call 35; refine (zp_any _ _ _).mono ?_; rintro e w2 ⟨rfl, hb⟩; obtain ⟨r0, r1, f0, f1, hb'⟩ := rcell (w := wr) (btrans (Below.drew (Below.refl _ (wr.alloc (C2 0 0)))) hb); have ga2 := Lib.hid (blater hb' ga); have gb2 := Lib.hid (blater hb' gb)))
        · have gg := later (blater hb' gc)
          have HV := fun o => balloc hb' o
          clear hb
          go_wp2_with fail
          refine (sglWord_pos _ _ _).mono ?_
          rintro e w3 ⟨q, rfl, hb, P⟩
          have P1 := P w.heap.size (Nat.lt_of_lt_of_le (hown.lt w.heap.size rfl).2 (HV _).size)
          have hb3 := btrans (HV _) hb
          replace hown := own_below hown hb3
          replace hF := First.later hb3 hF
          replace hB := btrans hB hb3
          clear hb hb3 HV gc gg P ga gb y1 y2 hA hC hD ga2 gb2 hb'
          have hxl : xs.length = n := by have := hown.1; omega
          have g2 : ∃ u, w3.cell? ⟨w.heap.size, k, none⟩ = some u := by
            rw [hown.cellAt k (by omega)]
            exact ⟨xs[k]'(by omega), List.getElem?_eq_getElem _⟩
          obtain ⟨u, g2⟩ := g2
          have g3 := hown.frozenAt k
          have R1 := Lib.hid (hown.stored k (.pointer (some ⟨q, 0, none⟩)))
          have R2 := Lib.hid (hB.setCell (p := ⟨w.heap.size, k, none⟩) (Nat.le_refl _) (.pointer (some ⟨q, 0, none⟩)))
          have R3 := Lib.hid (hF.put (by omega) P1)
          clear hown hB hF P1 hxl
          go_wp2
          go_roundw
          case rel => exact ⟨k + 1, _, by omega, by go_num, R1.out.1, R2.out, R3.out⟩
          case measure => simp [intOf]; omega
        · have gg := fun (u v : Value) => setl2 (x := u) (y := v) hD (blater hb' gc)
          have HV := fun u v => rend hb' u v
          clear hb
          go_wp2_with fail
          refine (sglWord_pos _ _ _).mono ?_
          rintro e w3 ⟨q, rfl, hb, P⟩
          clear r0 r1 f0 f1
          have P1 := P w.heap.size (Nat.lt_of_lt_of_le (hown.lt w.heap.size rfl).2 (HV _ _).size)
          have hb3 := btrans (HV _ _) hb
          replace hown := own_below hown hb3
          replace hF := First.later hb3 hF
          replace hB := btrans hB hb3
          clear hb hb3 HV gc gg P ga gb y1 y2 hA hC hD ga2 gb2 hb'
          have hxl : xs.length = n := by have := hown.1; omega
          have g2 : ∃ u, w3.cell? ⟨w.heap.size, k, none⟩ = some u := by
            rw [hown.cellAt k (by omega)]
            exact ⟨xs[k]'(by omega), List.getElem?_eq_getElem _⟩
          obtain ⟨u, g2⟩ := g2
          have g3 := hown.frozenAt k
          have R1 := Lib.hid (hown.stored k (.pointer (some ⟨q, 0, none⟩)))
          have R2 := Lib.hid (hB.setCell (p := ⟨w.heap.size, k, none⟩) (Nat.le_refl _) (.pointer (some ⟨q, 0, none⟩)))
          have R3 := Lib.hid (hF.put (by omega) P1)
          clear hown hB hF P1 hxl
          go_wp2
          go_roundw
          case rel => exact ⟨k + 1, _, by omega, by go_num, R1.out.1, R2.out, R3.out⟩
          case measure => simp [intOf]; omega
    · go_wp2
      go_ret
      obtain rfl : k = n := by omega
      exact ⟨xs, rfl, hown, hB, hF⟩
end Go.Proofs.Ytjpodhmjmohblaa
