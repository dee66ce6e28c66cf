/- The grammar of a literal ahead of a redirect, and the contract of isLitRedir. -/
import Derived.Test.YtjpimejjbiemgaaRed1
namespace Go.Proofs.Ytjpimejjbiemgaa
open Go.RowKit
set_option linter.unusedVariables false

def Arr (m : Nat) (y : Nat → Int) (k : Nat) : Prop := k + 3 ≤ m ∧ y k = 91 ∧ y (m - 1) = 93 ∧ valF k y = true
def GrI (m : Nat) (y : Nat → Int) (bash : Bool) : Prop := valF m y = true ∨ (bash = true ∧ ∃ k, Arr m y k)
def sh (x : Nat → Int) (i : Nat) : Int := x (i + 1)
def Gr (n : Nat) (x : Nat → Int) (bash : Bool) : Prop := (x 0 = 123 ∧ x (n - 1) = 125 ∧ GrI (n - 2) (sh x) bash) ∨ (¬ (x 0 = 123 ∧ x (n - 1) = 125) ∧ digF n x = true)
def RPost (n : Nat) (x : Nat → Int) (bash : Bool) (w : World) (e : Ending) (w' : World) : Prop := ∃ r : Bool, e = .returned (.bool r) ∧ (r = true ↔ Gr n x bash) ∧ Below w.heap.size w w'
theorem nam91 : namB 91 = false := by decide
theorem nam93 : namB 93 = false := by decide
theorem valF_all {n : Nat} {x : Nat → Int} (h : valF n x = true) : 0 < n ∧ ∀ i, i < n → namB (x i) = true := by
  obtain ⟨a, _, b⟩ := of_decide_eq_true h; exact ⟨a, b⟩
theorem val_last {m : Nat} {y : Nat → Int} (h0 : 0 < m) (h : y (m - 1) = 93) : valF m y = false := valF_at (m - 1) (by omega) (by rw [h]; exact nam93)
theorem Arr.first {m k : Nat} {y : Nat → Int} (h : Arr m y k) : 0 < k ∧ (∀ i, i < k → namB (y i) = true) ∧ ∀ i, i < k → y i ≠ 91 := by
  obtain ⟨_, _, _, h4⟩ := h
  obtain ⟨a, b⟩ := valF_all h4
  exact ⟨a, b, fun i hi e => by have := b i hi; rw [e, nam91] at this; cases this⟩
theorem first_eq {y : Nat → Int} {i k : Nat} (h1 : y i = 91) (h2 : ∀ j, j < i → y j ≠ 91) (h3 : y k = 91) (h4 : ∀ j, j < k → y j ≠ 91) : i = k := by
  rcases Nat.lt_trichotomy i k with h | h | h
  · exact absurd h1 (h4 i h)
  · exact h
  · exact absurd h3 (h2 k h)
theorem p_plain {m : Nat} {y : Nat → Int} {bash : Bool} (h : ¬ (bash = true ∧ 0 < m ∧ y (m - 1) = 93)) : valF m y = true ↔ GrI m y bash := by
  constructor
  · exact .inl
  · rintro (h1 | ⟨hb, k, h1, h2, h3, h4⟩)
    · exact h1
    · exact absurd ⟨hb, by omega, h3⟩ h
theorem p_cut {m i : Nat} {y : Nat → Int} (h1 : y i = 91) (h2 : ∀ j, j < i → y j ≠ 91) (h3 : i + 3 ≤ m) (h4 : y (m - 1) = 93) : valF i y = true ↔ GrI m y true := by
  constructor
  · intro h; exact .inr ⟨rfl, i, h3, h1, h4, h⟩
  · rintro (h | ⟨_, k, hk⟩)
    · rw [val_last (by omega) h4] at h; cases h
    · obtain rfl := first_eq h1 h2 hk.2.1 hk.first.2.2
      exact hk.2.2.2
theorem p_nocut {m : Nat} {y : Nat → Int} (h0 : 0 < m) (h4 : y (m - 1) = 93) (h : ∀ k, k + 3 ≤ m → 0 < k → y k = 91 → (∀ j, j < k → y j ≠ 91) → False) : valF m y = true ↔ GrI m y true := by
  constructor
  · exact .inl
  · rintro (h | ⟨_, k, hk⟩)
    · exact h
    · exact (h k hk.1 hk.first.1 hk.2.1 hk.first.2.2).elim
theorem m_nobash {m : Nat} {y : Nat → Int} (h : valF m y = false) : ¬ GrI m y false := by
  rintro (h1 | ⟨h1, _⟩)
  · rw [h] at h1; cases h1
  · cases h1
theorem m_stop {m k : Nat} {y : Nat → Int} (hk : k ≤ m) (h1 : ∀ j, j < k → namB (y j) = true) (h2 : k < m → namB (y k) = false ∧ y k ≠ 91) (h : valF m y = false) : ¬ GrI m y true := by
  rintro (h3 | ⟨_, q, hq⟩)
  · rw [h] at h3; cases h3
  · have hq1 := hq.1
    rcases Nat.lt_trichotomy q k with hl | hl | hl
    · have := h1 q hl; rw [hq.2.1, nam91] at this; cases this
    · subst hl; exact (h2 (by omega)).2 hq.2.1
    · have := hq.first.2.1 k hl; rw [(h2 (by omega)).1] at this; cases this
theorem m_same {m k : Nat} {y : Nat → Int} (hk : k < m) (h1 : ∀ j, j < k → namB (y j) = true) (h2 : y k = 91) (h : valF m y = false) : GrI m y true ↔ Arr m y k := by
  constructor
  · rintro (h3 | ⟨_, q, hq⟩)
    · rw [h] at h3; cases h3
    · obtain rfl : q = k := first_eq hq.2.1 hq.first.2.2 h2 (fun j hj e => by have := h1 j hj; rw [e, nam91] at this; cases this)
      exact hq
  · intro hq; exact .inr ⟨rfl, k, hq⟩
theorem gr_in {n : Nat} {x : Nat → Int} {bash : Bool} (h0 : x 0 = 123) (h1 : x (n - 1) = 125) {r : Bool} (h : r = true ↔ GrI (n - 2) (sh x) bash) : r = true ↔ Gr n x bash := by
  rw [h]
  constructor
  · intro hh; exact .inl ⟨h0, h1, hh⟩
  · rintro (⟨_, _, hh⟩ | ⟨hh, _⟩)
    · exact hh
    · exact absurd ⟨h0, h1⟩ hh
theorem gr_dig {n : Nat} {x : Nat → Int} {bash : Bool} (h0 : ¬ (x 0 = 123 ∧ x (n - 1) = 125)) : digF n x = true ↔ Gr n x bash := by
  constructor
  · intro hh; exact .inr ⟨h0, hh⟩
  · rintro (⟨a, b, _⟩ | ⟨_, hh⟩)
    · exact absurd ⟨a, b⟩ h0
    · exact hh
theorem inB (l : Int) (bash : Bool) (h : (bash = true ∧ (l = 1 ∨ l = 8)) ∨ (bash = false ∧ (l = 2 ∨ l = 4 ∨ l = 16))) (w : World) : Calls Try.prog 53 #[.int .i64 l, .int .i64 9] w fun e w' => e = .returned (.bool bash) ∧ w = w' := by
  rcases h with ⟨rfl, rfl | rfl⟩ | ⟨rfl, rfl | rfl | rfl⟩
  all_goals
    go_enter Try.func53, Try.ntmps53
    go_wp2
    go_ret
    exact ⟨rfl, rfl⟩
/-- isLitRedir at a literal that is no braced one -/
theorem red_dig (p b off n cap : Nat) (l : Int) (x : Nat → Int) (bash : Bool) (w : World) (hn : 0 < n) (hm : n ≤ 65536) (hcap : n + 1 ≤ cap) (hcap2 : cap ≤ 70000) (hx : ∀ i, i < n → 0 ≤ x i ∧ x i ≤ 255)
    (h3 : w.cell? ⟨p, 2087, none⟩ = some (.slice (some ⟨b, off, none⟩) (n + 1) cap)) (h5 : w.cell? ⟨p, 20, none⟩ = some (.int .i64 l)) (hc : ∀ i, i < n → w.cell? ⟨b, off + i, none⟩ = some (.int .u8 (x i))) (h0 : ¬ (x 0 = 123 ∧ x (n - 1) = 125)) :
    Calls Try.prog 50 #[.pointer (some ⟨p, 0, none⟩)] w (RPost n x bash w) := by
  have g0 : w.cell? ⟨b, off, none⟩ = some (.int .u8 (x 0)) := hc 0 hn
  have g1 : w.cell? ⟨b, off + (n - 1), none⟩ = some (.int .u8 (x (n - 1))) := hc (n - 1) (by omega)
  have EE := Lib.hid (gr_dig (bash := bash) h0)
  have NB := Lib.hid (fun (W : World) (hW : W.cell? = w.cell?) => numByt b off n cap x hx W (by rw [hW]; exact hc))
  clear hc hx
  obtain ⟨x0, hx0⟩ : ∃ x0, x0 = x 0 := ⟨_, rfl⟩
  obtain ⟨x1, hx1⟩ : ∃ x1, x1 = x (n - 1) := ⟨_, rfl⟩
  rw [← hx0] at g0 h0
  rw [← hx1] at g1 h0
  clear hx0 hx1
  by_cases e0 : x0 = 123
  · have e1 : (x1 == 125) = false := beq_eq_false_iff_ne.2 (fun h => h0 ⟨e0, h⟩)
    subst e0
    clear h0
    go_enter Try.func50, Try.ntmps50
    go_wp2
    go_region
    all_goals
      go_wp2_with fail
      refine (NB.out w.drew rfl).mono ?_
      rintro e w1 ⟨rfl, hb⟩
      have HB := ((Below.refl _ w).drew).trans hb
      clear hb
      go_wp2
      go_ret
      exact ⟨_, rfl, EE.out, HB⟩
  · have e1 : (x0 == 123) = false := beq_eq_false_iff_ne.2 e0
    clear h0 e0
    go_enter Try.func50, Try.ntmps50
    go_wp2
    go_region
    all_goals
      go_wp2_with fail
      refine (NB.out w.drew rfl).mono ?_
      rintro e w1 ⟨rfl, hb⟩
      have HB := ((Below.refl _ w).drew).trans hb
      clear hb
      go_wp2
      go_ret
      exact ⟨_, rfl, EE.out, HB⟩
/-- isLitRedir at a braced literal, the name as it stands -/
theorem red_plain (p b off m cap : Nat) (l : Int) (x : Nat → Int) (bash : Bool) (w : World) (hm : m + 2 ≤ 65536) (hcap : m + 3 ≤ cap) (hcap2 : cap ≤ 70000) (hx : ∀ i, i < m + 2 → 0 ≤ x i ∧ x i ≤ 255) (hl : (bash = true ∧ (l = 1 ∨ l = 8)) ∨ (bash = false ∧ (l = 2 ∨ l = 4 ∨ l = 16)))
    (h3 : w.cell? ⟨p, 2087, none⟩ = some (.slice (some ⟨b, off, none⟩) (m + 2 + 1) cap)) (h5 : w.cell? ⟨p, 20, none⟩ = some (.int .i64 l)) (hc : ∀ i, i < m + 2 → w.cell? ⟨b, off + i, none⟩ = some (.int .u8 (x i))) (h0 : x 0 = 123) (h1 : x (m + 1) = 125) (h2 : ¬ (bash = true ∧ 0 < m ∧ sh x (m - 1) = 93)) :
    Calls Try.prog 50 #[.pointer (some ⟨p, 0, none⟩)] w (RPost (m + 2) x bash w) := by
  have g0 : w.cell? ⟨b, off, none⟩ = some (.int .u8 123) := by rw [← h0]; exact hc 0 (by omega)
  have g1 : w.cell? ⟨b, off + (m + 1), none⟩ = some (.int .u8 125) := by rw [← h1]; exact hc (m + 1) (by omega)
  have EE := Lib.hid (gr_in (n := m + 2) h0 h1 (p_plain h2))
  have IB := Lib.hid (inB l bash hl)
  have hin : ∀ i, i < m → w.cell? ⟨b, off + 1 + i, none⟩ = some (.int .u8 (sh x i)) := fun i hi => by rw [Nat.add_assoc, Nat.add_comm 1 i]; exact hc (i + 1) (by omega)
  have CV := Lib.hid (fun (c : Nat) => conv_row w.drew b (off + 1) m c (sh x) hin)
  have VN := Lib.hid (fun W => vnam m (sh x) (fun i hi => hx (i + 1) (by omega)) W)
  have hlast : 0 < m → w.cell? ⟨b, off + 1 + (m - 1), none⟩ = some (.int .u8 (sh x (m - 1))) := fun h => hin (m - 1) (by omega)
  have H2 := Lib.hid h2
  clear hc hx h0 h1 hl hin h2
  have e9 := Lib.hid (show m + 2 - 1 - 1 = m from by omega)
  have cv := CV.out
  cases bash with
  | false =>
    clear hlast H2
    go_enter Try.func50, Try.ntmps50
    go_wp2
    go_region
    all_goals
      go_wp2_with fail
      refine (IB.out _).mono ?_
      rintro e w1 ⟨rfl, rfl⟩
      rw [e9.out]
      go_wp2_with fail
      refine (VN.out _).mono ?_
      rintro e w1 ⟨rfl, hb⟩
      have HB := ((Below.refl _ w).drew).trans hb
      clear hb
      go_wp2
      go_ret
      exact ⟨_, rfl, EE.out, HB⟩
  | true =>
    by_cases h0 : m = 0
    · subst h0
      clear hlast H2
      go_enter Try.func50, Try.ntmps50
      go_wp2
      go_region
      all_goals
        go_wp2_with fail
        refine (IB.out _).mono ?_
        rintro e w1 ⟨rfl, rfl⟩
        go_wp2_with fail
        refine (VN.out _).mono ?_
        rintro e w1 ⟨rfl, hb⟩
        have HB := ((Below.refl _ w).drew).trans hb
        clear hb
        go_wp2
        go_ret
        exact ⟨_, rfl, EE.out, HB⟩
    · have hl := hlast (by omega)
      have h0' : 0 < m := by omega
      have hne : (sh x (m - 1) == 93) = false := beq_eq_false_iff_ne.2 (fun h => H2.out ⟨rfl, h0', h⟩)
      clear hlast H2 h0
      generalize sh x (m - 1) = z at *
      go_enter Try.func50, Try.ntmps50
      go_wp2
      go_region
      all_goals
        go_wp2_with fail
        refine (IB.out _).mono ?_
        rintro e w1 ⟨rfl, rfl⟩
        rw [e9.out]
        go_wp2_with fail
        refine (VN.out _).mono ?_
        rintro e w1 ⟨rfl, hb⟩
        have HB := ((Below.refl _ w).drew).trans hb
        clear hb
        go_wp2
        go_ret
        exact ⟨_, rfl, EE.out, HB⟩
/-- isLitRedir at a braced literal that ends in a bracket -/
theorem red_cut (p b off m cap : Nat) (l : Int) (x : Nat → Int) (w : World) (hm : m + 2 ≤ 65536) (hcap : m + 3 ≤ cap) (hcap2 : cap ≤ 70000) (hx : ∀ i, i < m + 2 → 0 ≤ x i ∧ x i ≤ 255) (hl : l = 1 ∨ l = 8)
    (h3 : w.cell? ⟨p, 2087, none⟩ = some (.slice (some ⟨b, off, none⟩) (m + 2 + 1) cap)) (h5 : w.cell? ⟨p, 20, none⟩ = some (.int .i64 l)) (hc : ∀ i, i < m + 2 → w.cell? ⟨b, off + i, none⟩ = some (.int .u8 (x i))) (h0 : x 0 = 123) (h1 : x (m + 1) = 125) (m0 : 0 < m) (h2 : sh x (m - 1) = 93) :
    Calls Try.prog 50 #[.pointer (some ⟨p, 0, none⟩)] w (RPost (m + 2) x true w) := by
  have g0 : w.cell? ⟨b, off, none⟩ = some (.int .u8 123) := by rw [← h0]; exact hc 0 (by omega)
  have g1 : w.cell? ⟨b, off + (m + 1), none⟩ = some (.int .u8 125) := by rw [← h1]; exact hc (m + 1) (by omega)
  have GI := Lib.hid (fun r : Bool => gr_in (n := m + 2) (bash := true) (r := r) h0 h1)
  have IB := Lib.hid (inB l true (.inl ⟨rfl, hl⟩))
  have hin : ∀ i, i < m → w.cell? ⟨b, off + 1 + i, none⟩ = some (.int .u8 (sh x i)) := fun i hi => by rw [Nat.add_assoc, Nat.add_comm 1 i]; exact hc (i + 1) (by omega)
  have hin2 : ∀ i, i < m → 0 ≤ sh x i ∧ sh x i ≤ 255 := fun i hi => hx (i + 1) (by omega)
  have CV := Lib.hid (fun (c k : Nat) (hk : k ≤ m) => conv_row w.drew b (off + 1) k c (sh x) (fun i hi => hin i (by omega)))
  have VN := Lib.hid (fun (W : World) (k : Nat) (hk : k ≤ m) => vnam k (sh x) (fun i hi => hin2 i (by omega)) W)
  have IX := Lib.hid (fun c => idx b (off + 1) m c (sh x) hin2 w.drew hin)
  have hlast : w.cell? ⟨b, off + 1 + (m - 1), none⟩ = some (.int .u8 93) := by rw [← h2]; exact hin (m - 1) (by omega)
  have H2 := Lib.hid h2
  clear hc hx h0 h1 hl hin hin2 h2
  have e9 := Lib.hid (show m + 2 - 1 - 1 = m from by omega)
  go_enter Try.func50, Try.ntmps50
  go_wp2
  go_region
  all_goals
    go_wp2_with fail
    refine (IB.out _).mono ?_
    rintro e w1 ⟨rfl, rfl⟩
    rw [e9.out]
    go_wp2_with fail
    refine (IX.out _).mono ?_
    rintro e w1 ⟨rfl, ⟨rfl, hno⟩ | ⟨i, rfl, hi1, hi2, hi3⟩⟩
    · have EE := Lib.hid ((GI.out _) (p_nocut m0 H2.out (fun k h1 _ h2 _ => hno k (by omega) h2)))
      have cv := fun c => CV.out c m (Nat.le_refl _)
      clear hno
      go_wp2_with fail
      refine (VN.out _ m (Nat.le_refl _)).mono ?_
      rintro e w1 ⟨rfl, hb⟩
      have HB := ((Below.refl _ w).drew).trans hb
      clear hb
      go_wp2
      go_ret
      exact ⟨_, rfl, EE.out, HB⟩
    · by_cases hcut : 0 < i ∧ i + 3 ≤ m
      · obtain ⟨c1, c2⟩ := hcut
        have EE := Lib.hid ((GI.out _) (p_cut hi2 hi3 c2 H2.out))
        have cv := fun c => CV.out c i (by omega)
        have d1 : decide ((0 : Int) < (i : Int)) = true := by simp; omega
        have d2 : decide ((i : Int) < (m : Int) - 2) = true := by simp; omega
        clear hi2 hi3
        go_wp2_with fail
        refine (VN.out _ i (by omega)).mono ?_
        rintro e w1 ⟨rfl, hb⟩
        have HB := ((Below.refl _ w).drew).trans hb
        clear hb
        go_wp2
        go_ret
        exact ⟨_, rfl, EE.out, HB⟩
      · have EE := Lib.hid ((GI.out _) (p_nocut m0 H2.out (fun k h1 h0 h2 h4 => hcut (by obtain rfl := first_eq hi2 hi3 h2 h4; exact ⟨h0, h1⟩))))
        have cv := fun c => CV.out c m (Nat.le_refl _)
        clear hi2 hi3
        by_cases c1 : 0 < i
        · have d1 : decide ((0 : Int) < (i : Int)) = true := by simp; omega
          have d2 : decide ((i : Int) < (m : Int) - 2) = false := by simp; omega
          go_wp2_with fail
          refine (VN.out _ m (Nat.le_refl _)).mono ?_
          rintro e w1 ⟨rfl, hb⟩
          have HB := ((Below.refl _ w).drew).trans hb
          clear hb
          go_wp2
          go_ret
          exact ⟨_, rfl, EE.out, HB⟩
        · obtain rfl : i = 0 := by omega
          rw [show ((0 : Nat) : Int) = 0 from rfl]
          go_wp2_with fail
          refine (VN.out _ m (Nat.le_refl _)).mono ?_
          rintro e w1 ⟨rfl, hb⟩
          have HB := ((Below.refl _ w).drew).trans hb
          clear hb
          go_wp2
          go_ret
          exact ⟨_, rfl, EE.out, HB⟩
/-- isLitRedir -/
theorem red_any (p b off n cap : Nat) (l : Int) (x : Nat → Int) (bash : Bool) (w : World) (hn : 0 < n) (hm : n ≤ 65536) (hcap : n + 1 ≤ cap) (hcap2 : cap ≤ 70000) (hx : ∀ i, i < n → 0 ≤ x i ∧ x i ≤ 255) (hl : (bash = true ∧ (l = 1 ∨ l = 8)) ∨ (bash = false ∧ (l = 2 ∨ l = 4 ∨ l = 16)))
    (h3 : w.cell? ⟨p, 2087, none⟩ = some (.slice (some ⟨b, off, none⟩) (n + 1) cap)) (h5 : w.cell? ⟨p, 20, none⟩ = some (.int .i64 l)) (hc : ∀ i, i < n → w.cell? ⟨b, off + i, none⟩ = some (.int .u8 (x i))) :
    Calls Try.prog 50 #[.pointer (some ⟨p, 0, none⟩)] w (RPost n x bash w) := by
  by_cases h0 : x 0 = 123 ∧ x (n - 1) = 125
  · obtain ⟨a, c⟩ := h0
    have h2 : 2 ≤ n := by
      rcases Nat.lt_or_ge n 2 with h | h
      · obtain rfl : n = 1 := by omega
        rw [show 1 - 1 = 0 from rfl, a] at c; omega
      · exact h
    obtain ⟨m, rfl⟩ : ∃ m, n = m + 2 := ⟨n - 2, by omega⟩
    by_cases h4 : bash = true ∧ 0 < m ∧ sh x (m - 1) = 93
    · obtain ⟨rfl, h5', h6⟩ := h4
      exact red_cut p b off m cap l x w hm hcap hcap2 hx (by simpa using hl) h3 h5 hc a c h5' h6
    · exact red_plain p b off m cap l x bash w hm hcap hcap2 hx hl h3 h5 hc a c h4
  · exact red_dig p b off n cap l x bash w hn hm hcap hcap2 hx h3 h5 hc h0
theorem red_call (p b off n cap : Nat) (l : Int) (x : Nat → Int) (bash : Bool) (w : World) (hn : 0 < n) (hm : n ≤ 65536) (hcap : n + 1 ≤ cap) (hcap2 : cap ≤ 70000) (hx : ∀ i, i < n → 0 ≤ x i ∧ x i ≤ 255) (hl : (bash = true ∧ (l = 1 ∨ l = 8)) ∨ (bash = false ∧ (l = 2 ∨ l = 4 ∨ l = 16)))
    (h3 : w.cell? ⟨p, 2087, none⟩ = some (.slice (some ⟨b, off, none⟩) (n + 1) cap)) (h5 : w.cell? ⟨p, 20, none⟩ = some (.int .i64 l)) (hc : ∀ i, i < n → w.cell? ⟨b, off + i, none⟩ = some (.int .u8 (x i))) :
    Calls Try.prog 40 #[.pointer (some ⟨p, 0, none⟩)] w (RPost n x bash w) := by
  have H := Lib.hid (red_any p b off n cap l x bash w hn hm hcap hcap2 hx hl h3 h5 hc)
  clear h3 h5 hc hx hl
  go_enter Try.func40, Try.ntmps40
  go_wp2_with fail
  refine H.out.mono ?_
  rintro e w1 ⟨r, rfl, hr, hb⟩
  have HR := Lib.hid hr
  clear hr
  go_wp2
  go_ret
  exact ⟨r, rfl, HR.out, hb⟩
end Go.Proofs.Ytjpimejjbiemgaa
