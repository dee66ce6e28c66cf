/- The contract of zzRedirModel: the same grammar. -/
import Derived.Test.YtjpimejjbiemgaaRed2
namespace Go.Proofs.Ytjpimejjbiemgaa
open Go.RowKit
set_option linter.unusedVariables false

def MPost (n : Nat) (x : Nat → Int) (bash : Bool) (w : World) (e : Ending) (w' : World) : Prop := ∃ r : Bool, e = .returned (.bool r) ∧ (r = true ↔ Gr n x bash) ∧ w = w'
/-- not a braced literal -/
theorem mod_dig (b off n cap : Nat) (x : Nat → Int) (bash : Bool) (w : World) (hn : 0 < n) (hm : n ≤ 65536) (hc : ∀ i, i < n → w.cell? ⟨b, off + i, none⟩ = some (.int .u8 (x i))) (h0 : ¬ (x 0 = 123 ∧ x (n - 1) = 125)) :
    Calls Try.prog 19 #[.slice (some ⟨b, off, none⟩) n cap, .bool bash] w (MPost n x bash w) := by
  have g0 : w.cell? ⟨b, off, none⟩ = some (.int .u8 (x 0)) := hc 0 hn
  have g1 : w.cell? ⟨b, off + (n - 1), none⟩ = some (.int .u8 (x (n - 1))) := hc (n - 1) (by omega)
  have EE := Lib.hid (gr_dig (bash := bash) h0)
  have NB := Lib.hid (allDig b off n cap x w hm hc)
  clear hc
  obtain ⟨x0, hx0⟩ : ∃ x0, x0 = x 0 := ⟨_, rfl⟩
  obtain ⟨x1, hx1⟩ : ∃ x1, x1 = x (n - 1) := ⟨_, rfl⟩
  rw [← hx0] at g0 h0
  rw [← hx1] at g1 h0
  clear hx0 hx1
  by_cases h2 : 2 ≤ n
  · have d2 : decide ((2 : Int) ≤ (n : Int)) = true := by simp; omega
    by_cases e0 : x0 = 123
    · have e1 : (x1 == 125) = false := beq_eq_false_iff_ne.2 (fun h => h0 ⟨e0, h⟩)
      subst e0
      clear h0
      go_enter Try.func19, Try.ntmps19
      go_wp2_with fail
      refine NB.out.mono ?_
      rintro e w1 ⟨rfl, rfl⟩
      go_wp2
      go_ret
      exact ⟨_, rfl, EE.out, rfl⟩
    · have e1 : (x0 == 123) = false := beq_eq_false_iff_ne.2 e0
      clear h0 e0
      go_enter Try.func19, Try.ntmps19
      go_wp2_with fail
      refine NB.out.mono ?_
      rintro e w1 ⟨rfl, rfl⟩
      go_wp2
      go_ret
      exact ⟨_, rfl, EE.out, rfl⟩
  · have d2 : decide ((2 : Int) ≤ (n : Int)) = false := by simp; omega
    clear h0
    go_enter Try.func19, Try.ntmps19
    go_wp2_with fail
    refine NB.out.mono ?_
    rintro e w1 ⟨rfl, rfl⟩
    go_wp2
    go_ret
    exact ⟨_, rfl, EE.out, rfl⟩
set_option maxHeartbeats 1000000 in
/-- a braced literal -/
theorem mod_in (b off m cap : Nat) (x : Nat → Int) (bash : Bool) (w : World) (hm : m + 2 ≤ 65536) (hcap : m + 2 ≤ cap) (hcap2 : cap ≤ 70000) (hc : ∀ i, i < m + 2 → w.cell? ⟨b, off + i, none⟩ = some (.int .u8 (x i))) (h0 : x 0 = 123) (h1 : x (m + 1) = 125) :
    Calls Try.prog 19 #[.slice (some ⟨b, off, none⟩) (m + 2) cap, .bool bash] w (MPost (m + 2) x bash w) := by
  have g0 : w.cell? ⟨b, off, none⟩ = some (.int .u8 123) := by rw [← h0]; exact hc 0 (by omega)
  have g1 : w.cell? ⟨b, off + (m + 1), none⟩ = some (.int .u8 125) := by rw [← h1]; exact hc (m + 1) (by omega)
  have GI := Lib.hid (fun r : Bool => gr_in (n := m + 2) (bash := bash) (r := r) h0 h1)
  have hin : ∀ i, i < m → w.cell? ⟨b, off + 1 + i, none⟩ = some (.int .u8 (sh x i)) := fun i hi => by rw [Nat.add_assoc, Nat.add_comm 1 i]; exact hc (i + 1) (by omega)
  have VB := Lib.hid (fun (k c : Nat) (hk : k ≤ m) => valNam b (off + 1) k c (sh x) w (by omega) (fun i hi => hin i (by omega)))
  have HI := Lib.hid hin
  clear hc h0 h1 hin
  have e9 := Lib.hid (show m + 2 - 1 - 1 = m from by omega)
  have d2 : decide ((2 : Int) ≤ ((m + 2 : Nat) : Int)) = true := by simp; omega
  generalize sh x = y at *
  by_cases hv : valF m y = true
  · go_enter Try.func19, Try.ntmps19
    go_wp2_with fail
    rw [e9.out]
    refine (VB.out m _ (Nat.le_refl _)).mono ?_
    rintro e w1 ⟨rfl, rfl⟩
    go_wp2
    go_ret
    exact ⟨true, rfl, (GI.out _) ⟨fun _ => .inl hv, fun _ => rfl⟩, rfl⟩
  · replace hv : valF m y = false := by simpa using hv
    cases bash with
    | false =>
      go_enter Try.func19, Try.ntmps19
      go_wp2_with fail
      rw [e9.out]
      refine (VB.out m _ (Nat.le_refl _)).mono ?_
      rintro e w1 ⟨rfl, rfl⟩
      go_wp2
      go_ret
      exact ⟨false, rfl, (GI.out _) ⟨fun h => by (cases h), fun h => absurd h (m_nobash hv)⟩, rfl⟩
    | true =>
      go_enter Try.func19, Try.ntmps19
      go_wp2_with fail
      rw [e9.out]
      refine (VB.out m _ (Nat.le_refl _)).mono ?_
      rintro e w1 ⟨rfl, rfl⟩
      rw [hv]
      go_wp2
      clear d2
      go_loop [7] (fun i => ∃ k : Nat, k ≤ m ∧ i = .int .i64 k ∧ ∀ j, j < k → namB (y j) = true) (fun i => m - (intOf i).toNat)
      case atStart => exact ⟨0, Nat.zero_le _, rfl, fun j hj => absurd hj (by omega)⟩
      case round =>
        obtain ⟨k, hk, rfl, hd⟩ := hrel
        have HD := Lib.hid hd
        clear hd
        by_cases hlt : k < m
        · have q1 := HI.out k hlt
          have d1 : decide ((k : Int) < (m : Int)) = true := by simp; omega
          have d3 : decide ((m : Int) ≤ (k : Int)) = false := by simp; omega
          by_cases hg : namB (y k) = true
          · clear d3
            go_wp2_with (go_at_call 42; refine (isNam _ _).mono ?_; rintro e w1 ⟨rfl, rfl⟩)
            go_round
            case rel => exact ⟨k + 1, by omega, by go_num, fun j hj => by
              by_cases hjk : j = k
              · subst hjk; exact hg
              · exact HD.out j (by omega)⟩
            case measure => simp [intOf]; omega
          · replace hg : namB (y k) = false := by simpa using hg
            by_cases h91 : y k = 91
            · have MS := Lib.hid (m_same hlt HD.out h91 hv)
              have e1 : (y k != 91) = false := by simp [h91]
              have hkm : k ≤ cap - 1 := by omega
              clear h91
              by_cases hk2 : valF k y = true
              · have q2 := HI.out (m - 1) (by omega)
                by_cases h93 : k + 3 ≤ m
                · have d4 : decide ((k : Int) + 3 ≤ (m : Int)) = true := by simp; omega
                  by_cases hz : y (m - 1) = 93
                  · have e2 : (y (m - 1) == 93) = true := by simp [hz]
                    have FF := Lib.hid ((GI.out true) ⟨fun _ => MS.out.2 ⟨h93, by simpa using e1, hz, hk2⟩, fun _ => rfl⟩)
                    clear hz
                    go_wp2_with (first | (go_at_call 42; refine (isNam _ _).mono ?_; rintro e w1 ⟨rfl, rfl⟩) | (go_at_call 41; refine (VB.out k _ hk).mono ?_; rintro e w1 ⟨rfl, rfl⟩))
                    go_ret
                    exact ⟨true, rfl, by simpa using FF.out, rfl⟩
                  · have e2 : (y (m - 1) == 93) = false := beq_eq_false_iff_ne.2 hz
                    have FF := Lib.hid ((GI.out false) ⟨fun h => by (cases h), fun h => absurd (MS.out.1 h).2.2.1 hz⟩)
                    clear hz
                    go_wp2_with (first | (go_at_call 42; refine (isNam _ _).mono ?_; rintro e w1 ⟨rfl, rfl⟩) | (go_at_call 41; refine (VB.out k _ hk).mono ?_; rintro e w1 ⟨rfl, rfl⟩))
                    go_ret
                    exact ⟨false, rfl, FF.out, rfl⟩
                · have d4 : decide ((k : Int) + 3 ≤ (m : Int)) = false := by simp; omega
                  have FF := Lib.hid ((GI.out false) ⟨fun h => by (cases h), fun h => absurd (MS.out.1 h).1 h93⟩)
                  go_wp2_with (first | (go_at_call 42; refine (isNam _ _).mono ?_; rintro e w1 ⟨rfl, rfl⟩) | (go_at_call 41; refine (VB.out k _ hk).mono ?_; rintro e w1 ⟨rfl, rfl⟩))
                  go_ret
                  exact ⟨false, rfl, FF.out, rfl⟩
              · have FF := Lib.hid ((GI.out false) ⟨fun h => by (cases h), fun h => absurd (MS.out.1 h).2.2.2 hk2⟩)
                replace hk2 : valF k y = false := by simpa using hk2
                go_wp2_with (first | (go_at_call 42; refine (isNam _ _).mono ?_; rintro e w1 ⟨rfl, rfl⟩) | (go_at_call 41; refine (VB.out k _ hk).mono ?_; rintro e w1 ⟨rfl, rfl⟩))
                go_ret
                exact ⟨false, rfl, FF.out, rfl⟩
            · have FF := Lib.hid ((GI.out false) ⟨fun h => by (cases h), fun h => absurd h (m_stop hk HD.out (fun _ => ⟨hg, h91⟩) hv)⟩)
              have e1 : (y k != 91) = true := by simp [h91]
              clear h91
              go_wp2_with (first | (go_at_call 42; refine (isNam _ _).mono ?_; rintro e w1 ⟨rfl, rfl⟩) | (go_at_call 41; refine (VB.out k _ hk).mono ?_; rintro e w1 ⟨rfl, rfl⟩))
              go_ret
              exact ⟨false, rfl, FF.out, rfl⟩
        · have d1 : decide ((k : Int) < (m : Int)) = false := by simp; omega
          have d3 : decide ((m : Int) ≤ (k : Int)) = true := by simp; omega
          have FF := Lib.hid ((GI.out false) ⟨fun h => by (cases h), fun h => absurd h (m_stop hk HD.out (fun h => absurd h hlt) hv)⟩)
          go_wp2_with (first | (go_at_call 42; refine (isNam _ _).mono ?_; rintro e w1 ⟨rfl, rfl⟩) | (go_at_call 41; refine (VB.out k _ hk).mono ?_; rintro e w1 ⟨rfl, rfl⟩))
          go_ret
          exact ⟨false, rfl, FF.out, rfl⟩
theorem mod_any (b off n cap : Nat) (x : Nat → Int) (bash : Bool) (w : World) (hn : 0 < n) (hm : n ≤ 65536) (hcap : n ≤ cap) (hcap2 : cap ≤ 70000) (hc : ∀ i, i < n → w.cell? ⟨b, off + i, none⟩ = some (.int .u8 (x i))) :
    Calls Try.prog 19 #[.slice (some ⟨b, off, none⟩) n cap, .bool bash] w (MPost n x bash w) := by
  by_cases h0 : x 0 = 123 ∧ x (n - 1) = 125
  · obtain ⟨a, c⟩ := h0
    have h2 : 2 ≤ n := by
      rcases Nat.lt_or_ge n 2 with h | h
      · obtain rfl : n = 1 := by omega
        rw [show 1 - 1 = 0 from rfl, a] at c; omega
      · exact h
    obtain ⟨m, rfl⟩ : ∃ m, n = m + 2 := ⟨n - 2, by omega⟩
    exact mod_in b off m cap x bash w hm hcap hcap2 hc a c
  · exact mod_dig b off n cap x bash w hn hm hc h0
end Go.Proofs.Ytjpimejjbiemgaa
