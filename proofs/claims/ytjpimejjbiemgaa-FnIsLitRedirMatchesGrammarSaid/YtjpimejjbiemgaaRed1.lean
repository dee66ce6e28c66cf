/- The contracts that FnIsLitRedirMatchesGrammar needs: names, digits, ValidName, numberLiteral[[]byte], bytes.IndexByte. -/
import Derived.Test.YtjpimejjbiemgaaEnd
import Derived.Lib.BytesEntry
import Derived.Lib.IndexLaws
namespace Go.Proofs.Ytjpimejjbiemgaa
open Go.RowKit
set_option linter.unusedVariables false

def letB (n : Int) : Bool := decide ((97 ≤ n ∧ n ≤ 122) ∨ (65 ≤ n ∧ n ≤ 90))
def namB (n : Int) : Bool := letB n || (dig n || decide (n = 95))
def valF (n : Nat) (x : Nat → Int) : Bool := decide (0 < n ∧ (letB (x 0) = true ∨ x 0 = 95) ∧ ∀ i, i < n → namB (x i) = true)
def digF (n : Nat) (x : Nat → Int) : Bool := decide (0 < n ∧ ∀ i, i < n → dig (x i) = true)
theorem valF_congr {n : Nat} {x y : Nat → Int} (h : ∀ i, i < n → x i = y i) : valF n x = valF n y := by
  unfold valF
  apply decide_eq_decide.2
  constructor
  · rintro ⟨h0, h1, h2⟩; exact ⟨h0, by rw [← h 0 h0]; exact h1, fun i hi => by rw [← h i hi]; exact h2 i hi⟩
  · rintro ⟨h0, h1, h2⟩; exact ⟨h0, by rw [h 0 h0]; exact h1, fun i hi => by rw [h i hi]; exact h2 i hi⟩
theorem digF_congr {n : Nat} {x y : Nat → Int} (h : ∀ i, i < n → x i = y i) : digF n x = digF n y := by
  unfold digF
  apply decide_eq_decide.2
  constructor
  · rintro ⟨h0, h2⟩; exact ⟨h0, fun i hi => by rw [← h i hi]; exact h2 i hi⟩
  · rintro ⟨h0, h2⟩; exact ⟨h0, fun i hi => by rw [h i hi]; exact h2 i hi⟩
theorem valF_true {n : Nat} {x : Nat → Int} (h0 : 0 < n) (h1 : letB (x 0) = true ∨ x 0 = 95) (h2 : ∀ i, i < n → namB (x i) = true) : valF n x = true := decide_eq_true ⟨h0, h1, h2⟩
theorem valF_at {n : Nat} {x : Nat → Int} (i : Nat) (hi : i < n) (h : namB (x i) = false) : valF n x = false := decide_eq_false fun ⟨_, _, h2⟩ => by rw [h2 i hi] at h; cases h
theorem valF_head {n : Nat} {x : Nat → Int} (h1 : letB (x 0) = false) (h2 : x 0 ≠ 95) : valF n x = false := decide_eq_false fun ⟨_, h3, _⟩ => by rcases h3 with h | h; rw [h1] at h; cases h; exact h2 h
theorem valF_zero {x : Nat → Int} : valF 0 x = false := decide_eq_false fun ⟨h, _⟩ => absurd h (by omega)
theorem digF_true {n : Nat} {x : Nat → Int} (h0 : 0 < n) (h2 : ∀ i, i < n → dig (x i) = true) : digF n x = true := decide_eq_true ⟨h0, h2⟩
theorem digF_at {n : Nat} {x : Nat → Int} (i : Nat) (hi : i < n) (h : dig (x i) = false) : digF n x = false := decide_eq_false fun ⟨_, h2⟩ => by rw [h2 i hi] at h; cases h
theorem digF_zero {x : Nat → Int} : digF 0 x = false := decide_eq_false fun ⟨h, _⟩ => absurd h (by omega)

theorem isLet (x : Int) (w : World) : Calls Try.prog 51 #[.int .u8 x] w fun e w' => e = .returned (.bool (letB x)) ∧ w = w' := by
  by_cases h1 : 97 ≤ x <;> by_cases h2 : x ≤ 122 <;> by_cases h3 : 65 ≤ x <;> by_cases h4 : x ≤ 90
  all_goals
    have EE := Lib.hid (show letB x = decide ((97 ≤ x ∧ x ≤ 122) ∨ (65 ≤ x ∧ x ≤ 90)) from rfl)
    go_enter Try.func51, Try.ntmps51
    go_wp2
    go_ret
    exact ⟨ret_bool' (by rw [EE.out]; first | rfl | (symm; simp; omega)), rfl⟩
theorem aLet (x : Int) (w : World) : Calls Try.prog 58 #[.int .i32 x] w fun e w' => e = .returned (.bool (letB x)) ∧ w = w' := by
  by_cases h1 : 97 ≤ x <;> by_cases h2 : x ≤ 122 <;> by_cases h3 : 65 ≤ x <;> by_cases h4 : x ≤ 90
  all_goals
    have EE := Lib.hid (show letB x = decide ((97 ≤ x ∧ x ≤ 122) ∨ (65 ≤ x ∧ x ≤ 90)) from rfl)
    go_enter Try.func58, Try.ntmps58
    go_wp2
    go_ret
    exact ⟨ret_bool' (by rw [EE.out]; first | rfl | (symm; simp; omega)), rfl⟩
theorem isDig (x : Int) (w : World) : Calls Try.prog 52 #[.int .u8 x] w fun e w' => e = .returned (.bool (dig x)) ∧ w = w' := by
  by_cases h1 : 48 ≤ x <;> by_cases h2 : x ≤ 57
  all_goals
    have EE := Lib.hid (show dig x = decide (48 ≤ x ∧ x ≤ 57) from rfl)
    go_enter Try.func52, Try.ntmps52
    go_wp2
    go_ret
    exact ⟨ret_bool' (by rw [EE.out]; first | rfl | (symm; simp; omega)), rfl⟩
theorem isNam (x : Int) (w : World) : Calls Try.prog 42 #[.int .u8 x] w fun e w' => e = .returned (.bool (namB x)) ∧ w = w' := by
  have EE := Lib.hid (show namB x = (letB x || (dig x || decide (x = 95))) from rfl)
  by_cases h1 : letB x = true
  · go_enter Try.func42, Try.ntmps42
    go_wp2_with (first | (go_at_call 51; refine (isLet _ _).mono ?_; rintro e w1 ⟨rfl, rfl⟩) | (go_at_call 52; refine (isDig _ _).mono ?_; rintro e w1 ⟨rfl, rfl⟩))
    go_ret
    exact ⟨ret_bool' (by rw [EE.out, h1]; rfl), rfl⟩
  · replace h1 : letB x = false := by simpa using h1
    by_cases h2 : dig x = true
    · go_enter Try.func42, Try.ntmps42
      go_wp2_with (first | (go_at_call 51; refine (isLet _ _).mono ?_; rintro e w1 ⟨rfl, rfl⟩) | (go_at_call 52; refine (isDig _ _).mono ?_; rintro e w1 ⟨rfl, rfl⟩))
      go_ret
      exact ⟨ret_bool' (by rw [EE.out, h1, h2]; rfl), rfl⟩
    · replace h2 : dig x = false := by simpa using h2
      go_enter Try.func42, Try.ntmps42
      go_wp2_with (first | (go_at_call 51; refine (isLet _ _).mono ?_; rintro e w1 ⟨rfl, rfl⟩) | (go_at_call 52; refine (isDig _ _).mono ?_; rintro e w1 ⟨rfl, rfl⟩))
      go_ret
      exact ⟨ret_bool' (by rw [EE.out, h1, h2, Bool.eq_iff_iff]; simp), rfl⟩
/-- zzAllDigits -/
theorem allDig (b off n cap : Nat) (x : Nat → Int) (w : World) (hn : n ≤ 65536) (hc : ∀ i, i < n → w.cell? ⟨b, off + i, none⟩ = some (.int .u8 (x i))) :
    Calls Try.prog 43 #[.slice (some ⟨b, off, none⟩) n cap] w fun e w' => e = .returned (.bool (digF n x)) ∧ w = w' := by
  have HC := Lib.hid hc
  clear hc
  by_cases h0 : n = 0
  · subst h0
    have EE := Lib.hid (digF_zero (x := x))
    go_enter Try.func43, Try.ntmps43
    go_wp2
    go_ret
    exact ⟨ret_bool' EE.out.symm, rfl⟩
  have h0' : 0 < n := by omega
  have e0 : ((n : Int) == 0) = false := beq_eq_false_iff_ne.2 (by omega)
  clear h0
  go_enter Try.func43, Try.ntmps43
  go_wp2
  clear e0
  go_loop [3] (fun i => ∃ k : Nat, k ≤ n ∧ i = .int .i64 k ∧ ∀ j, j < k → dig (x j) = true) (fun i => n - (intOf i).toNat)
  case atStart => exact ⟨0, Nat.zero_le _, rfl, fun j hj => absurd hj (by omega)⟩
  case round =>
    obtain ⟨k, hk, rfl, hd⟩ := hrel
    have HD := Lib.hid hd
    clear hd
    by_cases hlt : k < n
    · have g1 := HC.out k hlt
      by_cases hg : dig (x k) = true
      · go_wp2_with (go_at_call 52; refine (isDig _ _).mono ?_; rintro e w1 ⟨rfl, rfl⟩)
        go_round
        case rel => exact ⟨k + 1, by omega, by go_num, fun j hj => by
          by_cases hjk : j = k
          · subst hjk; exact hg
          · exact HD.out j (by omega)⟩
        case measure => simp [intOf]; omega
      · replace hg : dig (x k) = false := by simpa using hg
        have EE := Lib.hid (digF_at k hlt hg)
        go_wp2_with (go_at_call 52; refine (isDig _ _).mono ?_; rintro e w1 ⟨rfl, rfl⟩)
        go_ret
        exact ⟨ret_bool' EE.out.symm, rfl⟩
    · have EE := Lib.hid (digF_true h0' (fun i hi => HD.out i (by omega)))
      go_wp2
      go_ret
      exact ⟨ret_bool' EE.out.symm, rfl⟩
/-- zzValidNameBytes -/
theorem valNam (b off n cap : Nat) (x : Nat → Int) (w : World) (hn : n ≤ 65536) (hc : ∀ i, i < n → w.cell? ⟨b, off + i, none⟩ = some (.int .u8 (x i))) :
    Calls Try.prog 41 #[.slice (some ⟨b, off, none⟩) n cap] w fun e w' => e = .returned (.bool (valF n x)) ∧ w = w' := by
  have HC := Lib.hid hc
  clear hc
  by_cases h0 : n = 0
  · subst h0
    have EE := Lib.hid (valF_zero (x := x))
    go_enter Try.func41, Try.ntmps41
    go_wp2
    go_ret
    exact ⟨ret_bool' EE.out.symm, rfl⟩
  have h0' : 0 < n := by omega
  have e0 : ((n : Int) == 0) = false := beq_eq_false_iff_ne.2 (by omega)
  clear h0
  have g0 : w.cell? ⟨b, off, none⟩ = some (.int .u8 (x 0)) := HC.out 0 h0'
  by_cases h1 : letB (x 0) = false ∧ x 0 ≠ 95
  · have EE := Lib.hid (valF_head (n := n) h1.1 h1.2)
    have e1 := h1.1
    have e2 : (x 0 == 95) = false := beq_eq_false_iff_ne.2 h1.2
    clear h1
    go_enter Try.func41, Try.ntmps41
    go_wp2_with (first | (go_at_call 51; refine (isLet _ _).mono ?_; rintro e w1 ⟨rfl, rfl⟩) | (go_at_call 42; refine (isNam _ _).mono ?_; rintro e w1 ⟨rfl, rfl⟩))
    go_ret
    exact ⟨ret_bool' EE.out.symm, rfl⟩
  have h2 : letB (x 0) = true ∨ x 0 = 95 := by
    by_cases h : letB (x 0) = true
    · exact .inl h
    · exact .inr (by
        by_cases h3 : x 0 = 95
        · exact h3
        · exact absurd ⟨by simpa using h, h3⟩ h1)
  have hnam : namB (x 0) = true := by unfold namB; rcases h2 with h | h <;> simp [h]
  have HN := Lib.hid hnam
  have H2 := Lib.hid h2
  clear h1 hnam
  have h3 : letB (x 0) = true ∨ (letB (x 0) = false ∧ (x 0 == 95) = true) := by
    by_cases h : letB (x 0) = true
    · exact .inl h
    · exact .inr ⟨by simpa using h, by rcases h2 with h2 | h2; exact absurd h2 h; simp [h2]⟩
  clear h2
  rcases h3 with hL | ⟨hL, hU⟩
  all_goals
    go_enter Try.func41, Try.ntmps41
    go_wp2_with (first | (go_at_call 51; refine (isLet _ _).mono ?_; rintro e w1 ⟨rfl, rfl⟩) | (go_at_call 42; refine (isNam _ _).mono ?_; rintro e w1 ⟨rfl, rfl⟩))
    clear e0
    go_loop [3] (fun i => ∃ k : Nat, 1 ≤ k ∧ k ≤ n ∧ i = .int .i64 k ∧ ∀ j, j < k → namB (x j) = true) (fun i => n - (intOf i).toNat)
    case atStart => exact ⟨1, Nat.le_refl _, h0', rfl, fun j hj => by
      obtain rfl : j = 0 := by omega
      exact HN.out⟩
    case round =>
      obtain ⟨k, hk1, hk, rfl, hd⟩ := hrel
      have HD := Lib.hid hd
      clear hd
      by_cases hlt : k < n
      · have g1 := HC.out k hlt
        by_cases hg : namB (x k) = true
        · go_wp2_with (go_at_call 42; refine (isNam _ _).mono ?_; rintro e w1 ⟨rfl, rfl⟩)
          go_round
          case rel => exact ⟨k + 1, by omega, by omega, by go_num, fun j hj => by
            by_cases hjk : j = k
            · subst hjk; exact hg
            · exact HD.out j (by omega)⟩
          case measure => simp [intOf]; omega
        · replace hg : namB (x k) = false := by simpa using hg
          have EE := Lib.hid (valF_at k hlt hg)
          go_wp2_with (go_at_call 42; refine (isNam _ _).mono ?_; rintro e w1 ⟨rfl, rfl⟩)
          go_ret
          exact ⟨ret_bool' EE.out.symm, rfl⟩
      · have EE := Lib.hid (valF_true h0' H2.out (fun i hi => HD.out i (by omega)))
        go_wp2
        go_ret
        exact ⟨ret_bool' EE.out.symm, rfl⟩
def toL (n : Nat) (x : Nat → Int) : List Int := (List.range n).map x
theorem toL_len (n : Nat) (x : Nat → Int) : (toL n x).length = n := by simp [toL]
theorem toL_get (n : Nat) (x : Nat → Int) (i : Nat) (h : i < n) : (toL n x)[i]? = some (x i) := by simp [toL, List.getElem?_map, List.getElem?_range h]
theorem toL_getD (n : Nat) (x : Nat → Int) (i : Nat) (h : i < n) : (toL n x).getD i 0 = x i := by rw [List.getD_eq_getElem?_getD, toL_get n x i h]; rfl
def sAt (s : ByteArray) (i : Nat) : Int := ((s.data[i]?.getD 0).toNat : Int)
theorem sAt_get (s : ByteArray) (i : Nat) (h : i < s.size) : sAt s i = ((s[i]'h).toNat : Int) := by
  unfold sAt
  rw [Array.getElem?_eq_getElem (by simpa using h)]
  rfl
theorem sAt_strOf (n : Nat) (x : Nat → Int) (hx : ∀ i, i < n → 0 ≤ x i ∧ x i ≤ 255) (i : Nat) (h : i < n) : sAt (strOf (toL n x)) i = x i := by
  unfold sAt
  rw [← Array.getElem?_toList, strOf_list, List.getElem?_map, toL_get n x i h]
  simp
  have := hx i h
  omega
/-- ValidName -/
theorem vnam_empty (s : ByteArray) (w : World) (h0 : s.size = 0) : Calls Try.prog 55 #[.string s] w fun e w' => e = .returned (.bool (valF s.size (sAt s))) ∧ Below w.heap.size w w' := by
  obtain rfl : s = ByteArray.empty := by
    apply ByteArray.ext
    exact Array.eq_empty_of_size_eq_zero h0
  have EE := Lib.hid (valF_zero (x := sAt ByteArray.empty))
  go_enter Try.func55, Try.ntmps55
  go_wp2
  go_ret
  exact ⟨ret_bool' EE.out.symm, Below.refl _ _⟩
theorem isEmpty_no (s : ByteArray) (h0 : s.size ≠ 0) : s.toList.isEmpty = false := by
  have h : s.toList.length = s.size := by rw [Lib.toList_data, Array.length_toList]; rfl
  cases hs : s.toList with
  | nil => rw [hs] at h; simp at h; omega
  | cons a l => rfl
theorem letB_not {n : Int} (h : 128 ≤ n) : letB n = false := by simp [letB]; omega
set_option maxHeartbeats 1000000 in
theorem vnam_some (s : ByteArray) (w : World) (h0 : s.size ≠ 0) : Calls Try.prog 55 #[.string s] w fun e w' => e = .returned (.bool (valF s.size (sAt s))) ∧ Below w.heap.size w w' := by
  have hs1 : s.toList.isEmpty = false := isEmpty_no s h0
  have hs2 : (!s.toList.isEmpty) = true := by rw [hs1]; rfl
  go_enter Try.func55, Try.ntmps55
  go_wp2
  clear hs1 hs2
  go_loopw [3, 4] (fun _ _ w' => ∃ pos, w' = w.iter s pos ∧ pos ≤ s.size ∧ (∀ i, i < pos → namB (sAt s i) = true) ∧ (0 < pos → letB (sAt s 0) = true ∨ sAt s 0 = 95)) (fun _ _ w' => s.size - w'.iterPos w.heap.size)
  case atStart => exact ⟨0, rfl, Nat.zero_le _, fun i h => absurd h (Nat.not_lt_zero _), fun h => absurd h (Nat.not_lt_zero _)⟩
  case round =>
    obtain ⟨pos, rfl, hps, hd, hf⟩ := hrel
    have HD := Lib.hid hd
    have HF := Lib.hid hf
    clear hd hf
    by_cases hp : pos < s.size
    · have hx := sAt_get s pos hp
      by_cases hgood : letB (sAt s pos) = true ∨ sAt s pos = 95 ∨ (0 < pos ∧ dig (sAt s pos) = true)
      · have hlt : (s[pos]'hp).toNat < 128 := by
          rw [hx] at hgood
          rcases hgood with h | h | ⟨_, h⟩
          · have := of_decide_eq_true h; omega
          · omega
          · have := of_decide_eq_true h; omega
        have hnx : ∀ ty, (Instr.next (.pointer (some ⟨w.heap.size, 0, none⟩)) true ty).run Try.prog (w.iter s pos) = _ := fun ty => run_next_ascii w s pos ty hp hlt
        rw [← hx] at hnx
        have HNEXT := Lib.hid (show (∀ i, i < pos + 1 → namB (sAt s i) = true) ∧ (0 < pos + 1 → letB (sAt s 0) = true ∨ sAt s 0 = 95) from by
          refine ⟨fun i hi => ?_, fun _ => ?_⟩
          · by_cases hip : i = pos
            · subst hip; unfold namB; rcases hgood with h | h | ⟨_, h⟩ <;> simp [h]
            · exact HD.out i (by omega)
          · by_cases hz : pos = 0
            · subst hz
              rcases hgood with h | h | ⟨h, _⟩
              · exact .inl h
              · exact .inr h
              · omega
            · exact HF.out (by omega))
        clear hx hlt
        have h3 : letB (sAt s pos) = true ∨ (letB (sAt s pos) = false ∧ (sAt s pos == 95) = true) ∨ (letB (sAt s pos) = false ∧ (sAt s pos == 95) = false ∧ 0 < pos ∧ dig (sAt s pos) = true) := by
          by_cases h1 : letB (sAt s pos) = true
          · exact .inl h1
          · by_cases h2 : sAt s pos = 95
            · exact .inr (.inl ⟨by simpa using h1, by simp [h2]⟩)
            · rcases hgood with h | h | h
              · exact absurd h h1
              · exact absurd h h2
              · exact .inr (.inr ⟨by simpa using h1, beq_eq_false_iff_ne.2 h2, h⟩)
        clear hgood
        generalize sAt s pos = c at *
        rcases h3 with k1 | ⟨k1, k2⟩ | ⟨k1, k2, k3, k4⟩
        all_goals
          go_wp2_with (first | (go_at_call 58; refine (aLet _ _).mono ?_; rintro e w1 ⟨rfl, rfl⟩) | (go_at_call 49; refine (aDigit _ _).mono ?_; rintro e w1 ⟨rfl, rfl⟩))
          go_roundw
          case rel => exact ⟨pos + 1, rfl, hp, HNEXT.out.1, HNEXT.out.2⟩
          case measure => simp; omega
      · have hb1 : letB (sAt s pos) = false ∧ sAt s pos ≠ 95 ∧ (pos = 0 ∨ dig (sAt s pos) = false) := by
          refine ⟨?_, fun h => hgood (.inr (.inl h)), ?_⟩
          · by_cases h : letB (sAt s pos) = true
            · exact absurd (.inl h) hgood
            · simpa using h
          · by_cases hz : pos = 0
            · exact .inl hz
            · right
              by_cases h : dig (sAt s pos) = true
              · exact absurd (.inr (.inr ⟨by omega, h⟩)) hgood
              · simpa using h
        have EE := Lib.hid (show valF s.size (sAt s) = false from by
          obtain ⟨b1, b2, b3⟩ := hb1
          by_cases hz : pos = 0
          · subst hz; exact valF_head b1 b2
          · have : dig (sAt s pos) = false := by rcases b3 with h | h; exact absurd h hz; exact h
            exact valF_at pos hp (by simp [namB, b1, this, b2]))
        have hr : letB (Utf8.decode s pos).1 = false ∧ ((((Utf8.decode s pos).1 : Nat) : Int) == 95) = false ∧ (pos = 0 ∨ dig (Utf8.decode s pos).1 = false) := by
          by_cases ha : (s[pos]'hp).toNat < 128
          · rw [decode_ascii s pos hp ha]
            rw [hx] at hb1
            exact ⟨hb1.1, beq_eq_false_iff_ne.2 hb1.2.1, hb1.2.2⟩
          · have := (decode_high s pos hp (by omega)).1
            exact ⟨letB_not (by omega), beq_eq_false_iff_ne.2 (by omega), .inr (dig_not (by omega))⟩
        clear hb1 hgood hx
        have hnx : ∀ ty, (Instr.next (.pointer (some ⟨w.heap.size, 0, none⟩)) true ty).run Try.prog (w.iter s pos) = _ := fun ty => run_next_any w s pos ty hp
        obtain ⟨x, hxx⟩ : ∃ x, x = Utf8.decode s pos := ⟨_, rfl⟩
        rw [← hxx] at hr hnx
        obtain ⟨x1, x2⟩ := x
        clear hxx
        obtain ⟨r1, r2, r3⟩ := hr
        by_cases hz : 0 < pos
        · have r4 : dig x1 = false := by rcases r3 with h | h; omega; exact h
          clear r3
          go_wp2_with (first | (go_at_call 58; refine (aLet _ _).mono ?_; rintro e w1 ⟨rfl, rfl⟩) | (go_at_call 49; refine (aDigit _ _).mono ?_; rintro e w1 ⟨rfl, rfl⟩))
          go_ret
          exact ⟨ret_bool' EE.out.symm, below_iter _ _ _⟩
        · obtain rfl : pos = 0 := by omega
          clear r3 hz
          go_wp2_with (first | (go_at_call 58; refine (aLet _ _).mono ?_; rintro e w1 ⟨rfl, rfl⟩) | (go_at_call 49; refine (aDigit _ _).mono ?_; rintro e w1 ⟨rfl, rfl⟩))
          go_ret
          exact ⟨ret_bool' EE.out.symm, below_iter _ _ _⟩
    · have hnx : ∀ ty, (Instr.next (.pointer (some ⟨w.heap.size, 0, none⟩)) true ty).run Try.prog (w.iter s pos) = _ := fun ty => run_next_end w s pos ty hp
      have EE := Lib.hid (valF_true (n := s.size) (x := sAt s) (by omega) (HF.out (by omega)) (fun i hi => HD.out i (by omega)))
      go_wp2
      go_ret
      exact ⟨ret_bool' EE.out.symm, below_iter _ _ _⟩
theorem vnam (n : Nat) (x : Nat → Int) (hx : ∀ i, i < n → 0 ≤ x i ∧ x i ≤ 255) (w : World) : Calls Try.prog 55 #[.string (strOf (toL n x))] w fun e w' => e = .returned (.bool (valF n x)) ∧ Below w.heap.size w w' := by
  have hs : (strOf (toL n x)).size = n := by rw [strOf_size, toL_len]
  have e : valF (strOf (toL n x)).size (sAt (strOf (toL n x))) = valF n x := by rw [hs]; exact valF_congr (fun i hi => sAt_strOf n x hx i hi)
  rw [← e]
  by_cases h0 : (strOf (toL n x)).size = 0
  · exact vnam_empty _ w h0
  · exact vnam_some _ w h0
theorem conv_row (w : World) (b off n cap : Nat) (x : Nat → Int) (hc : ∀ i, i < n → w.cell? ⟨b, off + i, none⟩ = some (.int .u8 (x i))) :
    (convert 22 9 (.slice (some ⟨b, off, none⟩) n cap)).run Try.prog w = .ok (.string (strOf (toL n x))) w := by
  refine conv_bytes w ⟨b, off, none⟩ cap n (toL n x) (toL_len n x).symm fun j v hj => ?_
  have hjn : j < n := by have := (List.getElem?_eq_some_iff.1 hj).1; simpa [toL_len] using this
  have e : (⟨b, off, none⟩ : Addr).add j = ⟨b, off + j, none⟩ := by unfold Addr.add; split <;> simp_all
  rw [List.getElem?_map, toL_get n x j hjn] at hj
  simp at hj
  subst hj
  rw [e]
  exact hc j hjn
/-- numberLiteral[[]byte] -/
theorem numByt_zero (b off cap : Nat) (x : Nat → Int) (w : World) : Calls Try.prog 56 #[.slice (some ⟨b, off, none⟩) 0 cap] w fun e w' => e = .returned (.bool (digF 0 x)) ∧ Below w.heap.size w w' := by
  have EE := Lib.hid (digF_zero (x := x))
  go_enter Try.func56, Try.ntmps56
  go_wp2
  go_ret
  exact ⟨ret_bool' EE.out.symm, Below.refl _ _⟩
theorem numByt_some (b off n cap : Nat) (x : Nat → Int) (w : World) (s : ByteArray) (h0 : s.size ≠ 0) (hn : n = s.size) (hc : (convert 22 9 (.slice (some ⟨b, off, none⟩) n cap)).run Try.prog w = .ok (.string s) w) : Calls Try.prog 56 #[.slice (some ⟨b, off, none⟩) n cap] w fun e w' => e = .returned (.bool (numB s)) ∧ Below w.heap.size w w' := by
  have e0 : ((n : Int) == 0) = false := beq_eq_false_iff_ne.2 (by omega)
  have HN := Lib.hid hn
  clear hn
  go_enter Try.func56, Try.ntmps56
  go_wp2
  clear e0 hc
  go_loopw [4] (fun _ w' => ∃ pos, w' = w.iter s pos ∧ digs s pos ∧ pos ≤ s.size) (fun _ w' => s.size - w'.iterPos w.heap.size)
  case atStart => exact ⟨0, rfl, fun i _ h => absurd h (Nat.not_lt_zero _), Nat.zero_le _⟩
  case round =>
    obtain ⟨pos, rfl, hd, hps⟩ := hrel
    have HD := Lib.hid hd
    clear hd
    by_cases hp : pos < s.size
    · by_cases hg : dig (s[pos]'hp).toNat = true
      · have hlt : (s[pos]'hp).toNat < 128 := by
          unfold dig at hg
          have := of_decide_eq_true hg
          omega
        have hnx : ∀ ty, (Instr.next (.pointer (some ⟨w.heap.size, 0, none⟩)) true ty).run Try.prog (w.iter s pos) = _ := fun ty => run_next_ascii w s pos ty hp hlt
        obtain ⟨x, hx⟩ : ∃ x, x = (s[pos]'hp).toNat := ⟨_, rfl⟩
        rw [← hx] at hg hnx
        have HX := Lib.hid hx
        clear hx hlt
        go_wp2_with (go_at_call 49; refine (aDigit _ _).mono ?_; rintro e w1 ⟨rfl, rfl⟩)
        go_roundw
        case rel =>
          refine ⟨pos + 1, rfl, fun i hi hip => ?_, hp⟩
          by_cases hie : i = pos
          · subst hie; rw [← HX.out]; exact hg
          · exact HD.out i hi (by omega)
        case measure => simp; omega
      · have hg' : dig (Utf8.decode s pos).1 = false := by
          by_cases ha : (s[pos]'hp).toNat < 128
          · rw [decode_ascii s pos hp ha]; simpa using hg
          · exact dig_not (by have := (decode_high s pos hp (by omega)).1; omega)
        have hnx : ∀ ty, (Instr.next (.pointer (some ⟨w.heap.size, 0, none⟩)) true ty).run Try.prog (w.iter s pos) = _ := fun ty => run_next_any w s pos ty hp
        have EE := Lib.hid (numB_false s pos hp (by simpa using hg))
        clear hg
        obtain ⟨x, hx⟩ : ∃ x, x = Utf8.decode s pos := ⟨_, rfl⟩
        rw [← hx] at hg' hnx
        obtain ⟨x1, x2⟩ := x
        clear hx
        go_wp2_with (go_at_call 49; refine (aDigit _ _).mono ?_; rintro e w1 ⟨rfl, rfl⟩)
        go_ret
        exact ⟨ret_bool' (by rw [EE.out]), below_iter _ _ _⟩
    · have hnx : ∀ ty, (Instr.next (.pointer (some ⟨w.heap.size, 0, none⟩)) true ty).run Try.prog (w.iter s pos) = _ := fun ty => run_next_end w s pos ty hp
      have EE := Lib.hid (numB_true s h0 (by rw [show s.size = pos by omega]; exact HD.out))
      go_wp2
      go_ret
      exact ⟨ret_bool' (by rw [EE.out]), below_iter _ _ _⟩
theorem numB_digF (n : Nat) (x : Nat → Int) (hx : ∀ i, i < n → 0 ≤ x i ∧ x i ≤ 255) : numB (strOf (toL n x)) = digF n x := by
  have hs : (strOf (toL n x)).size = n := by rw [strOf_size, toL_len]
  have hg : ∀ i (h : i < (strOf (toL n x)).size), (((strOf (toL n x))[i]'h).toNat : Int) = x i := fun i h => by rw [← sAt_get _ i h]; exact sAt_strOf n x hx i (by omega)
  by_cases h : digF n x = true
  · rw [h]
    obtain ⟨h0, h1⟩ := of_decide_eq_true h
    exact numB_true _ (by omega) (fun i hi _ => by rw [hg i hi]; exact h1 i (by omega))
  · have h' : digF n x = false := by simpa using h
    rw [h']
    by_cases h0 : n = 0
    · exact numB_empty _ (by omega)
    · have : ∃ i, i < n ∧ dig (x i) = false := by
        apply Classical.byContradiction
        intro hno
        apply h
        refine digF_true (by omega) fun i hi => ?_
        by_cases hd : dig (x i) = true
        · exact hd
        · exact absurd ⟨i, hi, by simpa using hd⟩ hno
      obtain ⟨i, hi, hd⟩ := this
      exact numB_false _ i (by omega) (by rw [hg i (by omega)]; exact hd)
theorem numByt (b off n cap : Nat) (x : Nat → Int) (hx : ∀ i, i < n → 0 ≤ x i ∧ x i ≤ 255) (w : World) (hc : ∀ i, i < n → w.cell? ⟨b, off + i, none⟩ = some (.int .u8 (x i))) : Calls Try.prog 56 #[.slice (some ⟨b, off, none⟩) n cap] w fun e w' => e = .returned (.bool (digF n x)) ∧ Below w.heap.size w w' := by
  by_cases h0 : n = 0
  · subst h0; exact numByt_zero b off cap x w
  · have hs : (strOf (toL n x)).size = n := by rw [strOf_size, toL_len]
    rw [← numB_digF n x hx]
    exact numByt_some b off n cap x w _ (by omega) hs.symm (conv_row w b off n cap x hc)
/-- bytes.IndexByte: the first place of the byte 91, or -1 -/
def IdxPost (n : Nat) (x : Nat → Int) (w : World) (e : Ending) (w' : World) : Prop := w = w' ∧ ((e = .returned (.int .i64 (-1)) ∧ ∀ i, i < n → x i ≠ 91) ∨ ∃ m : Nat, e = .returned (.int .i64 m) ∧ m < n ∧ x m = 91 ∧ ∀ i, i < m → x i ≠ 91)
theorem idx (b off n cap : Nat) (x : Nat → Int) (hx : ∀ i, i < n → 0 ≤ x i ∧ x i ≤ 255) (w : World) (hc : ∀ i, i < n → w.cell? ⟨b, off + i, none⟩ = some (.int .u8 (x i))) : Calls Try.prog 54 #[.slice (some ⟨b, off, none⟩) n cap, .int .u8 91] w (IdxPost n x w) := by
  have hrun := Lib.run_indexByteSlice (P := Try.prog) w b off n cap (toL n x) (toL_len n x) (fun i hi => by rw [toL_getD n x i hi]; exact hc i hi) 91
  have hget : ∀ i, i < n → (Lib.bytesOf (toL n x))[i]? = some (UInt8.ofNat (x i).toNat) := fun i hi => by unfold Lib.bytesOf; rw [List.getElem?_map, toL_get n x i hi]; rfl
  have h91 : ∀ i, i < n → ((Lib.bytesOf (toL n x))[i]? = some (91 : Int).toNat.toUInt8 ↔ x i = 91) := fun i hi => by
    rw [hget i hi]
    have := hx i hi
    constructor
    · intro h
      simp only [Option.some.injEq] at h
      have h2 := congrArg UInt8.toNat h
      simp at h2
      omega
    · intro h; rw [h]
  have hpost : ∀ v : Int, v = Lib.indexByte (Lib.bytesOf (toL n x)) (91 : Int).toNat.toUInt8 → IdxPost n x w (.returned (.int .i64 v)) w := fun v hv => by
    refine ⟨rfl, ?_⟩
    by_cases hm : v = -1
    · subst hm
      exact .inl ⟨rfl, fun i hi h => Lib.indexByte_none hv.symm i ((h91 i hi).2 h)⟩
    · have hge := Lib.indexByte_ge (Lib.bytesOf (toL n x)) (91 : Int).toNat.toUInt8
      obtain ⟨m, rfl⟩ : ∃ m : Nat, v = m := ⟨v.toNat, by omega⟩
      obtain ⟨s1, s2⟩ := Lib.indexByte_some hv.symm
      have hmn : m < n := by
        have := (List.getElem?_eq_some_iff.1 s1).1
        simpa [Lib.bytesOf, toL_len] using this
      exact .inr ⟨m, rfl, hmn, (h91 m hmn).1 s1, fun i hi h => s2 i hi ((h91 i (by omega)).2 h)⟩
  have HP := Lib.hid hpost
  have HR := Lib.hid hrun
  clear hpost hrun h91 hget hc hx
  go_enter Try.func54, Try.ntmps54
  go_wp2
  rw [run_callFunc_extern Try.func57 (by kernel_rfl) (by kernel_rfl) (by kernel_rfl) (e := Extern.BytealgIndexByte.indexByte) (by kernel_rfl), HR.out]
  simp only [Result.andThen]
  rw [Oper.upon_value]
  go_wp2
  go_ret
  exact HP.out _ rfl
end Go.Proofs.Ytjpimejjbiemgaa
