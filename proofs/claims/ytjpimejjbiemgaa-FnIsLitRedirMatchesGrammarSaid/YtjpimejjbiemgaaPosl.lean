/- The walk of the law FnPositionalRuneParamAgreesWithNumberLiteral. -/
import Derived.Test.YtjpimejjbiemgaaNum
namespace Go.Proofs.Ytjpimejjbiemgaa
open Go.RowKit
set_option linter.unusedVariables false

theorem valid_no (r : Int) (w : World) (h : ¬ (0 ≤ r ∧ r ≤ 1114111 ∧ ¬ (55296 ≤ r ∧ r ≤ 57343))) : Calls Try.prog 11 #[.int .i32 r] w fun e w' => e = .returned (.bool false) ∧ w = w' := by
  go_enter Try.func11, Try.ntmps11
  go_wp2
  all_goals first | (go_ret; exact ⟨rfl, rfl⟩) | (exfalso; simp_all; omega)
theorem valid_yes (r : Int) (w : World) (h : (0 ≤ r ∧ r ≤ 1114111 ∧ ¬ (55296 ≤ r ∧ r ≤ 57343))) : Calls Try.prog 11 #[.int .i32 r] w fun e w' => e = .returned (.bool true) ∧ w = w' := by
  go_enter Try.func11, Try.ntmps11
  go_wp2
  all_goals first | (go_ret; exact ⟨rfl, rfl⟩) | (exfalso; simp_all; omega)
theorem or224 (x : Int) (h : 0 ≤ x ∧ x < 16) : bits .or .i32 224 x = 224 + x := by
  obtain ⟨n, rfl⟩ := Int.eq_ofNat_of_zero_le h.1
  have : ∀ m : Fin 16, bits .or .i32 224 (m.val : Int) = 224 + (m.val : Int) := by decide +kernel
  exact this ⟨n, by omega⟩
theorem or240 (x : Int) (h : 0 ≤ x ∧ x < 8) : bits .or .i32 240 x = 240 + x := by
  obtain ⟨n, rfl⟩ := Int.eq_ofNat_of_zero_le h.1
  have : ∀ m : Fin 8, bits .or .i32 240 (m.val : Int) = 240 + (m.val : Int) := by decide +kernel
  exact this ⟨n, by omega⟩
def encPost (r : Int) (w : World) (e : Ending) (w' : World) : Prop :=
  ∃ n ns, e = .returned (.slice (some ⟨w.heap.size, 0, none⟩) (ns.length + 1) (ns.length + 1)) ∧ w.alloc (.cells ((n :: ns).map (Value.int .u8)).toArray 5) = w' ∧ ns.length ≤ 3 ∧ ((r < 128 ∧ n = r ∧ ns = []) ∨ (128 ≤ r ∧ 192 ≤ n ∧ n ≤ 255))
theorem enc_any (r : Int) (w : World) (h : 0 ≤ r ∧ r ≤ 1114111) : Calls Try.prog 12 #[.int .i32 r] w (encPost r w) := by
  obtain ⟨h0, hm⟩ := h
  by_cases h1 : r < 128
  · go_enter Try.func12, Try.ntmps12
    go_wp2
    go_ret
    exact ⟨r, [], rfl, rfl, by decide, .inl ⟨h1, rfl, rfl⟩⟩
  · by_cases h2 : r < 2048
    · go_enter Try.func12, Try.ntmps12
      go_wp2
      go_ret
      refine ⟨_, [_], rfl, rfl, by simp, .inr ⟨by omega, by omega, by omega⟩⟩
    · by_cases h3 : r < 65536
      · go_enter Try.func12, Try.ntmps12
        go_wp2
        go_ret
        have e := or224 (r / 4096) (by omega)
        refine ⟨_, [_, _], rfl, rfl, by simp, .inr ⟨by omega, by omega, by omega⟩⟩
      · go_enter Try.func12, Try.ntmps12
        go_wp2
        go_ret
        have e := or240 (r / 262144) (by omega)
        refine ⟨_, [_, _, _], rfl, rfl, by simp, .inr ⟨by omega, by omega, by omega⟩⟩

def strOf (ns : List Int) : ByteArray := ns.foldl (fun r n => r.push (UInt8.ofNat n.toNat)) ByteArray.empty
theorem foldl_bytes (ns : List Int) (s : ByteArray) : (ns.foldl (fun r n => r.push (UInt8.ofNat n.toNat)) s).data.toList = s.data.toList ++ ns.map fun n => UInt8.ofNat n.toNat := by
  induction ns generalizing s with
  | nil => simp
  | cons n ns ih => rw [List.foldl_cons, ih]; simp [ByteArray.push]
theorem strOf_list (ns : List Int) : (strOf ns).data.toList = ns.map fun n => UInt8.ofNat n.toNat := by
  unfold strOf; rw [foldl_bytes]; rfl
theorem strOf_size (ns : List Int) : (strOf ns).size = ns.length := by
  have h : (strOf ns).data.toList.length = (ns.map fun n => UInt8.ofNat n.toNat).length := by rw [strOf_list]
  rw [List.length_map, Array.length_toList] at h
  exact h
theorem ofNat_dig (n : Int) (h0 : 0 ≤ n) (h1 : n ≤ 255) : dig (UInt8.ofNat n.toNat).toNat = dig n := by
  have e : ((UInt8.ofNat n.toNat).toNat : Int) = n := by
    rw [UInt8.toNat_ofNat']
    omega
  rw [e]
theorem numB_strOf (n : Int) (ns : List Int) (h0 : 0 ≤ n) (h1 : n ≤ 255) : numB (strOf (n :: ns)) = (dig n && ns.all fun n => dig (UInt8.ofNat n.toNat).toNat) := by
  unfold numB
  rw [strOf_list, strOf_size]
  rw [List.map_cons, List.all_cons, ofNat_dig n h0 h1, List.all_map]
  simp only [List.length_cons, Nat.add_one_ne_zero, ne_eq, not_false_eq_true, decide_true, Bool.true_and, Function.comp_def]
theorem conv_bytes (w : World) (a : Addr) (cap len : Nat) (ns : List Int) (hl : len = ns.length) (h : ∀ j v, (ns.map (Value.int .u8))[j]? = some v → w.cell? (a.add j) = some v) :
    (convert 22 9 (.slice (some a) len cap)).run Try.prog w = .ok (.string (strOf ns)) w := by
  subst hl
  rw [run_convert_bytes_string w 22 9 5 _ _ _ Try.underlying22 Try.underlying5 Try.underlying9]
  have e := run_loadCells_list (P := Try.prog) (w := w) a (ns.map (Value.int .u8)) h
  rw [List.length_map] at e
  exact run_bytesToString w a _ cap ns e
theorem cells_alloc (w : World) (ns : List Int) : ∀ j v, (ns.map (Value.int .u8))[j]? = some v → (w.alloc (.cells (ns.map (Value.int .u8)).toArray 5)).cell? ((⟨w.heap.size, 0, none⟩ : Addr).add j) = some v := by
  intro j v hj
  have e : (⟨w.heap.size, 0, none⟩ : Addr).add j = ⟨w.heap.size, j, none⟩ := by
    by_cases h : j = 0
    · subst h; rfl
    · simp [Addr.add, h]
  rw [e, World.cell?_alloc_new]
  simpa using hj

theorem posl_valid (b r : Int) (w : World) (hb : 0 ≤ b ∧ b ≤ 255) (hr : 0 ≤ r ∧ r ≤ 1114111 ∧ ¬ (55296 ≤ r ∧ r ≤ 57343)) :
    Calls Try.prog 3 #[.int .u8 b, .int .i32 r] w fun e w' => e = .returned (.bool true) ∧ Below w.heap.size w w' := by
  have hc1 := conv_bytes (w.alloc (.cells #[.int .u8 b] 5)) ⟨w.heap.size, 0, none⟩ 1 1 [b] rfl (cells_alloc w [b])
  have E1 := Lib.hid (numB_strOf b [] hb.1 hb.2)
  have HR := Lib.hid hr
  have HB := Lib.hid hb
  clear hr hb
  go_enter Try.func3, Try.ntmps3
  go_wp2_with (first | (go_at_call 9; refine (numLitE _ _).mono ?_; rintro e W ⟨rfl, hB⟩; rw [E1.out, List.all_nil, Bool.and_true]; clear hc1) | (go_at_call 10; refine (posByte _ _).mono ?_; rintro e w1 ⟨rfl, rfl⟩) | (go_at_call 11; refine (valid_yes _ _ HR.out).mono ?_; rintro e w1 ⟨rfl, rfl⟩))
  refine (enc_any r W ⟨HR.out.1, HR.out.2.1⟩).mono ?_
  rintro e w1 ⟨n, ns, rfl, rfl, hl, hn⟩
  have E2 : numB (strOf (n :: ns)) = dig r := by
    have h0 := HR.out.1
    rcases hn with ⟨h1, rfl, rfl⟩ | ⟨h1, h2, h3⟩
    · rw [numB_strOf _ _ h0 (by omega)]; simp
    · rw [numB_strOf _ _ (by omega) h3, dig_not (by omega), dig_not (by omega)]; rfl
  have hc2 := conv_bytes (W.alloc (.cells ((n :: ns).map (Value.int .u8)).toArray 5)) ⟨W.heap.size, 0, none⟩ (ns.length + 1) (ns.length + 1) (n :: ns) rfl (cells_alloc W (n :: ns))
  have hB2 : Below W.heap.size W (W.alloc (.cells ((n :: ns).map (Value.int .u8)).toArray 5)) := (Below.refl _ _).alloc (Nat.le_refl _) _
  obtain ⟨W2, hW2⟩ : ∃ W2, W2 = W.alloc (.cells ((n :: ns).map (Value.int .u8)).toArray 5) := ⟨_, rfl⟩
  rw [← hW2] at hc2 hB2 ⊢
  have EE := Lib.hid E2
  clear hW2 E2 hn hl
  obtain ⟨S, hS⟩ : ∃ S, S = strOf (n :: ns) := ⟨_, rfl⟩
  rw [← hS] at hc2
  have ES := Lib.hid hS
  clear hS
  go_wp2_with (first | (go_at_call 9; refine (numLitE _ _).mono ?_; rintro e W3 ⟨rfl, hB3⟩; clear hc2) | (go_at_call 13; refine (posRune _ _).mono ?_; rintro e w1 ⟨rfl, rfl⟩))
  go_ret
  exact ⟨ret_bool' (by rw [ES.out, EE.out]; simp), ((((Below.refl _ _).alloc (Nat.le_refl _) _).trans (hB.mono (by simp))).trans (hB2.mono (by have := hB.size; simp at this; omega))).trans (hB3.mono (by have := hB.size; have := hB2.size; simp at *; omega))⟩
theorem posl_not (b r : Int) (w : World) (hb : 0 ≤ b ∧ b ≤ 255) (hr : ¬ (0 ≤ r ∧ r ≤ 1114111 ∧ ¬ (55296 ≤ r ∧ r ≤ 57343))) :
    Calls Try.prog 3 #[.int .u8 b, .int .i32 r] w fun e w' => e = .returned (.bool true) ∧ Below w.heap.size w w' := by
  have hc1 := conv_bytes (w.alloc (.cells #[.int .u8 b] 5)) ⟨w.heap.size, 0, none⟩ 1 1 [b] rfl (cells_alloc w [b])
  have E1 := Lib.hid (numB_strOf b [] hb.1 hb.2)
  have HR := Lib.hid hr
  have HB := Lib.hid hb
  clear hr hb
  go_enter Try.func3, Try.ntmps3
  go_wp2_with (first | (go_at_call 9; refine (numLitE _ _).mono ?_; rintro e W ⟨rfl, hB⟩; rw [E1.out, List.all_nil, Bool.and_true]; clear hc1) | (go_at_call 10; refine (posByte _ _).mono ?_; rintro e w1 ⟨rfl, rfl⟩) | (go_at_call 11; refine (valid_no _ _ HR.out).mono ?_; rintro e w1 ⟨rfl, rfl⟩))
  go_ret
  exact ⟨rfl, ((Below.refl _ _).alloc (Nat.le_refl _) _).trans (hB.mono (by simp))⟩
theorem posl_law (b r : Int) (w : World) (hb : 0 ≤ b ∧ b ≤ 255) :
    Calls Try.prog 3 #[.int .u8 b, .int .i32 r] w fun e w' => e = .returned (.bool true) ∧ Below w.heap.size w w' := by
  by_cases hr : 0 ≤ r ∧ r ≤ 1114111 ∧ ¬ (55296 ≤ r ∧ r ≤ 57343)
  · exact posl_valid b r w hb hr
  · exact posl_not b r w hb hr
end Go.Proofs.Ytjpimejjbiemgaa
