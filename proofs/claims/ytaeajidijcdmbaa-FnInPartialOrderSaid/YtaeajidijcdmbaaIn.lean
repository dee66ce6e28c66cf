/- The contract of LangVariant.in, and the walk of the law FnInPartialOrder: it returns true at every triple of ints. -/
import Derived.Test.YtaeajidijcdmbaaProg
import Derived.WalkKit
import Derived.WalkLawsBesides
import Derived.Lib.Hide
import Derived.OpenShut
namespace Go.Proofs.Ytaeajidijcdmbaa
open Go.RowKit
set_option linter.unusedVariables false

theorem wrap_toInt (x : BitVec 64) : IntKind.i64.wrap (x.toNat : Int) = x.toInt := by
  have := x.isLt
  rw [IntKind.wrap_i64, BitVec.toInt_eq_toNat_cond]
  split <;> omega
theorem ofInt_toInt' (a : Int) (h0 : -9223372036854775808 ≤ a) (h1 : a ≤ 9223372036854775807) : (BitVec.ofInt 64 a).toInt = a := by
  rw [BitVec.toInt_ofInt]
  simp [Int.bmod]
  omega
theorem and_toInt (a b : Int) : bits .and .i64 a b = (BitVec.ofInt 64 a &&& BitVec.ofInt 64 b).toInt := wrap_toInt _
theorem or_toInt (a b : Int) : bits .or .i64 a b = (BitVec.ofInt 64 a ||| BitVec.ofInt 64 b).toInt := wrap_toInt _
theorem ofInt_and (a b : Int) : BitVec.ofInt 64 (bits .and .i64 a b) = BitVec.ofInt 64 a &&& BitVec.ofInt 64 b := by rw [and_toInt, BitVec.ofInt_toInt]
theorem ofInt_or (a b : Int) : BitVec.ofInt 64 (bits .or .i64 a b) = BitVec.ofInt 64 a ||| BitVec.ofInt 64 b := by rw [or_toInt, BitVec.ofInt_toInt]

def inB (a b : Int) : Bool := bits .and .i64 a b == a
def Rng (a : Int) : Prop := -9223372036854775808 ≤ a ∧ a ≤ 9223372036854775807
theorem rng_toInt (x : BitVec 64) : Rng x.toInt := by
  have h1 := BitVec.le_toInt x
  have h2 := BitVec.toInt_lt (x := x)
  simp at h1 h2
  exact ⟨by omega, by omega⟩
theorem inB_iff (a b : Int) (h : Rng a) : inB a b = true ↔ BitVec.ofInt 64 a &&& BitVec.ofInt 64 b = BitVec.ofInt 64 a := by
  unfold inB
  rw [beq_iff_eq, and_toInt]
  constructor
  · intro e
    apply BitVec.eq_of_toInt_eq
    rw [e, ofInt_toInt' a h.1 h.2]
  · intro e
    rw [e, ofInt_toInt' a h.1 h.2]

theorem in_refl (a : Int) (h : Rng a) : inB a a = true := by rw [inB_iff a a h]; simp
theorem in_zero (a : Int) : inB 0 a = true := by rw [inB_iff 0 a ⟨by decide, by decide⟩]; simp
theorem in_or (a b : Int) (h : Rng a) : inB a (bits .or .i64 a b) = true := by
  rw [inB_iff _ _ h, ofInt_or]
  ext i hi
  simp
  intro h1
  exact Or.inl h1
theorem in_and (a b : Int) : inB (bits .and .i64 a b) a = true := by
  rw [inB_iff _ _ (by rw [and_toInt]; exact rng_toInt _), ofInt_and]
  ext i hi
  simp
  intro h1 _
  exact h1
theorem in_anti (a b : Int) (ha : Rng a) (hb : Rng b) (h1 : inB a b = true) (h2 : inB b a = true) : a = b := by
  rw [inB_iff _ _ ha] at h1
  rw [inB_iff _ _ hb, BitVec.and_comm, h1] at h2
  rw [← ofInt_toInt' a ha.1 ha.2, h2, ofInt_toInt' b hb.1 hb.2]
theorem in_trans (a b c : Int) (ha : Rng a) (hb : Rng b) (h1 : inB a b = true) (h2 : inB b c = true) : inB a c = true := by
  rw [inB_iff _ _ ha] at h1 ⊢
  rw [inB_iff _ _ hb] at h2
  rw [← h1, BitVec.and_assoc, h2]

theorem ret_bool {a b : Bool} (h : a = b) : Ending.returned (.bool a) = .returned (.bool b) := by rw [h]
theorem in_any (a b : Int) (w : World) : Calls Try.prog 5 #[.int .i64 a, .int .i64 b] w fun e w' => e = .returned (.bool (inB a b)) ∧ w = w' := by
  have E1 := Lib.hid (show inB a b = (bits .and .i64 a b == a) from rfl)
  go_enter Try.func5, Try.ntmps5
  go_wp2
  go_ret
  exact ⟨ret_bool (by rw [E1.out]), rfl⟩
theorem zzin_any (a b : Int) (w : World) : Calls Try.prog 4 #[.int .i64 a, .int .i64 b] w fun e w' => e = .returned (.bool (inB a b)) ∧ w = w' := by
  go_enter Try.func4, Try.ntmps4
  go_wp2_with (go_at_call 5; refine (in_any _ _ _).mono ?_; rintro e w' ⟨rfl, rfl⟩)
  go_ret
  exact ⟨rfl, rfl⟩

theorem in_law (a b c : Int) (w : World) (ha : Rng a) (hb : Rng b) : Calls Try.prog 3 #[.int .i64 a, .int .i64 b, .int .i64 c] w fun e w' => e = .returned (.bool true) ∧ w = w' := by
  have f1 := in_refl a ha
  have f2 := in_zero a
  have f3 := in_or a b ha
  have f4 := in_and a b
  have F5 := Lib.hid (in_anti a b ha hb)
  have F6 := Lib.hid (in_trans a b c ha hb)
  clear ha hb
  cases h1 : inB a b
  · go_enter Try.func3, Try.ntmps3
    go_wp2_with (go_at_call 4; refine (zzin_any _ _ _).mono ?_; rintro e w' ⟨rfl, rfl⟩)
    go_ret
    exact ⟨rfl, rfl⟩
  · cases h3 : inB b c
    · cases h2 : inB b a
      · go_enter Try.func3, Try.ntmps3
        go_wp2_with (go_at_call 4; refine (zzin_any _ _ _).mono ?_; rintro e w' ⟨rfl, rfl⟩)
        go_ret
        exact ⟨rfl, rfl⟩
      · have h4 : (a != b) = false := by rw [F5.out h1 h2]; simp
        go_enter Try.func3, Try.ntmps3
        go_wp2_with (go_at_call 4; refine (zzin_any _ _ _).mono ?_; rintro e w' ⟨rfl, rfl⟩)
        go_ret
        exact ⟨rfl, rfl⟩
    · have h5 := F6.out h1 h3
      cases h2 : inB b a
      · go_enter Try.func3, Try.ntmps3
        go_wp2_with (go_at_call 4; refine (zzin_any _ _ _).mono ?_; rintro e w' ⟨rfl, rfl⟩)
        go_ret
        exact ⟨rfl, rfl⟩
      · have h4 : (a != b) = false := by rw [F5.out h1 h2]; simp
        go_enter Try.func3, Try.ntmps3
        go_wp2_with (go_at_call 4; refine (zzin_any _ _ _).mono ?_; rintro e w' ⟨rfl, rfl⟩)
        go_ret
        exact ⟨rfl, rfl⟩
end Go.Proofs.Ytaeajidijcdmbaa
