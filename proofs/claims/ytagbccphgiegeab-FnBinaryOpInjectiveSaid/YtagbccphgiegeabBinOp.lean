/- The contract of testBinaryOp, and the walk of the law FnBinaryOpInjective: it returns true at every pair of strings. -/
import Derived.Test.YtagbccphgiegeabPos
namespace Go.Proofs.Ytagbccphgiegeab
open Go.RowKit

theorem lookup_mem (t : List (List UInt8 × Int)) (l : List UInt8) (v : Int) (h : t.lookup l = some v) : (l, v) ∈ t := by
  induction t with
  | nil => simp at h
  | cons p t ih =>
    obtain ⟨k, u⟩ := p
    rw [List.lookup_cons] at h
    by_cases e : (l == k) = true
    · rw [e] at h
      simp at h e
      subst h e
      simp
    · rw [Bool.not_eq_true] at e
      rw [e] at h
      exact List.mem_cons_of_mem _ (ih h)
def binVT : List (List UInt8 × Int) := [([61], 87), ([61, 61], 45), ([33, 61], 46), ([61, 126], 129), ([45, 110, 116], 130), ([45, 111, 116], 131), ([45, 101, 102], 132), ([45, 101, 113], 133), ([45, 110, 101], 134), ([45, 108, 101], 135), ([45, 103, 101], 136), ([45, 108, 116], 137), ([45, 103, 116], 138)]
def binV (l : List UInt8) : Int := (binVT.lookup l).getD 0
theorem binV_mem (l : List UInt8) (h : binV l ≠ 0) : (l, binV l) ∈ binVT := by
  unfold binV at h ⊢
  cases e : binVT.lookup l with
  | none => rw [e] at h; exact absurd rfl h
  | some v => exact lookup_mem _ _ _ e
theorem binV_inj (a b : List UInt8) (h : binV a = binV b) (hz : binV a ≠ 0) : a = b := by
  have ha := binV_mem a hz
  have hb := binV_mem b (by rw [← h]; exact hz)
  rw [← h] at hb
  have key : ∀ p ∈ binVT, ∀ q ∈ binVT, p.2 = q.2 → p.1 = q.1 := by decide +kernel
  exact key _ ha _ hb rfl

theorem binV_any (s : ByteArray) (w : World) : Calls Try.prog 31 #[.string s] w fun e w' => e = .returned (.int .u32 (binV s.toList)) ∧ w = w' := by
  have E1 := Lib.hid (show binV s.toList = (binVT.lookup s.toList).getD 0 from rfl)
  go_enter Try.func31, Try.ntmps31
  go_wp2
  all_goals
    go_ret
    refine ⟨ret_int ?_, rfl⟩
    rw [E1.out]
    unfold binVT
    first | (simp [List.lookup, *]; done) | (simp_all; done)

theorem bin_law (a b : ByteArray) (w : World) : Calls Try.prog 6 #[.string a, .string b] w fun e w' => e = .returned (.bool true) ∧ w = w' := by
  have K := Lib.hid (binV_inj a.toList b.toList)
  go_enter Try.func6, Try.ntmps6
  go_wp2_with (first | (go_at_call 31; refine (binV_any _ _).mono ?_; rintro e w' ⟨rfl, rfl⟩) | go_in)
  all_goals
    go_ret
    refine ⟨ret_bool ?_, rfl⟩
    first
      | rfl
      | (have k := K.out (by simp_all) (by simp_all)
         simp [k])
end Go.Proofs.Ytagbccphgiegeab
