/- The contract of testUnaryOp, and the walk of the law FnUnaryOpOnlyTwoAliases: it returns true at every pair of strings. -/
import Derived.Test.YtagbccphgiegeacProg
import Derived.WalkKit
import Derived.WalkLawsBesides
import Derived.Lib.Hide
import Derived.OpenShut
namespace Go.Proofs.Ytagbccphgiegeac
open Go.RowKit

theorem ret_bool {a b : Bool} (h : a = b) : Ending.returned (.bool a) = .returned (.bool b) := by rw [h]
theorem ret_int {k : IntKind} {a b : Int} (h : a = b) : Ending.returned (.int k a) = .returned (.int k b) := by rw [h]
theorem lookup_mem (t : List (List UInt8 × Int)) (l : List UInt8) (v : Int) (h : t.lookup l = some v) : (l, v) ∈ t := by
  induction t with
  | nil => simp at h
  | cons p t ih =>
    obtain ⟨k, u⟩ := p
    rw [List.lookup_cons] at h
    by_cases e : (l == k) = true
    · rw [e] at h
      simp at h e
      subst h e
      simp
    · rw [Bool.not_eq_true] at e
      rw [e] at h
      exact List.mem_cons_of_mem _ (ih h)
def unVT : List (List UInt8 × Int) := [([33], 39), ([45, 101], 105), ([45, 97], 105), ([45, 102], 106), ([45, 100], 107), ([45, 99], 108), ([45, 98], 109), ([45, 112], 110), ([45, 83], 111), ([45, 76], 112), ([45, 104], 112), ([45, 107], 113), ([45, 103], 114), ([45, 117], 115), ([45, 71], 116), ([45, 79], 117), ([45, 78], 118), ([45, 114], 119), ([45, 119], 120), ([45, 120], 121), ([45, 115], 122), ([45, 116], 123), ([45, 122], 124), ([45, 110], 125), ([45, 111], 126), ([45, 118], 127), ([45, 82], 128)]
def unV (l : List UInt8) : Int := (unVT.lookup l).getD 0
theorem unV_mem (l : List UInt8) (h : unV l ≠ 0) : (l, unV l) ∈ unVT := by
  unfold unV at h ⊢
  cases e : unVT.lookup l with
  | none => rw [e] at h; exact absurd rfl h
  | some v => exact lookup_mem _ _ _ e
theorem unV_inj (a b : List UInt8) (h : unV a = unV b) (hz : unV a ≠ 0) : a = b ∨ (a, b) ∈ [([45, 101], [45, 97]), ([45, 97], [45, 101]), ([45, 76], [45, 104]), ([45, 104], [45, 76])] := by
  have ha := unV_mem a hz
  have hb := unV_mem b (by rw [← h]; exact hz)
  rw [← h] at hb
  have key : ∀ p ∈ unVT, ∀ q ∈ unVT, p.2 = q.2 → p.1 = q.1 ∨ (p.1, q.1) ∈ [([45, 101], [45, 97]), ([45, 97], [45, 101]), ([45, 76], [45, 104]), ([45, 104], [45, 76])] := by decide +kernel
  exact key _ ha _ hb rfl

theorem unV_any (s : ByteArray) (w : World) : Calls Try.prog 6 #[.string s] w fun e w' => e = .returned (.int .u32 (unV s.toList)) ∧ w = w' := by
  have E1 := Lib.hid (show unV s.toList = (unVT.lookup s.toList).getD 0 from rfl)
  go_enter Try.func6, Try.ntmps6
  go_wp2
  all_goals
    go_ret
    refine ⟨ret_int ?_, rfl⟩
    rw [E1.out]
    unfold unVT
    first | (simp [List.lookup, *]; done) | (simp_all; done)

theorem un_law (a b : ByteArray) (w : World) : Calls Try.prog 3 #[.string a, .string b] w fun e w' => e = .returned (.bool true) ∧ w = w' := by
  have K := Lib.hid (unV_inj a.toList b.toList)
  go_enter Try.func3, Try.ntmps3
  go_wp2_with (first | (go_at_call 6; refine (unV_any _ _).mono ?_; rintro e w' ⟨rfl, rfl⟩) | go_in)
  all_goals
    go_ret
    refine ⟨ret_bool ?_, rfl⟩
    first
      | rfl
      | (exfalso
         have k := K.out (by assumption) (by assumption)
         simp only [List.mem_cons, Prod.mk.injEq, List.not_mem_nil, or_false] at k
         simp_all)
end Go.Proofs.Ytagbccphgiegeac
