/- Contracts of Lit.Pos, Lit.End, Word.Pos and Word.End (a word of one literal part), with the world after the call told exactly. -/
import Derived.Test.YtjpodhmjmohblaaPos
import Derived.Deep.RegionWith
import Derived.Deep.RegionHeld3
namespace Go.Proofs.Ytjpodhmjmohblaa
open Go.RowKit
set_option linter.unusedVariables false

theorem wLitEnd (b : Nat) (o l : Int) (w : World) (h0 : w.cell? ⟨b, 2, none⟩ = some (.int .u32 o)) (h1 : w.cell? ⟨b, 3, none⟩ = some (.int .u32 l)) :
    Calls Try.prog 23 #[.pointer (some ⟨b, 0, none⟩)] w fun e w' => e = .returned (P2 o l) ∧ w.alloc (C2 o l) = w' := by
  have g0 := later h0
  have g1 := later h1
  go_enter Try.func23, Try.ntmps23
  go_wp2
  exact bodyPost_ret (v := P2 o l) (by simp [results, Try.results23, go_sem]) rfl ⟨rfl, rfl⟩

theorem wLitPos (b : Nat) (o l : Int) (w : World) (h0 : w.cell? ⟨b, 0, none⟩ = some (.int .u32 o)) (h1 : w.cell? ⟨b, 1, none⟩ = some (.int .u32 l)) :
    Calls Try.prog 55 #[.pointer (some ⟨b, 0, none⟩)] w fun e w' => e = .returned (P2 o l) ∧ w.alloc (C2 o l) = w' := by
  have g0 := later h0
  have g1 := later h1
  go_enter Try.func55, Try.ntmps55
  go_wp2
  exact bodyPost_ret (v := P2 o l) (by simp [results, Try.results55, go_sem]) rfl ⟨rfl, rfl⟩


theorem nil_lit (a : Addr) (w : World) : (nilAhead 285 39 (.pointer (some a)) "End").run Try.prog w = .ok (some false) w := by kernel_rfl
theorem meth_lit (a : Addr) (w : World) : (method 285 39 (.pointer (some a)) "End").run Try.prog w = .ok (23, .pointer (some a)) w := by kernel_rfl
theorem nil_litP (a : Addr) (w : World) : (nilAhead 285 39 (.pointer (some a)) "Pos").run Try.prog w = .ok (some false) w := by kernel_rfl
theorem meth_litP (a : Addr) (w : World) : (method 285 39 (.pointer (some a)) "Pos").run Try.prog w = .ok (55, .pointer (some a)) w := by kernel_rfl
theorem nil_word (a : Addr) (w : World) : (nilAhead 285 36 (.pointer (some a)) "End").run Try.prog w = .ok (some false) w := by kernel_rfl
theorem meth_word (a : Addr) (w : World) : (method 285 36 (.pointer (some a)) "End").run Try.prog w = .ok (40, .pointer (some a)) w := by kernel_rfl

theorem wordEnd_x (b s c p : Nat) (o l : Int) (w : World) (h : w.cell? ⟨b, 0, none⟩ = some (.slice (some ⟨s, 0, none⟩) 1 c)) (hs : w.cell? ⟨s, 0, none⟩ = some (.iface 39 (.pointer (some ⟨p, 0, none⟩))))
    (h0 : w.cell? ⟨p, 2, none⟩ = some (.int .u32 o)) (h1 : w.cell? ⟨p, 3, none⟩ = some (.int .u32 l)) :
    Calls Try.prog 40 #[.pointer (some ⟨b, 0, none⟩)] w fun e w' => e = .returned (P2 o l) ∧ ((w.alloc (C2 o l)).alloc (C2 o l)).drew = w' := by
  have g := later h
  have gs := later hs
  have g0 := later h0
  have g1 := later h1
  have n1 := nil_lit
  have n2 := meth_lit
  have z1 : IntKind.i64.wrap (1 - 1) = 0 := by decide
  have z2 : IntKind.i64.wrap 0 = 0 := by decide
  have z3 : (0 : Int) < 1 := by decide
  have z4 : (0 : Int) ≤ 0 := by decide
  go_enter Try.func40, Try.ntmps40
  go_wp2
  go_region_held3 (fun w' => w'.cell? ⟨b, 0, none⟩ = some (.slice (some ⟨s, 0, none⟩) 1 c) ∧ w'.cell? ⟨s, 0, none⟩ = some (.iface 39 (.pointer (some ⟨p, 0, none⟩)))) (go_keep) (first | (go_at_call 23; refine (wLitEnd _ o l _ ?_ ?_).mono ?_; (focus (go_simp; done)); (focus (go_simp; done)); rintro e w' ⟨rfl, rfl⟩))
  go_wp2
  exact bodyPost_ret (v := P2 o l) (by simp [results, Try.results40, go_sem]) rfl ⟨rfl, rfl⟩

theorem litWord27_x (o l o2 l2 : Int) (s : ByteArray) (w : World) : Calls Try.prog 18 #[P2 o l, P2 o2 l2, .string s] w fun e w' => e = .returned (.pointer (some ⟨w.heap.size + 1 + 1 + 1 + 1, 0, none⟩)) ∧
    ((((w.alloc (C2 o l)).alloc (C2 o2 l2)).alloc (.cells #[.int .u32 o, .int .u32 l, .int .u32 o2, .int .u32 l2, .string s] 41)).alloc (.cells #[.iface 39 (.pointer (some ⟨w.heap.size + 1 + 1, 0, none⟩))] 83)).alloc (.cells #[.slice (some ⟨w.heap.size + 1 + 1 + 1, 0, none⟩) 1 1] 123) = w' := by
  go_enter Try.func18, Try.ntmps18
  go_wp2
  go_ret
  exact ⟨rfl, rfl⟩
end Go.Proofs.Ytjpodhmjmohblaa
