/- Contracts of the position functions of package syntax (Pos.IsValid, After, Line, Col, Offset, posAddCol): each returns what a plain function of the two fields of a Pos says, and writes nothing that was there. Conditions: the fields are uint32; the step of posAddCol lies between -1000 and 1000. -/
import Derived.Test.YtjpodhmjmohblaaProg
import Derived.WalkKit
import Derived.WalkLawsBesides
import Derived.Laws.BitsAll
import Derived.Lib.Hide
import Derived.OpenShut
namespace Go.Proofs.Ytjpodhmjmohblaa
open Go.RowKit
set_option linter.unusedVariables false

theorem ret_bool {a b : Bool} (h : a = b) : Ending.returned (.bool a) = .returned (.bool b) := by rw [h]
theorem ret_int {k : IntKind} {a b : Int} (h : a = b) : Ending.returned (.int k a) = .returned (.int k b) := by rw [h]
theorem btrans {a b c : World} (h : Below a.heap.size a b) (k : Below b.heap.size b c) : Below a.heap.size a c := h.trans (k.mono h.size)
theorem balloc {a b : World} (h : Below a.heap.size a b) (o : Obj) : Below a.heap.size a (b.alloc o) := h.alloc h.size o
theorem bset {a b : World} (h : Below a.heap.size a b) {p : Addr} (hp : a.heap.size ≤ p.block) (u : Value) : Below a.heap.size a (b.setCell p u) := h.setCell hp u
theorem bcell {W w1 : World} (hb : Below W.heap.size W w1) : (∀ b o, b < W.heap.size → w1.cell? ⟨b, o, none⟩ = W.cell? ⟨b, o, none⟩) ∧ (∀ b o, b < W.heap.size → w1.frozen? ⟨b, o, none⟩ = W.frozen? ⟨b, o, none⟩) :=
  ⟨fun b o h => hb.cell (p := ⟨b, o, none⟩) h, fun b o h => hb.frozen (p := ⟨b, o, none⟩) h⟩

def validB (o l : Int) : Bool := decide (o ≤ 4294967284) && (l != 0)
def afterB (o l o2 : Int) : Bool := validB o l && decide (o2 < o)
def offI (o : Int) : Int := if 4294967284 < o then 0 else o
def addO (o l n : Int) : Int := if validB o l = true then min (max (o + n) 0) 4294967284 else o
def colI (l n : Int) : Int := if l % 16384 = 0 ∨ l % 16384 + n < 1 ∨ 16383 < l % 16384 + n then 0 else l % 16384 + n
def addL (o l n : Int) : Int := if validB o l = true then l - l % 16384 + colI l n else l
abbrev P2 (o l : Int) : Value := .agg #[.int .u32 o, .int .u32 l]

abbrev C2 (o l : Int) : Obj := .cells #[.int .u32 o, .int .u32 l] 26

theorem valid_x (o l : Int) (w : World) : Calls Try.prog 74 #[P2 o l] w fun e w' => e = .returned (.bool (validB o l)) ∧ w.alloc (C2 o l) = w' := by
  have E1 := Lib.hid (show validB o l = (decide (o ≤ 4294967284) && (l != 0)) from rfl)
  by_cases a : o ≤ 4294967284
  · go_enter Try.func74, Try.ntmps74
    go_wp2
    go_ret
    exact ⟨ret_bool (by rw [E1.out]; simp [a]), rfl⟩
  · go_enter Try.func74, Try.ntmps74
    go_wp2
    go_ret
    exact ⟨ret_bool (by rw [E1.out]; simp; omega), rfl⟩

theorem after_x (o l o2 l2 : Int) (w : World) : Calls Try.prog 24 #[P2 o l, P2 o2 l2] w fun e w' => e = .returned (.bool (afterB o l o2)) ∧ ((w.alloc (C2 o l)).alloc (C2 o2 l2)).alloc (C2 o l) = w' := by
  have E1 := Lib.hid (show afterB o l o2 = (validB o l && decide (o2 < o)) from rfl)
  cases hv : validB o l
  · go_enter Try.func24, Try.ntmps24
    go_wp2_with (go_at_call 74; refine (valid_x _ _ _).mono ?_; rintro e w' ⟨rfl, rfl⟩)
    go_ret
    exact ⟨ret_bool (by rw [E1.out, hv]; rfl), rfl⟩
  · go_enter Try.func24, Try.ntmps24
    go_wp2_with (go_at_call 74; refine (valid_x _ _ _).mono ?_; rintro e w' ⟨rfl, rfl⟩)
    go_ret
    exact ⟨ret_bool (by rw [E1.out, hv]; rfl), rfl⟩

theorem col_x (o l : Int) (w : World) (h0 : 0 ≤ l) (h1 : l < 4294967296) : Calls Try.prog 30 #[P2 o l] w fun e w' => e = .returned (.int .u64 (l % 16384)) ∧ w.alloc (C2 o l) = w' := by
  have hb : bits .and .u32 l 16383 = l % 16384 := by go_bits2
  go_enter Try.func30, Try.ntmps30
  go_wp2
  go_ret
  exact ⟨rfl, rfl⟩

theorem line_x (o l : Int) (w : World) (h0 : 0 ≤ l) (h1 : l < 4294967296) : Calls Try.prog 29 #[P2 o l] w fun e w' => e = .returned (.int .u64 (l / 16384)) ∧ w.alloc (C2 o l) = w' := by
  go_enter Try.func29, Try.ntmps29
  go_wp2
  go_ret
  exact ⟨rfl, rfl⟩

theorem off_x (o l : Int) (w : World) (h0 : 0 ≤ o) (h1 : o < 4294967296) : Calls Try.prog 28 #[P2 o l] w fun e w' => e = .returned (.int .u64 (offI o)) ∧ w.alloc (C2 o l) = w' := by
  have E1 := Lib.hid (show offI o = (if 4294967284 < o then 0 else o) from rfl)
  by_cases a : 4294967284 < o
  · go_enter Try.func28, Try.ntmps28
    go_wp2
    go_ret
    exact ⟨ret_int (by rw [E1.out, if_pos a]), rfl⟩
  · go_enter Try.func28, Try.ntmps28
    go_wp2
    go_ret
    exact ⟨ret_int (by rw [E1.out, if_neg (by omega)]), rfl⟩

theorem valid_any (o l : Int) (w : World) : Calls Try.prog 74 #[P2 o l] w fun e w' => e = .returned (.bool (validB o l)) ∧ Below w.heap.size w w' :=
  (valid_x o l w).mono fun _ _ h => ⟨h.1, h.2 ▸ balloc (Below.refl _ _) _⟩
theorem after_any (o l o2 l2 : Int) (w : World) : Calls Try.prog 24 #[P2 o l, P2 o2 l2] w fun e w' => e = .returned (.bool (afterB o l o2)) ∧ Below w.heap.size w w' :=
  (after_x o l o2 l2 w).mono fun _ _ h => ⟨h.1, h.2 ▸ balloc (balloc (balloc (Below.refl _ _) _) _) _⟩
theorem col_any (o l : Int) (w : World) (h0 : 0 ≤ l) (h1 : l < 4294967296) : Calls Try.prog 30 #[P2 o l] w fun e w' => e = .returned (.int .u64 (l % 16384)) ∧ Below w.heap.size w w' :=
  (col_x o l w h0 h1).mono fun _ _ h => ⟨h.1, h.2 ▸ balloc (Below.refl _ _) _⟩
theorem line_any (o l : Int) (w : World) (h0 : 0 ≤ l) (h1 : l < 4294967296) : Calls Try.prog 29 #[P2 o l] w fun e w' => e = .returned (.int .u64 (l / 16384)) ∧ Below w.heap.size w w' :=
  (line_x o l w h0 h1).mono fun _ _ h => ⟨h.1, h.2 ▸ balloc (Below.refl _ _) _⟩
theorem off_any (o l : Int) (w : World) (h0 : 0 ≤ o) (h1 : o < 4294967296) : Calls Try.prog 28 #[P2 o l] w fun e w' => e = .returned (.int .u64 (offI o)) ∧ Below w.heap.size w w' :=
  (off_x o l w h0 h1).mono fun _ _ h => ⟨h.1, h.2 ▸ balloc (Below.refl _ _) _⟩

theorem orL (l c : Int) (h0 : 0 ≤ l) (h1 : l < 4294967296) (c0 : 0 ≤ c) (c1 : c ≤ 16383) : bits .or .u32 (bits .andNot .u32 l 16383) c = l - l % 16384 + c := by
  have e : bits .andNot .u32 l 16383 = l - l % 16384 := by go_bits2
  rw [e]
  go_bits2
theorem addO_t (o l n q : Int) (hv : validB o l = true) (hq : q = min (max (o + n) 0) 4294967284) : addO o l n = q := by unfold addO; rw [if_pos hv, hq]
theorem addL_t (o l n c : Int) (hv : validB o l = true) (hc : c = colI l n) : addL o l n = l - l % 16384 + c := by unfold addL; rw [if_pos hv, hc]
theorem add_inv (o l n : Int) (hv : validB o l = false) : addO o l n = o ∧ addL o l n = l := by unfold addO addL; simp [hv]

theorem add_neg_zero (o l n c : Int) (w : World) (o0 : 0 ≤ o) (o1 : o ≤ 4294967284) (h0 : 0 ≤ l) (h1 : l < 4294967296) (n0 : -1000 ≤ n) (n1 : n ≤ 1000) (l0 : (l != 0) = true) (hc : bits .and .u32 l 16383 = c) (c0 : 0 ≤ c) (c16 : c ≤ 16383) (ho : o + n < 0) (d : c ≤ 0) :
    Calls Try.prog 73 #[P2 o l, .int .i64 n] w fun e w' => e = .returned (P2 0 (bits .or .u32 (bits .andNot .u32 l 16383) c)) ∧ (((w.alloc (C2 0 (bits .or .u32 (bits .andNot .u32 l 16383) c))).alloc (C2 0 (bits .or .u32 (bits .andNot .u32 l 16383) c))).alloc (C2 o l)).alloc (C2 o l) = w' := by
  go_enter Try.func73, Try.ntmps73
  go_wp2
  refine bodyPost_ret (v := P2 0 (bits .or .u32 (bits .andNot .u32 l 16383) c)) (by simp [results, Try.results73, go_sem]) rfl ⟨rfl, rfl⟩
theorem add_neg_low (o l n c : Int) (w : World) (o0 : 0 ≤ o) (o1 : o ≤ 4294967284) (h0 : 0 ≤ l) (h1 : l < 4294967296) (n0 : -1000 ≤ n) (n1 : n ≤ 1000) (l0 : (l != 0) = true) (hc : bits .and .u32 l 16383 = c) (c0 : 0 ≤ c) (c16 : c ≤ 16383) (ho : o + n < 0) (d : 0 < c) (d' : c + n < 1) :
    Calls Try.prog 73 #[P2 o l, .int .i64 n] w fun e w' => e = .returned (P2 0 (bits .or .u32 (bits .andNot .u32 l 16383) 0)) ∧ (((w.alloc (C2 0 (bits .or .u32 (bits .andNot .u32 l 16383) 0))).alloc (C2 0 (bits .or .u32 (bits .andNot .u32 l 16383) 0))).alloc (C2 o l)).alloc (C2 o l) = w' := by
  go_enter Try.func73, Try.ntmps73
  go_wp2
  refine bodyPost_ret (v := P2 0 (bits .or .u32 (bits .andNot .u32 l 16383) 0)) (by simp [results, Try.results73, go_sem]) rfl ⟨rfl, rfl⟩
theorem add_neg_in (o l n c : Int) (w : World) (o0 : 0 ≤ o) (o1 : o ≤ 4294967284) (h0 : 0 ≤ l) (h1 : l < 4294967296) (n0 : -1000 ≤ n) (n1 : n ≤ 1000) (l0 : (l != 0) = true) (hc : bits .and .u32 l 16383 = c) (c0 : 0 ≤ c) (c16 : c ≤ 16383) (ho : o + n < 0) (d : 0 < c) (d' : 1 ≤ c + n) (d'' : c + n ≤ 16383) :
    Calls Try.prog 73 #[P2 o l, .int .i64 n] w fun e w' => e = .returned (P2 0 (bits .or .u32 (bits .andNot .u32 l 16383) (c + n))) ∧ (((w.alloc (C2 0 (bits .or .u32 (bits .andNot .u32 l 16383) (c + n)))).alloc (C2 0 (bits .or .u32 (bits .andNot .u32 l 16383) (c + n)))).alloc (C2 o l)).alloc (C2 o l) = w' := by
  go_enter Try.func73, Try.ntmps73
  go_wp2
  refine bodyPost_ret (v := P2 0 (bits .or .u32 (bits .andNot .u32 l 16383) (c + n))) (by simp [results, Try.results73, go_sem]) rfl ⟨rfl, rfl⟩
theorem add_big_zero (o l n c : Int) (w : World) (o0 : 0 ≤ o) (o1 : o ≤ 4294967284) (h0 : 0 ≤ l) (h1 : l < 4294967296) (n0 : -1000 ≤ n) (n1 : n ≤ 1000) (l0 : (l != 0) = true) (hc : bits .and .u32 l 16383 = c) (c0 : 0 ≤ c) (c16 : c ≤ 16383) (ho : 4294967284 < o + n) (d : c ≤ 0) :
    Calls Try.prog 73 #[P2 o l, .int .i64 n] w fun e w' => e = .returned (P2 4294967284 (bits .or .u32 (bits .andNot .u32 l 16383) c)) ∧ (((w.alloc (C2 4294967284 (bits .or .u32 (bits .andNot .u32 l 16383) c))).alloc (C2 4294967284 (bits .or .u32 (bits .andNot .u32 l 16383) c))).alloc (C2 o l)).alloc (C2 o l) = w' := by
  go_enter Try.func73, Try.ntmps73
  go_wp2
  refine bodyPost_ret (v := P2 4294967284 (bits .or .u32 (bits .andNot .u32 l 16383) c)) (by simp [results, Try.results73, go_sem]) rfl ⟨rfl, rfl⟩
theorem add_big_high (o l n c : Int) (w : World) (o0 : 0 ≤ o) (o1 : o ≤ 4294967284) (h0 : 0 ≤ l) (h1 : l < 4294967296) (n0 : -1000 ≤ n) (n1 : n ≤ 1000) (l0 : (l != 0) = true) (hc : bits .and .u32 l 16383 = c) (c0 : 0 ≤ c) (c16 : c ≤ 16383) (ho : 4294967284 < o + n) (d : 0 < c) (d' : 1 ≤ c + n) (d'' : 16383 < c + n) :
    Calls Try.prog 73 #[P2 o l, .int .i64 n] w fun e w' => e = .returned (P2 4294967284 (bits .or .u32 (bits .andNot .u32 l 16383) 0)) ∧ (((w.alloc (C2 4294967284 (bits .or .u32 (bits .andNot .u32 l 16383) 0))).alloc (C2 4294967284 (bits .or .u32 (bits .andNot .u32 l 16383) 0))).alloc (C2 o l)).alloc (C2 o l) = w' := by
  go_enter Try.func73, Try.ntmps73
  go_wp2
  refine bodyPost_ret (v := P2 4294967284 (bits .or .u32 (bits .andNot .u32 l 16383) 0)) (by simp [results, Try.results73, go_sem]) rfl ⟨rfl, rfl⟩
theorem add_big_in (o l n c : Int) (w : World) (o0 : 0 ≤ o) (o1 : o ≤ 4294967284) (h0 : 0 ≤ l) (h1 : l < 4294967296) (n0 : -1000 ≤ n) (n1 : n ≤ 1000) (l0 : (l != 0) = true) (hc : bits .and .u32 l 16383 = c) (c0 : 0 ≤ c) (c16 : c ≤ 16383) (ho : 4294967284 < o + n) (d : 0 < c) (d' : 1 ≤ c + n) (d'' : c + n ≤ 16383) :
    Calls Try.prog 73 #[P2 o l, .int .i64 n] w fun e w' => e = .returned (P2 4294967284 (bits .or .u32 (bits .andNot .u32 l 16383) (c + n))) ∧ (((w.alloc (C2 4294967284 (bits .or .u32 (bits .andNot .u32 l 16383) (c + n)))).alloc (C2 4294967284 (bits .or .u32 (bits .andNot .u32 l 16383) (c + n)))).alloc (C2 o l)).alloc (C2 o l) = w' := by
  go_enter Try.func73, Try.ntmps73
  go_wp2
  refine bodyPost_ret (v := P2 4294967284 (bits .or .u32 (bits .andNot .u32 l 16383) (c + n))) (by simp [results, Try.results73, go_sem]) rfl ⟨rfl, rfl⟩
theorem add_mid_zero (o l n c : Int) (w : World) (o0 : 0 ≤ o) (o1 : o ≤ 4294967284) (h0 : 0 ≤ l) (h1 : l < 4294967296) (n0 : -1000 ≤ n) (n1 : n ≤ 1000) (l0 : (l != 0) = true) (hc : bits .and .u32 l 16383 = c) (c0 : 0 ≤ c) (c16 : c ≤ 16383) (ho : 0 ≤ o + n) (ho' : o + n ≤ 4294967284) (d : c ≤ 0) :
    Calls Try.prog 73 #[P2 o l, .int .i64 n] w fun e w' => e = .returned (P2 (o + n) (bits .or .u32 (bits .andNot .u32 l 16383) c)) ∧ (((w.alloc (C2 (o + n) (bits .or .u32 (bits .andNot .u32 l 16383) c))).alloc (C2 (o + n) (bits .or .u32 (bits .andNot .u32 l 16383) c))).alloc (C2 o l)).alloc (C2 o l) = w' := by
  go_enter Try.func73, Try.ntmps73
  go_wp2
  refine bodyPost_ret (v := P2 (o + n) (bits .or .u32 (bits .andNot .u32 l 16383) c)) (by simp [results, Try.results73, go_sem]) rfl ⟨rfl, rfl⟩
theorem add_mid_low (o l n c : Int) (w : World) (o0 : 0 ≤ o) (o1 : o ≤ 4294967284) (h0 : 0 ≤ l) (h1 : l < 4294967296) (n0 : -1000 ≤ n) (n1 : n ≤ 1000) (l0 : (l != 0) = true) (hc : bits .and .u32 l 16383 = c) (c0 : 0 ≤ c) (c16 : c ≤ 16383) (ho : 0 ≤ o + n) (ho' : o + n ≤ 4294967284) (d : 0 < c) (d' : c + n < 1) :
    Calls Try.prog 73 #[P2 o l, .int .i64 n] w fun e w' => e = .returned (P2 (o + n) (bits .or .u32 (bits .andNot .u32 l 16383) 0)) ∧ (((w.alloc (C2 (o + n) (bits .or .u32 (bits .andNot .u32 l 16383) 0))).alloc (C2 (o + n) (bits .or .u32 (bits .andNot .u32 l 16383) 0))).alloc (C2 o l)).alloc (C2 o l) = w' := by
  go_enter Try.func73, Try.ntmps73
  go_wp2
  refine bodyPost_ret (v := P2 (o + n) (bits .or .u32 (bits .andNot .u32 l 16383) 0)) (by simp [results, Try.results73, go_sem]) rfl ⟨rfl, rfl⟩
theorem add_mid_high (o l n c : Int) (w : World) (o0 : 0 ≤ o) (o1 : o ≤ 4294967284) (h0 : 0 ≤ l) (h1 : l < 4294967296) (n0 : -1000 ≤ n) (n1 : n ≤ 1000) (l0 : (l != 0) = true) (hc : bits .and .u32 l 16383 = c) (c0 : 0 ≤ c) (c16 : c ≤ 16383) (ho : 0 ≤ o + n) (ho' : o + n ≤ 4294967284) (d : 0 < c) (d' : 1 ≤ c + n) (d'' : 16383 < c + n) :
    Calls Try.prog 73 #[P2 o l, .int .i64 n] w fun e w' => e = .returned (P2 (o + n) (bits .or .u32 (bits .andNot .u32 l 16383) 0)) ∧ (((w.alloc (C2 (o + n) (bits .or .u32 (bits .andNot .u32 l 16383) 0))).alloc (C2 (o + n) (bits .or .u32 (bits .andNot .u32 l 16383) 0))).alloc (C2 o l)).alloc (C2 o l) = w' := by
  go_enter Try.func73, Try.ntmps73
  go_wp2
  refine bodyPost_ret (v := P2 (o + n) (bits .or .u32 (bits .andNot .u32 l 16383) 0)) (by simp [results, Try.results73, go_sem]) rfl ⟨rfl, rfl⟩
theorem add_mid_in (o l n c : Int) (w : World) (o0 : 0 ≤ o) (o1 : o ≤ 4294967284) (h0 : 0 ≤ l) (h1 : l < 4294967296) (n0 : -1000 ≤ n) (n1 : n ≤ 1000) (l0 : (l != 0) = true) (hc : bits .and .u32 l 16383 = c) (c0 : 0 ≤ c) (c16 : c ≤ 16383) (ho : 0 ≤ o + n) (ho' : o + n ≤ 4294967284) (d : 0 < c) (d' : 1 ≤ c + n) (d'' : c + n ≤ 16383) :
    Calls Try.prog 73 #[P2 o l, .int .i64 n] w fun e w' => e = .returned (P2 (o + n) (bits .or .u32 (bits .andNot .u32 l 16383) (c + n))) ∧ (((w.alloc (C2 (o + n) (bits .or .u32 (bits .andNot .u32 l 16383) (c + n)))).alloc (C2 (o + n) (bits .or .u32 (bits .andNot .u32 l 16383) (c + n)))).alloc (C2 o l)).alloc (C2 o l) = w' := by
  go_enter Try.func73, Try.ntmps73
  go_wp2
  refine bodyPost_ret (v := P2 (o + n) (bits .or .u32 (bits .andNot .u32 l 16383) (c + n))) (by simp [results, Try.results73, go_sem]) rfl ⟨rfl, rfl⟩
theorem add_bad (o l n : Int) (w : World) (hv : validB o l = false) :
    Calls Try.prog 73 #[P2 o l, .int .i64 n] w fun e w' => e = .returned (P2 o l) ∧ ((w.alloc (C2 o l)).alloc (C2 o l)).alloc (C2 o l) = w' := by
  go_enter Try.func73, Try.ntmps73
  go_wp2_with (go_at_call 74; refine (valid_x _ _ _).mono ?_; rintro e w' ⟨rfl, rfl⟩)
  exact bodyPost_ret (v := P2 o l) (by simp [results, Try.results73, go_sem]) rfl ⟨rfl, rfl⟩

theorem add_ok (o l n : Int) (w : World) (hv : validB o l = true) (o0 : 0 ≤ o) (h0 : 0 ≤ l) (h1 : l < 4294967296) (n0 : -1000 ≤ n) (n1 : n ≤ 1000) :
    Calls Try.prog 73 #[P2 o l, .int .i64 n] w fun e w' => e = .returned (P2 (addO o l n) (addL o l n)) ∧ (((w.alloc (C2 (addO o l n) (addL o l n))).alloc (C2 (addO o l n) (addL o l n))).alloc (C2 o l)).alloc (C2 o l) = w' := by
  have hv' := hv
  simp only [validB, Bool.and_eq_true, decide_eq_true_eq] at hv'
  obtain ⟨o1, l0⟩ := hv'
  have hc : bits .and .u32 l 16383 = l % 16384 := by go_bits2
  have c0 : 0 ≤ l % 16384 := by omega
  have c16 : l % 16384 ≤ 16383 := by omega
  have key : ∀ q cc : Int, q = min (max (o + n) 0) 4294967284 → cc = colI l n → 0 ≤ cc → cc ≤ 16383 →
      q = addO o l n ∧ bits .or .u32 (bits .andNot .u32 l 16383) cc = addL o l n := fun q cc hq hcc k0 k1 => by
    rw [addO_t o l n q hv hq, addL_t o l n cc hv hcc, orL l cc h0 h1 k0 k1]; exact ⟨rfl, rfl⟩
  have colz : (l % 16384 ≤ 0 → l % 16384 = colI l n) ∧ (l % 16384 + n < 1 → 0 = colI l n) ∧ (16383 < l % 16384 + n → 0 = colI l n) ∧ (0 < l % 16384 → 1 ≤ l % 16384 + n → l % 16384 + n ≤ 16383 → l % 16384 + n = colI l n) := by
    unfold colI
    refine ⟨fun h => ?_, fun h => ?_, fun h => ?_, fun h k m => ?_⟩
    · rw [if_pos (by omega)]; omega
    · rw [if_pos (by omega)]
    · rw [if_pos (by omega)]
    · rw [if_neg (by omega)]
  obtain ⟨z1, z2, z3, z4⟩ := colz
  have go : ∀ q cc : Int, (Calls Try.prog 73 #[P2 o l, .int .i64 n] w fun e w' => e = .returned (P2 q (bits .or .u32 (bits .andNot .u32 l 16383) cc)) ∧ (((w.alloc (C2 q (bits .or .u32 (bits .andNot .u32 l 16383) cc))).alloc (C2 q (bits .or .u32 (bits .andNot .u32 l 16383) cc))).alloc (C2 o l)).alloc (C2 o l) = w') →
      q = min (max (o + n) 0) 4294967284 → cc = colI l n → 0 ≤ cc → cc ≤ 16383 →
      Calls Try.prog 73 #[P2 o l, .int .i64 n] w fun e w' => e = .returned (P2 (addO o l n) (addL o l n)) ∧ (((w.alloc (C2 (addO o l n) (addL o l n))).alloc (C2 (addO o l n) (addL o l n))).alloc (C2 o l)).alloc (C2 o l) = w' := fun q cc hC hq hcc k0 k1 => by
    rw [← (key q cc hq hcc k0 k1).1, ← (key q cc hq hcc k0 k1).2]; exact hC
  by_cases a1 : o + n < 0
  · by_cases d : l % 16384 ≤ 0
    · exact go _ _ (add_neg_zero o l n _ w o0 o1 h0 h1 n0 n1 l0 hc c0 c16 a1 d) (by omega) (z1 d) (by omega) (by omega)
    · by_cases d2 : l % 16384 + n < 1
      · exact go _ _ (add_neg_low o l n _ w o0 o1 h0 h1 n0 n1 l0 hc c0 c16 a1 (by omega) d2) (by omega) (z2 d2) (by omega) (by omega)
      · by_cases d3 : 16383 < l % 16384 + n
        · exact absurd a1 (by omega)
        · exact go _ _ (add_neg_in o l n _ w o0 o1 h0 h1 n0 n1 l0 hc c0 c16 a1 (by omega) (by omega) (by omega)) (by omega) (z4 (by omega) (by omega) (by omega)) (by omega) (by omega)
  · by_cases a2 : 4294967284 < o + n
    · by_cases d : l % 16384 ≤ 0
      · exact go _ _ (add_big_zero o l n _ w o0 o1 h0 h1 n0 n1 l0 hc c0 c16 a2 d) (by omega) (z1 d) (by omega) (by omega)
      · by_cases d2 : l % 16384 + n < 1
        · exact absurd a2 (by omega)
        · by_cases d3 : 16383 < l % 16384 + n
          · exact go _ _ (add_big_high o l n _ w o0 o1 h0 h1 n0 n1 l0 hc c0 c16 a2 (by omega) (by omega) d3) (by omega) (z3 d3) (by omega) (by omega)
          · exact go _ _ (add_big_in o l n _ w o0 o1 h0 h1 n0 n1 l0 hc c0 c16 a2 (by omega) (by omega) (by omega)) (by omega) (z4 (by omega) (by omega) (by omega)) (by omega) (by omega)
    · by_cases d : l % 16384 ≤ 0
      · exact go _ _ (add_mid_zero o l n _ w o0 o1 h0 h1 n0 n1 l0 hc c0 c16 (by omega) (by omega) d) (by omega) (z1 d) (by omega) (by omega)
      · by_cases d2 : l % 16384 + n < 1
        · exact go _ _ (add_mid_low o l n _ w o0 o1 h0 h1 n0 n1 l0 hc c0 c16 (by omega) (by omega) (by omega) d2) (by omega) (z2 d2) (by omega) (by omega)
        · by_cases d3 : 16383 < l % 16384 + n
          · exact go _ _ (add_mid_high o l n _ w o0 o1 h0 h1 n0 n1 l0 hc c0 c16 (by omega) (by omega) (by omega) (by omega) d3) (by omega) (z3 d3) (by omega) (by omega)
          · exact go _ _ (add_mid_in o l n _ w o0 o1 h0 h1 n0 n1 l0 hc c0 c16 (by omega) (by omega) (by omega) (by omega) (by omega)) (by omega) (z4 (by omega) (by omega) (by omega)) (by omega) (by omega)

theorem add_any (o l n : Int) (w : World) (o0 : 0 ≤ o) (h0 : 0 ≤ l) (h1 : l < 4294967296) (n0 : -1000 ≤ n) (n1 : n ≤ 1000) :
    Calls Try.prog 73 #[P2 o l, .int .i64 n] w fun e w' => e = .returned (P2 (addO o l n) (addL o l n)) ∧ Below w.heap.size w w' := by
  cases hv : validB o l
  · rw [(add_inv o l n hv).1, (add_inv o l n hv).2]
    exact (add_bad o l n w hv).mono fun _ _ h => ⟨h.1, h.2 ▸ balloc (balloc (balloc (Below.refl _ _) _) _) _⟩
  · exact (add_ok o l n w hv o0 h0 h1 n0 n1).mono fun _ _ h => ⟨h.1, h.2 ▸ balloc (balloc (balloc (balloc (Below.refl _ _) _) _) _) _⟩

theorem later {w : World} {p : Addr} {v : Value} (h : w.cell? p = some v) (o : Obj) : (w.alloc o).cell? p = some v :=
  (World.cell?_alloc_lt w o p (World.block_lt_of_cell? w _ h)).trans h
theorem blater {w w' : World} {p : Addr} {v : Value} (hb : Below w.heap.size w w') (h : w.cell? p = some v) : w'.cell? p = some v := (hb.cell (World.block_lt_of_cell? w _ h)).trans h
theorem gen {P : Program} {c : Code} {Q : Exit → Act → World → Prop} {a : Act} {W : World} (S : World → Prop) (h : S W) (k : ∀ W, S W → c.wp P Q a W) : c.wp P Q a W := k W h
def reachB (o l : Int) : Bool := decide (o ≤ 4294967284) || (o == 4294967285 && l == 0)
theorem addO_bd (o l n : Int) (o0 : 0 ≤ o) (o1 : o < 4294967296) : 0 ≤ addO o l n ∧ addO o l n < 4294967296 := by unfold addO; split <;> omega
theorem colI_bd (l n : Int) : 0 ≤ colI l n ∧ colI l n ≤ 16383 := by unfold colI; split <;> omega
theorem addL_bd (o l n : Int) (h0 : 0 ≤ l) (h1 : l < 4294967296) : 0 ≤ addL o l n ∧ addL o l n < 4294967296 := by
  have := colI_bd l n
  unfold addL; split <;> omega
end Go.Proofs.Ytjpodhmjmohblaa
