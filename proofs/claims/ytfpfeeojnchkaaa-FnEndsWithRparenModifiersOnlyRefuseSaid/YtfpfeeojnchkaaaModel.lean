/- The plain model of zzBuild, and what its stacks hold. -/
import Derived.Test.YtfpfeeojnchkaaaSays
namespace Go.Proofs.Ytfpfeeojnchkaaa
open Go.RowKit
set_option linter.unusedVariables false

abbrev E3 := Bool × Bool × Bool
def fl (k : Int) (x : Int) : Bool := bits .and .i64 (x / 6) k != 0
def flag (cl : Bool) (x : Int) : Bool := (fl 1 x && !cl) || (fl 2 x && !cl) || (fl 4 x && !cl) || (fl 8 x && !cl)
def lf (x : Int) : Bool := x % 6 == 0 || x % 6 == 1
def pick (s : List E3) (i : Nat) : E3 := s.getD i (false, false, false)
def mstep (cl mi : Bool) (s : List E3) (x : Int) : List E3 :=
  if x % 6 = 5 then
    if s.length < 2 then s
    else s.take (s.length - 2) ++ [((pick s (if mi then s.length - 1 else s.length - 2)).1, (pick s (if mi then s.length - 2 else s.length - 1)).2.1 && !flag cl x, flag cl x)]
  else s ++ [(lf x, lf x && !flag cl x, flag cl x)]
def mrun (cl mi : Bool) (zs : Nat → Int) : Nat → List E3
  | 0 => []
  | k + 1 => mstep cl mi (mrun cl mi zs k) (zs k)
theorem mstep_len (cl mi : Bool) (s : List E3) (x : Int) : (mstep cl mi s x).length ≤ s.length + 1 := by
  unfold mstep; split
  · split
    · omega
    · rw [List.length_append, List.length_take]; simp only [List.length_cons, List.length_nil]; omega
  · simp
theorem mrun_len (cl mi : Bool) (zs : Nat → Int) (k : Nat) : (mrun cl mi zs k).length ≤ k := by
  induction k with
  | zero => simp [mrun]
  | succ k ih => have := mstep_len cl mi (mrun cl mi zs k) (zs k); simp only [mrun]; omega
/-- each statement on the stack answers as the model says -/
def Trees (x : Option Nat) (w : World) (ps : List Nat) (s : List E3) : Prop := ∀ (i p : Nat) (e : E3), ps[i]? = some p → s[i]? = some e → Says 19 x w (SP p) e.1 ∧ Says 20 x w (SP p) e.2.1
theorem Trees.later {x : Option Nat} {w W : World} {ps : List Nat} {s : List E3} (h : Trees x w ps s) (k : Kp x w W) : Trees x W ps s := fun i p e h1 h2 => ⟨(h i p e h1 h2).1.later k, (h i p e h1 h2).2.later k⟩
theorem Trees.fence {w W : World} {ps : List Nat} {s : List E3} {p : Nat} (h : Trees none w ps s) (k : Kp none w W) (hp : w.heap.size ≤ p) : Trees (some p) W ps s := fun i q e h1 h2 => ⟨(h i q e h1 h2).1.fence k hp, (h i q e h1 h2).2.fence k hp⟩
theorem Trees.take_ {x : Option Nat} {w : World} {ps : List Nat} {s : List E3} (h : Trees x w ps s) (m : Nat) : Trees x w (ps.take m) (s.take m) := fun i p e h1 h2 => by
  by_cases hm : i < m
  · rw [List.getElem?_take_of_lt hm] at h1 h2
    exact h i p e h1 h2
  · rw [List.getElem?_eq_none (by rw [List.length_take]; omega)] at h1
    cases h1
def Sep (u v : Value) : Prop := ∀ g, u.ownBlock = some g → v.ownBlock = some g → False
theorem Sep.symm {u v : Value} (h : Sep u v) : Sep v u := fun g h1 h2 => h g h2 h1
theorem Sep.or {u v : Value} (h : Sep u v) : u.ownBlock = none ∨ u.ownBlock ≠ v.ownBlock := by
  cases hu : u.ownBlock with
  | none => exact .inl rfl
  | some g => exact .inr fun e => h g hu e.symm
theorem Sep.nil (v : Value) : Sep (.slice none 0 0) v := fun g h1 _ => by simp [Value.ownBlock] at h1
theorem Sep.grow {u v v1 : Value} {W : World} {base n : Nat} {e : TypeId} {xs : List Value} (h : Sep v u) (hat : v1.ownBlock = v.ownBlock ∨ v1.ownBlock = some W.heap.size) (hu : W.ownsRow base e 1 u n xs) : Sep v1 u := fun g h1 h2 => by
  rcases hat with hat | hat
  · exact h g (hat ▸ h1) h2
  · have := (hu.lt g h2).2
    rw [hat] at h1
    injection h1 with h1
    omega
theorem Sep.cut {g c n m : Nat} {v : Value} (h : Sep (.slice (some ⟨g, 0, none⟩) n c) v) : Sep (.slice (some ⟨g, 0, none⟩) m c) v := fun i h1 h2 => h i h1 h2
theorem own_keep {w w1 : World} {o : Obj} {base n : Nat} {e : TypeId} {v u : Value} {xs : List Value} (h : w.ownsRow base e 1 v n xs) (g : (w.alloc o).grownBy w1 u.ownBlock) (ha : Sep v u) : w1.ownsRow base e 1 v n xs := (h.alloc o).kept g ha.or
theorem own_below {w w' : World} {base n : Nat} {e : TypeId} {v : Value} {xs : List Value} (h : w.ownsRow base e 1 v n xs) (hb : Below w.heap.size w w') : w'.ownsRow base e 1 v n xs :=
  h.kept (row := none) ⟨hb.os, hb.tape, hb.output, hb.size, fun i hi _ => hb.block i hi⟩ (by cases v.ownBlock <;> simp)
theorem own_set {w : World} {base n p i : Nat} {e : TypeId} {v u : Value} {xs : List Value} {cs : Array Value} (h : w.ownsRow base e 1 v n xs) (hp : w.heap[p]? = some (.cells cs 41 (0, 0))) (he : e ≠ 41) : (w.setCell ⟨p, i, none⟩ u).ownsRow base e 1 v n xs := by
  refine h.kept (row := some p) ⟨rfl, rfl, rfl, by simp [World.setCell], fun j _ hne => Below.heap_setCell w _ u j (fun e => hne (by rw [e]))⟩ ?_
  rcases h.2 with ⟨rfl, _⟩ | ⟨g, cap, cur, rfl, _, hh, _⟩
  · exact .inl rfl
  · refine .inr fun e1 => ?_
    have : g = p := by simpa [Value.ownBlock] using e1
    subst this
    rw [hp] at hh
    injection hh with hh
    injection hh with _ ht
    exact he ht.symm
theorem own_take {w : World} {base g c n m : Nat} {e : TypeId} {xs : List Value} (h : w.ownsRow base e 1 (.slice (some ⟨g, 0, none⟩) n c) n xs) (hm : m ≤ n) : w.ownsRow base e 1 (.slice (some ⟨g, 0, none⟩) m c) m (xs.take m) := by
  obtain ⟨h1, h2⟩ := h
  rcases h2 with ⟨h0, _⟩ | ⟨g', cap', cur, hv, hg, hh, hn, hcap, hsz, htake⟩
  · cases h0
  · cases hv
    refine ⟨by rw [List.length_take]; omega, .inr ⟨g, c, cur, rfl, hg, hh, by omega, hcap, hsz, ?_⟩⟩
    have h3 : (cur.toList.take (n * 1)).take (m * 1) = xs.take (m * 1) := by rw [htake]
    rw [List.take_take, Nat.min_eq_left (by omega)] at h3
    rw [h3, Nat.mul_one]
/-- the four stacks -/
def Rows4 (B : Nat) (w : World) (st ms me mf : Value) (ps : List Nat) (s : List E3) : Prop :=
  w.ownsRow B 25 1 st s.length (ps.map PT) ∧ w.ownsRow B 4 1 ms s.length (s.map fun e => .bool e.1) ∧ w.ownsRow B 4 1 me s.length (s.map fun e => .bool e.2.1) ∧ w.ownsRow B 4 1 mf s.length (s.map fun e => .bool e.2.2) ∧
  ps.length = s.length ∧ Sep st ms ∧ Sep st me ∧ Sep st mf ∧ Sep ms me ∧ Sep ms mf ∧ Sep me mf
theorem Rows4.below {B : Nat} {w W : World} {st ms me mf : Value} {ps : List Nat} {s : List E3} (h : Rows4 B w st ms me mf ps s) (hb : Below w.heap.size w W) : Rows4 B W st ms me mf ps s := by
  obtain ⟨h1, h2, h3, h4, h5⟩ := h
  exact ⟨own_below h1 hb, own_below h2 hb, own_below h3 hb, own_below h4 hb, h5⟩
theorem Rows4.set_ {B p i : Nat} {w : World} {st ms me mf u : Value} {ps : List Nat} {s : List E3} {cs : Array Value} (h : Rows4 B w st ms me mf ps s) (hp : w.heap[p]? = some (.cells cs 41 (0, 0))) : Rows4 B (w.setCell ⟨p, i, none⟩ u) st ms me mf ps s := by
  obtain ⟨h1, h2, h3, h4, h5⟩ := h
  exact ⟨own_set h1 hp (by decide), own_set h2 hp (by decide), own_set h3 hp (by decide), own_set h4 hp (by decide), h5⟩
def Rel (B : Nat) (w0 : World) (s : List E3) (st ms me mf : Value) (w : World) : Prop := ∃ ps, Rows4 B w st ms me mf ps s ∧ Trees none w ps s ∧ Below B w0 w
def BuildPost (w : World) (s : List E3) (e : Ending) (w' : World) : Prop := Below w.heap.size w w' ∧ ((s = [] ∧ e = .returned (.tuple #[.pointer none, .bool false, .bool false, .bool false, .bool false])) ∨ ∃ s' x p, s = s' ++ [x] ∧ e = .returned (.tuple #[PT p, .bool x.1, .bool x.2.1, .bool x.2.2, .bool true]) ∧ Says 19 none w' (SP p) x.1 ∧ Says 20 none w' (SP p) x.2.1)
/-- in the middle of a round: the new statement p is made -/
def MidP (B : Nat) (w0 : World) (s1 : List E3) (fg ng bg cp ds : Bool) (n : Nat) (st ms me mf : Value) (ps : List Nat) (s : List E3) (p : Nat) (c : Value) (a b : Bool) (r : Option Addr) (w : World) : Prop :=
  Rows4 B w st ms me mf ps s ∧ Trees (some p) w ps s ∧ Below B w0 w ∧ B ≤ p ∧ w.heap[p]? = some (.cells (stmtC c ng bg cp ds (.slice r n n)) 41 (0, 0)) ∧
  Says 19 (some p) w c a ∧ Says 20 (some p) w c b ∧ s1 = s ++ [(a, b && !fg, fg)] ∧ s.length ≤ 4096
def Mid (B : Nat) (w0 : World) (s1 : List E3) (fg ng bg cp ds rd : Bool) (st ms me mf p4 a4 b4 : Value) (w : World) : Prop := ∃ (ps : List Nat) (s : List E3) (p : Nat) (c : Value) (a b : Bool) (r : Option Addr) (n : Nat),
  p4 = PT p ∧ a4 = .bool a ∧ b4 = .bool b ∧ decide (0 < n) = rd ∧ MidP B w0 s1 fg ng bg cp ds n st ms me mf ps s p c a b r w
theorem mid_new {B : Nat} {w0 wr w' : World} {s1 s : List E3} {ps : List Nat} {fg : Bool} {st ms me mf : Value} {p : Nat} {c : Value} {a b : Bool} (hr : Rows4 B wr st ms me mf ps s) (ht : Trees none wr ps s) (hb : Below B w0 wr) (hB : B ≤ wr.heap.size) (hn : New wr w' p c a b) (hs : s1 = s ++ [(a, b && !fg, fg)]) (hl : s.length ≤ 4096) :
    Mid B w0 s1 fg false false false false false st ms me mf (PT p) (.bool a) (.bool b) w' := by
  obtain ⟨h1, h2, h3, h4, h5⟩ := hn
  exact ⟨ps, s, p, c, a, b, none, 0, rfl, rfl, rfl, rfl, hr.below h1, ht.fence (Kp.below h1) h2, hb.trans (h1.mono hB), by omega, h3, h4, h5, hs, hl⟩
theorem midp_set {B : Nat} {w0 w : World} {s1 : List E3} {fg ng bg cp ds ng' bg' cp' ds' : Bool} {n n' : Nat} {st ms me mf : Value} {ps : List Nat} {s : List E3} {p : Nat} {c : Value} {a b : Bool} {r r' : Option Addr} {i : Nat} {u : Value} (h : MidP B w0 s1 fg ng bg cp ds n st ms me mf ps s p c a b r w) (hc : (stmtC c ng bg cp ds (.slice r n n)).setIfInBounds i u = stmtC c ng' bg' cp' ds' (.slice r' n' n')) :
    MidP B w0 s1 fg ng' bg' cp' ds' n' st ms me mf ps s p c a b r' (w.setCell ⟨p, i, none⟩ u) := by
  obtain ⟨h1, h2, h3, h4, h5, h6, h7, h8⟩ := h
  exact ⟨h1.set_ h5, h2.later (Kp.set_ p i u w), h3.setCell h4 u, h4, hc ▸ setB h5 i u, h6.later (Kp.set_ p i u w), h7.later (Kp.set_ p i u w), h8⟩
theorem midp_alloc {B : Nat} {w0 w : World} {s1 : List E3} {fg ng bg cp ds : Bool} {n : Nat} {st ms me mf : Value} {ps : List Nat} {s : List E3} {p : Nat} {c : Value} {a b : Bool} {r : Option Addr} (h : MidP B w0 s1 fg ng bg cp ds n st ms me mf ps s p c a b r w) (o : Obj) : MidP B w0 s1 fg ng bg cp ds n st ms me mf ps s p c a b r (w.alloc o) := by
  obtain ⟨h1, h2, h3, h4, h5, h6, h7, h8⟩ := h
  have hb := balloc (Below.refl w.heap.size w) o
  have hp := lt_of_heap h5
  exact ⟨h1.below hb, h2.later (Kp.below hb), h3.alloc (by omega) o, h4, (Below.heap_alloc w o p hp).trans h5, h6.later (Kp.below hb), h7.later (Kp.below hb), h8⟩
theorem own_form {w : World} {base n : Nat} {e : TypeId} {v : Value} {xs : List Value} (h : w.ownsRow base e 1 v n xs) : ∃ A c, v = .slice A n c := by
  rcases h.2 with ⟨rfl, rfl⟩ | ⟨g, cap, cur, rfl, _⟩
  · exact ⟨_, _, rfl⟩
  · exact ⟨_, _, rfl⟩
theorem own_some {w : World} {base n : Nat} {e : TypeId} {v : Value} {xs : List Value} (h : w.ownsRow base e 1 v n xs) (hn : 0 < n) : ∃ g c, v = .slice (some ⟨g, 0, none⟩) n c ∧ n ≤ c := by
  rcases h.2 with ⟨rfl, rfl⟩ | ⟨g, cap, cur, rfl, _, _, hc, _⟩
  · omega
  · exact ⟨_, _, rfl, hc⟩
/-- the last of the four appends is done: the round's end -/
theorem mid_done {B : Nat} {w0 w W : World} {s1 : List E3} {fg ng bg cp ds rd : Bool} {n : Nat} {st ms me mf st' ms' me' mf' : Value} {ps : List Nat} {s : List E3} {p : Nat} {c : Value} {a b : Bool} {r : Option Addr} (h : MidP B w0 s1 fg ng bg cp ds n st ms me mf ps s p c a b r w) (hf : fg = (bg || cp || ds || decide (0 < n))) (hK : Kp none w W) (hB : Below B w0 W)
    (o1 : W.ownsRow B 25 1 st' (s.length + 1) (ps.map PT ++ [PT p])) (o2 : W.ownsRow B 4 1 ms' (s.length + 1) (s.map (fun e => Value.bool e.1) ++ [.bool a])) (o3 : W.ownsRow B 4 1 me' (s.length + 1) (s.map (fun e => Value.bool e.2.1) ++ [.bool (b && !fg)])) (o4 : W.ownsRow B 4 1 mf' (s.length + 1) (s.map (fun e => Value.bool e.2.2) ++ [.bool fg]))
    (q1 : Sep st' ms') (q2 : Sep st' me') (q3 : Sep st' mf') (q4 : Sep ms' me') (q5 : Sep ms' mf') (q6 : Sep me' mf') : Rel B w0 s1 st' ms' me' mf' W := by
  obtain ⟨⟨_, _, _, _, hl, _⟩, h2, _, _, h5, h6, h7, rfl, _⟩ := h
  refine ⟨ps ++ [p], ⟨by simpa using o1, by simpa using o2, by simpa using o3, by simpa using o4, by simp [hl], q1, q2, q3, q4, q5, q6⟩, ?_, hB⟩
  intro i q e h1 h3
  by_cases hi : i < s.length
  · rw [List.getElem?_append_left (by omega)] at h1 h3
    have := h2 i q e h1 h3
    have hk : ∀ (f : FuncId) (v : Bool), Says f (some p) w (SP q) v → Says f none W (SP q) v := fun f v hs V hV => hs V (Kp.weak (hK.trans hV))
    exact ⟨hk _ _ this.1, hk _ _ this.2⟩
  · have hi' : i = s.length := by
      rcases Nat.lt_or_ge i (s.length + 1) with h | h
      · omega
      · rw [List.getElem?_eq_none (by simp; omega)] at h3; cases h3
    subst hi'
    rw [List.getElem?_append_right (by omega)] at h1 h3
    simp only [hl, Nat.sub_self, List.getElem?_cons_zero, Option.some.injEq] at h1 h3
    subst h1 h3
    refine ⟨(says_st h5 h6).later hK, ?_⟩
    have := (says_en h5 h7).later hK
    rw [← hf] at this
    exact this
end Go.Proofs.Ytfpfeeojnchkaaa
