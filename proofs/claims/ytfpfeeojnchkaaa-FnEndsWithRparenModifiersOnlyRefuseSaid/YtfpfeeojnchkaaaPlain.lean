/- The plain laws of zzBuild's model: the mirror, and what modifiers do. -/
import Derived.Test.YtfpfeeojnchkaaaModel
namespace Go.Proofs.Ytfpfeeojnchkaaa
set_option linter.unusedVariables false

theorem flag_true (x : Int) : flag true x = false := by unfold flag; simp
/-- start and end swapped -/
def sw (e : E3) : E3 := (e.2.1, e.1, e.2.2)
theorem pick_map (f : E3 → E3) (hf : f (false, false, false) = (false, false, false)) (s : List E3) (i : Nat) : pick (s.map f) i = f (pick s i) := by
  unfold pick
  rw [List.getD_eq_getElem?_getD, List.getD_eq_getElem?_getD, List.getElem?_map]
  cases s[i]? with
  | none => exact hf.symm
  | some e => rfl
theorem mirror_step (s : List E3) (x : Int) : mstep true true (s.map sw) x = (mstep true false s x).map sw := by
  unfold mstep
  rw [flag_true]
  split
  · rw [List.length_map]
    split
    · rfl
    · rw [List.map_append, List.map_take, pick_map sw rfl, pick_map sw rfl]
      simp [sw]
  · simp [sw]
theorem mirror (zs : Nat → Int) (k : Nat) : mrun true true zs k = (mrun true false zs k).map sw := by
  induction k with
  | zero => rfl
  | succ k ih => rw [mrun, mrun, ih, mirror_step]
/-- the same shape, and an end that is true stays true when the modifiers are dropped -/
def le (a b : E3) : Prop := (a.2.1 = true → b.2.1 = true)
def Leq (s u : List E3) : Prop := s.length = u.length ∧ ∀ i, le (pick s i) (pick u i)
theorem pick_take (s : List E3) (m i : Nat) : pick (s.take m) i = if i < m then pick s i else (false, false, false) := by
  unfold pick
  rw [List.getD_eq_getElem?_getD, List.getD_eq_getElem?_getD]
  split
  · rw [List.getElem?_take_of_lt (by assumption)]
  · rw [List.getElem?_eq_none (by rw [List.length_take]; omega)]; rfl
theorem pick_snoc (s : List E3) (e : E3) (i : Nat) : pick (s ++ [e]) i = if i < s.length then pick s i else if i = s.length then e else (false, false, false) := by
  unfold pick
  rw [List.getD_eq_getElem?_getD, List.getD_eq_getElem?_getD]
  split
  · rw [List.getElem?_append_left (by assumption)]
  · split
    · next h => rw [List.getElem?_append_right (by omega), h]; simp
    · rw [List.getElem?_eq_none (by simp; omega)]; rfl
theorem Leq.snoc {s u : List E3} {a b : E3} (h : Leq s u) (hab : le a b) : Leq (s ++ [a]) (u ++ [b]) := by
  refine ⟨by simp [h.1], fun i => ?_⟩
  rw [pick_snoc, pick_snoc, ← h.1]
  split
  · exact h.2 i
  · split
    · exact hab
    · exact id
theorem Leq.take_ {s u : List E3} (h : Leq s u) (m : Nat) : Leq (s.take m) (u.take m) := by
  refine ⟨by rw [List.length_take, List.length_take, h.1], fun i => ?_⟩
  rw [pick_take, pick_take]
  split
  · exact h.2 i
  · exact id
theorem leq_step {s u : List E3} (h : Leq s u) (x : Int) : Leq (mstep false false s x) (mstep true false u x) := by
  unfold mstep
  rw [flag_true]
  split
  · rw [← h.1]
    split
    · exact h
    · refine (h.take_ _).snoc ?_
      intro hh
      simp only [Bool.and_eq_true] at hh
      have := h.2 (s.length - 1) hh.1
      simpa using this
  · refine h.snoc ?_
    intro hh
    simp only [Bool.and_eq_true] at hh
    simpa using hh.1
theorem leq_run (zs : Nat → Int) (k : Nat) : Leq (mrun false false zs k) (mrun true false zs k) := by
  induction k with
  | zero => exact ⟨rfl, fun i => id⟩
  | succ k ih => exact leq_step ih (zs k)
/-- where the top bears a modifier its end is false -/
theorem top_flag (cl mi : Bool) (zs : Nat → Int) (k : Nat) : ∀ e ∈ mrun cl mi zs k, e.2.2 = true → e.2.1 = false := by
  induction k with
  | zero => intro e h; simp [mrun] at h
  | succ k ih =>
    intro e h
    rw [mrun] at h
    unfold mstep at h
    split at h
    · split at h
      · exact ih e h
      · rw [List.mem_append] at h
        rcases h with h | h
        · exact ih e (List.mem_of_mem_take h)
        · simp only [List.mem_singleton] at h; subst h; intro hf; simp only at hf ⊢; rw [hf]; simp
    · rw [List.mem_append] at h
      rcases h with h | h
      · exact ih e h
      · simp only [List.mem_singleton] at h; subst h; intro hf; simp only at hf ⊢; rw [hf]; simp
theorem leq_last {s u s' u' : List E3} {a b : E3} (h : Leq s u) (hs : s = s' ++ [a]) (hu : u = u' ++ [b]) : le a b := by
  subst hs hu
  have hl : s'.length = u'.length := by have := h.1; simp at this; exact this
  have := h.2 s'.length
  rw [pick_snoc, pick_snoc, if_neg (by omega), if_pos rfl, hl, if_neg (by omega), if_pos rfl] at this
  exact this
end Go.Proofs.Ytfpfeeojnchkaaa
