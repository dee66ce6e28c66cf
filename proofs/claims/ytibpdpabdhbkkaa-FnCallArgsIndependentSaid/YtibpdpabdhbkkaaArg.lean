/- The argument list of a call: append in place, append into a new array. -/
import Derived.Test.YtibpdpabdhbkkaaWordK
import Derived.ArgAppend
namespace Go.Proofs.Ytibpdpabdhbkkaa
open Go.RowKit
set_option linter.unusedVariables false
/-- the Args of the call at block c: n words, the list vs; their array lies off block d, and off the cell that holds the slice -/
structure Arg (c d : Nat) (n : Nat) (vs : List Value) (b off cap : Nat) (w : World) : Prop where
  hd : w.cell? ⟨c, 1, none⟩ = some (.slice (some ⟨b, off, none⟩) n cap)
  fz : w.frozen? ⟨c, 1, none⟩ = false
  le : n ≤ cap
  len : vs.length = n
  cells : ∀ j u, vs[j]? = some u → w.cell? ⟨b, off + j, none⟩ = some u
  spare : ∀ j, n ≤ j → j < cap → (w.cell? ⟨b, off + j, none⟩).isSome = true ∧ w.frozen? ⟨b, off + j, none⟩ = false
  apart : (b = c → 2 ≤ off) ∧ b ≠ d
theorem frozen_setCell {w : World} {a p : Addr} {u : Value} : (w.setCell a u).frozen? p = w.frozen? p := by simp
theorem Arg.room {c d n b off cap : Nat} {vs : List Value} {w : World} (h : Arg c d n vs b off cap w) (hr : n + 1 ≤ cap) (v : Value) :
    Arg c d (n + 1) (vs ++ [v]) b off cap ((w.setCell ⟨b, off + n, none⟩ v).setCell ⟨c, 1, none⟩ (.slice (some ⟨b, off, none⟩) (n + 1) cap)) := by
  obtain ⟨h1, h2, h3, h4, h5, h6, h7, h8⟩ := h
  have hx : ∀ j, (⟨b, off + j, none⟩ : Addr) ≠ ⟨c, 1, none⟩ := fun j e => by simp only [Addr.mk.injEq] at e; have := h7 e.1; omega
  obtain ⟨u0, hu0⟩ := Option.isSome_iff_exists.1 (h6 n (Nat.le_refl _) (by omega)).1
  have hc1 : (w.setCell ⟨b, off + n, none⟩ v).cell? ⟨c, 1, none⟩ = some (.slice (some ⟨b, off, none⟩) n cap) := by
    rw [World.cell?_setCell_other _ _ _ _ (hx n)]; exact h1
  refine ⟨World.cell?_setCell_same _ _ _ hc1, by simpa using h2, hr, by simp [h4], fun j u hu => ?_, fun j hj hc => ?_, h7, h8⟩
  · rw [World.cell?_setCell_other _ _ _ _ (Ne.symm (hx j))]
    by_cases hj : j < n
    · rw [World.cell?_setCell_other _ _ _ _ (fun e => by simp only [Addr.mk.injEq] at e; omega)]
      rw [List.getElem?_append_left (by omega)] at hu
      exact h5 j u hu
    · have hjn : j = n := by
        rcases Nat.lt_or_ge j (n + 1) with h | h
        · omega
        · rw [List.getElem?_eq_none (by simp [h4]; omega)] at hu; cases hu
      subst hjn
      rw [List.getElem?_append_right (by omega), h4] at hu
      simp at hu
      subst hu
      exact World.cell?_setCell_same _ _ _ hu0
  · rw [World.cell?_setCell_other _ _ _ _ (Ne.symm (hx j)), World.cell?_setCell_other _ _ _ _ (fun e => by simp only [Addr.mk.injEq] at e; omega)]
    exact ⟨(h6 j (by omega) hc).1, by simpa using (h6 j (by omega) hc).2⟩
theorem Arg.alloc {c d n b off cap : Nat} {vs : List Value} {w : World} (h : Arg c d n vs b off cap w) (hr : n ≤ cap) (o : Obj) (hb : b < w.heap.size) : Arg c d n vs b off cap (w.alloc o) := by
  obtain ⟨h1, h2, h3, h4, h5, h6, h7, h8⟩ := h
  have hc := World.block_lt_of_cell? w _ h1
  have hz : ∀ k i, k < w.heap.size → (w.alloc o).frozen? ⟨k, i, none⟩ = w.frozen? ⟨k, i, none⟩ := fun k i hk => by simp only [World.frozen?]; rw [Below.heap_alloc w o k hk]
  refine ⟨(World.cell?_alloc_lt _ _ _ hc).trans h1, (hz _ _ hc).trans h2, h3, h4, fun j u hu => (World.cell?_alloc_lt _ _ _ hb).trans (h5 j u hu), fun j h9 h10 => ?_, h7, h8⟩
  rw [World.cell?_alloc_lt _ _ _ hb, hz _ _ hb]
  exact h6 j h9 h10
theorem Arg.grow {c d n b off cap : Nat} {vs : List Value} {w w' : World} {v v' : Value} {e : TypeId} (h : Arg c d n vs b off cap w) (hd : d < w.heap.size) (ho : w'.ownsRow w.heap.size e 1 v' (n + 1) (vs ++ [v])) (hg : w.grownBy w' none) :
    ∃ b' cap', b' < w'.heap.size ∧ Arg c d (n + 1) (vs ++ [v]) b' 0 cap' (w'.setCell ⟨c, 1, none⟩ v') := by
  obtain ⟨h1, h2, h3, h4, h5, h6, h7, h8⟩ := h
  obtain ⟨hl, ⟨_, h0⟩ | ⟨g, cp, cur, rfl, hb, hgg, hn, hm, hsz, htk⟩⟩ := ho
  · omega
  have hc := World.block_lt_of_cell? w _ h1
  replace hc : c < w.heap.size := hc
  have hcb : w'.heap[c]? = w.heap[c]? := hg.block c hc (by simp)
  have hx : ∀ j, (⟨g, j, none⟩ : Addr) ≠ ⟨c, 1, none⟩ := fun j e => by simp only [Addr.mk.injEq] at e; omega
  have hw1 : w'.cell? ⟨c, 1, none⟩ = some (.slice (some ⟨b, off, none⟩) n cap) := by rw [← h1]; simp only [World.cell?, hcb]
  have hz1 : w'.frozen? ⟨c, 1, none⟩ = false := by rw [← h2]; simp only [World.frozen?, hcb]
  refine ⟨g, cp, lt_of_heap hgg, World.cell?_setCell_same _ _ _ hw1, by simpa using hz1, hn, by simp [h4], fun j u hu => ?_, fun j hj hc => ?_, fun e => by omega, by omega⟩
  · rw [World.cell?_setCell_other _ _ _ _ (Ne.symm (hx _)), cellB hgg, ← Array.getElem?_toList]
    rw [← htk, List.getElem?_take] at hu
    split at hu
    · simpa using hu
    · cases hu
  · rw [World.cell?_setCell_other _ _ _ _ (Ne.symm (hx _)), cellB hgg, Array.getElem?_eq_getElem (by omega)]
    exact ⟨rfl, by simpa using frozenB hgg (0 + j)⟩
end Go.Proofs.Ytibpdpabdhbkkaa
