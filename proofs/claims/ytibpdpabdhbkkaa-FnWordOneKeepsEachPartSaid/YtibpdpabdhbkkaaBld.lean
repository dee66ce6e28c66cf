/- The invariant of the run of wordOne calls: each word holds its own literal. -/
import Derived.Test.YtibpdpabdhbkkaaWordK
namespace Go.Proofs.Ytibpdpabdhbkkaa
open Go.RowKit
set_option linter.unusedVariables false
theorem bel_trans {a b c : World} (h : Below a.heap.size a b) (k : Below b.heap.size b c) : Below a.heap.size a c := h.trans (k.mono h.size)
theorem cell_kept {w w' : World} {b i : Nat} {v : Value} (h : w.cell? ⟨b, i, none⟩ = some v) (k : w'.heap[b]? = w.heap[b]?) : w'.cell? ⟨b, i, none⟩ = some v := by rw [← h]; simp only [World.cell?, k]
/-- the cells of literal and word number i -/
structure Own (D G J : Nat) (s : ByteArray) (cs ds : Array Value) (i : Nat) (w : World) : Prop where
  own : ∃ l g j, cs[i]? = some (PT l) ∧ ds[i]? = some (.pointer (some ⟨g, 2 * j, none⟩)) ∧ w.cell? ⟨l, 4, none⟩ = some (.string s) ∧
    w.cell? ⟨g, 2 * j, none⟩ = some (.slice (some ⟨g, 2 * j + 1, none⟩) 1 1) ∧ w.cell? ⟨g, 2 * j + 1, none⟩ = some (.iface 28 (PT l)) ∧ D < l ∧ D < g ∧ l ≠ G ∧ (g = G → j < J)
structure Bld (B C p L n : Nat) (z : Nat → ByteArray) (k : Nat) (w : World) : Prop where
  ord : B ≤ C ∧ C < p ∧ p < L
  val : ∀ i, i < n → w.cell? ⟨C, i, none⟩ = some (.string (z i))
  own : ∃ cs ds G J, w.heap[L]? = some (.cells cs 28 (0, 0)) ∧ cs.size = n ∧ w.heap[L + 1]? = some (.cells ds 34 (0, 0)) ∧ ds.size = n ∧ Bat p G J w ∧ L + 1 < G ∧ ∀ i, i < k → Own (L + 1) G J (z i) cs ds i w
theorem Bld.drewN {B C p L n : Nat} {z : Nat → ByteArray} {k : Nat} {w : World} (h : Bld B C p L n z k w) (m : Nat) : Bld B C p L n z k (w.drewN m) := by
  obtain ⟨ho, hv, cs, ds, G, J, h1, h2, h3, h4, ⟨b1, b2, b3, b4⟩, h6, h7⟩ := h
  exact ⟨ho, hv, cs, ds, G, J, h1, h2, h3, h4, ⟨b1, b2, b3, b4⟩, h6, fun i hi => ⟨(h7 i hi).own⟩⟩
abbrev litB (s : ByteArray) : Obj := .cells #[.int .u32 0, .int .u32 0, .int .u32 0, .int .u32 0, .string s] 33
/-- the literal of the round has been made and stored -/
def Mid (B C p L n : Nat) (z : Nat → ByteArray) (k l : Nat) (w : World) : Prop :=
  (B ≤ C ∧ C < p ∧ p < L) ∧ (∀ i, i < n → w.cell? ⟨C, i, none⟩ = some (.string (z i))) ∧ L + 1 < l ∧ w.heap[l]? = some (litB (z k)) ∧
  ∃ cs ds G J, w.heap[L]? = some (.cells cs 28 (0, 0)) ∧ cs.size = n ∧ cs[k]? = some (PT l) ∧ w.heap[L + 1]? = some (.cells ds 34 (0, 0)) ∧ ds.size = n ∧ Bat p G J w ∧ L + 1 < G ∧ (J < 32 → l ≠ G) ∧ l + 1 = w.heap.size ∧ ∀ i, i < k → Own (L + 1) G J (z i) cs ds i w
theorem Bat.keep {p G J : Nat} {w W : World} (h : Bat p G J w) (h1 : W.heap[p]? = w.heap[p]?) (h2 : W.heap[G]? = w.heap[G]? ∨ 32 ≤ J) : Bat p G J W := by
  obtain ⟨a, b, ⟨cs, hp, h3⟩, h4⟩ := h
  refine ⟨a, b, ⟨cs, h1.trans hp, h3⟩, fun hj => ?_⟩
  obtain ⟨ds, hg, hd⟩ := h4 hj
  rcases h2 with h2 | h2
  · exact ⟨ds, h2.trans hg, hd⟩
  · omega
theorem Bat.plt {p G J : Nat} {w : World} (h : Bat p G J w) : p < w.heap.size := by obtain ⟨a, b, ⟨cs, hp, h3⟩, h4⟩ := h; exact lt_of_heap hp
theorem lt_of_cell {w : World} {b i : Nat} {v : Value} (h : w.cell? ⟨b, i, none⟩ = some v) : b < w.heap.size := World.block_lt_of_cell? w _ h
/-- the store of the new literal -/
theorem Bld.lit {B C p L n : Nat} {z : Nat → ByteArray} {k : Nat} {w : World} (h : Bld B C p L n z k w) (hk : k < n) :
    (∃ u, (w.alloc (litB (z k))).cell? ⟨L, k, none⟩ = some u) ∧ (w.alloc (litB (z k))).frozen? ⟨L, k, none⟩ = false ∧ Mid B C p L n z k w.heap.size ((w.alloc (litB (z k))).setCell ⟨L, k, none⟩ (PT w.heap.size)) := by
  obtain ⟨ho, hv, cs, ds, G, J, hL, hcs, hD, hds, hb, hG, hown⟩ := h
  have lL := lt_of_heap hL
  have lD := lt_of_heap hD
  have lp := hb.plt
  have aL := (Below.heap_alloc w (litB (z k)) L lL).trans hL
  have hset := setB aL k (PT w.heap.size)
  have keep : ∀ q, q < w.heap.size → q ≠ L → ((w.alloc (litB (z k))).setCell ⟨L, k, none⟩ (PT w.heap.size)).heap[q]? = w.heap[q]? := fun q h1 h2 =>
    (Below.heap_setCell _ _ _ q h2).trans (Below.heap_alloc w (litB (z k)) q h1)
  refine ⟨⟨_, (cellB aL k).trans (Array.getElem?_eq_getElem (by omega))⟩, frozenB aL k, ho, fun i hi => ?_, by omega, ?_, _, ds, G, J, hset, by simpa using hcs, ?_, (keep _ lD (by omega)).trans hD, hds, ?_, hG, ?_, by simp [World.setCell], fun i hi => ?_⟩
  · exact cell_kept (hv i hi) (keep _ (lt_of_cell (hv i hi)) (by omega))
  · exact (Below.heap_setCell _ _ _ _ (by show w.heap.size ≠ L; omega)).trans (heap_alloc_new w _)
  · rw [Array.getElem?_setIfInBounds_self_of_lt (by omega)]
  · refine hb.keep (keep _ lp (by omega)) ?_
    by_cases hj : J < 32
    · obtain ⟨es, hg, _⟩ := hb.bat hj
      exact .inl (keep _ (lt_of_heap hg) (by omega))
    · exact .inr (by omega)
  · intro hj
    obtain ⟨es, hg, _⟩ := hb.bat hj
    have := lt_of_heap hg
    omega
  · obtain ⟨l, g, j, e1, e2, e3, e4, e5, e6, e7, e8, e9⟩ := (hown i hi).own
    refine ⟨l, g, j, ?_, e2, cell_kept e3 (keep _ (lt_of_cell e3) (by omega)), cell_kept e4 (keep _ (lt_of_cell e4) (by omega)), cell_kept e5 (keep _ (lt_of_cell e5) (by omega)), e6, e7, e8, e9⟩
    rw [Array.getElem?_setIfInBounds_ne (by omega)]
    exact e1
/-- the call of wordOne -/
theorem Mid.one {B C p L n : Nat} {z : Nat → ByteArray} {k l : Nat} {w : World} (h : Mid B C p L n z k l w) (hk : k < n) :
    w.cell? ⟨L, k, none⟩ = some (PT l) ∧ Calls Try.prog 7 #[PT p, PT l] w fun e w' => ∃ g j, e = .returned (.pointer (some ⟨g, 2 * j, none⟩)) ∧ (∃ u, w'.cell? ⟨L + 1, k, none⟩ = some u) ∧ w'.frozen? ⟨L + 1, k, none⟩ = false ∧ Bld B C p L n z (k + 1) (w'.setCell ⟨L + 1, k, none⟩ (.pointer (some ⟨g, 2 * j, none⟩))) ∧ Below B w w' := by
  obtain ⟨ho, hv, hl, hlit, cs, ds, G, J, hL, hcs, hk2, hD, hds, hb, hG, hlG, hsz, hown⟩ := h
  refine ⟨(cellB hL k).trans hk2, (Proofs.Ytibpdpabdhbkkaa.one p G J l w hb).mono ?_⟩
  rintro e w' ⟨G', j, rfl, hj, hw, hb', q1, q2, kc, hs, kb, bel⟩
  have hG' : L + 1 < G' := by
    rcases hw with ⟨rfl, -, -⟩ | ⟨rfl, -, -⟩
    · exact hG
    · have := lt_of_heap hD; omega
  have hlG' : l ≠ G' := by
    rcases hw with ⟨rfl, -, h⟩ | ⟨rfl, -, -⟩
    · exact hlG h
    · omega
  have kL := kb _ _ hL (by omega) (by omega)
  have kD := kb _ _ hD (by omega) (by omega)
  have setD := setB kD k (.pointer (some ⟨G', 2 * j, none⟩))
  have keep : ∀ q i v, w'.cell? ⟨q, i, none⟩ = some v → q ≠ L + 1 → (w'.setCell ⟨L + 1, k, none⟩ (.pointer (some ⟨G', 2 * j, none⟩))).cell? ⟨q, i, none⟩ = some v := fun q i v h1 h2 => cell_kept h1 (Below.heap_setCell _ _ _ q h2)
  refine ⟨G', j, rfl, ⟨_, (cellB kD k).trans (Array.getElem?_eq_getElem (by omega))⟩, frozenB kD k, ⟨ho, fun i hi => keep _ _ _ (kc _ _ _ (hv i hi) (by omega) (fun e => by omega)) (by omega), _, _, G', j + 1, farB kL (by omega), hcs, setD, by simpa using hds, ?_, hG', fun i hi => ?_⟩, bel B (by omega) (by omega)⟩
  · refine hb'.keep (Below.heap_setCell _ _ _ _ (by simp; omega)) (.inl (Below.heap_setCell _ _ _ _ (by simp; omega)))
  · by_cases hik : i = k
    · subst hik
      exact ⟨l, G', j, hk2, by rw [Array.getElem?_setIfInBounds_self_of_lt (by omega)], keep _ _ _ (kc _ _ _ ((cellB hlit 4).trans rfl) (by omega) (fun e => absurd e hlG')) (by omega), keep _ _ _ q1 (by omega), keep _ _ _ q2 (by omega), hl, hG', hlG', fun _ => by omega⟩
    · obtain ⟨l2, g, j2, e1, e2, e3, e4, e5, e6, e7, e8, e9⟩ := (hown i (by omega)).own
      have a3 := lt_of_cell e3
      have a4 := lt_of_cell e4
      have n3 : l2 ≠ G' := by
        rcases hw with ⟨rfl, -, -⟩ | ⟨rfl, -, -⟩
        · exact e8
        · omega
      have n4 : g = G' → j2 < j := by
        rcases hw with ⟨rfl, rfl, -⟩ | ⟨rfl, -, -⟩
        · exact e9
        · intro e; omega
      refine ⟨l2, g, j2, e1, ?_, keep _ _ _ (kc _ _ _ e3 (by omega) (fun e => absurd e n3)) (by omega), keep _ _ _ (kc _ _ _ e4 (by omega) (fun e => by have := n4 e; omega)) (by omega), keep _ _ _ (kc _ _ _ e5 (by omega) (fun e => by have := n4 e; omega)) (by omega), e6, e7, n3, fun e => by have := n4 e; omega⟩
      rw [Array.getElem?_setIfInBounds_ne (by omega)]
      exact e2
end Go.Proofs.Ytibpdpabdhbkkaa
