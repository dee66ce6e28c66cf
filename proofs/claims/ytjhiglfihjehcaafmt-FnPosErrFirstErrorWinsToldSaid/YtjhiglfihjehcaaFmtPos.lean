/- posErr: the first error, and every later one. -/
import Derived.Test.YtjhiglfihjehcaaFmtPz
namespace Go.Proofs.YtjhiglfihjehcaaFmt
open Go.RowKit Go.Extern.Stop Go.Stop Go.Extern
set_option linter.unusedVariables false
theorem cell_alloc {w : World} {o : Obj} {b i : Nat} {v : Value} (h : w.cell? ⟨b, i, none⟩ = some v) : (w.alloc o).cell? ⟨b, i, none⟩ = some v := (World.cell?_alloc_lt _ _ _ (lt_of_cell h)).trans h
theorem Pz.drew {p f : Nat} {name : ByteArray} {tok on : Int} {lit : Value} {ba : Option Addr} {bl bc : Nat} {er bsp r ww : Value} {w : World} (h : Pz p f name tok on lit ba bl bc er bsp r ww w) : Pz p f name tok on lit ba bl bc er bsp r ww w.drew := by
  obtain ⟨⟨cs, h1, h2⟩, h3, h4⟩ := h
  exact ⟨⟨cs, h1, h2⟩, h3, h4⟩
theorem Pz.f {p f : Nat} {name : ByteArray} {tok on : Int} {lit : Value} {ba : Option Addr} {bl bc : Nat} {er bsp r ww : Value} {w : World} (h : Pz p f name tok on lit ba bl bc er bsp r ww w) : w.cell? ⟨p, 5, none⟩ = some (.pointer (some ⟨f, 0, none⟩)) := by
  obtain ⟨⟨cs, g, _, _, _, _, g5, _⟩, _, _⟩ := h; exact (cellB g 5).trans g5
def Sx (p f : Nat) (name : ByteArray) (b : Nat) (o l : Int) (w : World) : Prop := w.cell? ⟨p, 5, none⟩ = some (.pointer (some ⟨f, 0, none⟩)) ∧ w.cell? ⟨f, 0, none⟩ = some (.string name) ∧ w.cell? ⟨b, 0, none⟩ = some (.int .u32 o) ∧ w.cell? ⟨b, 1, none⟩ = some (.int .u32 l)
theorem keepS {p f : Nat} {name : ByteArray} {tok on : Int} {lit : Value} {ba : Option Addr} {bl bc : Nat} {er bsp r ww : Value} {o l : Int} {w w2 : World} (hz : Pz p f name tok on lit ba bl bc er bsp r ww w2) (hq : ∀ q, q ≠ p → w2.heap[q]? = (w.alloc (.cells #[.int .u32 o, .int .u32 l] 31)).drew.drew.heap[q]?) (hpl : p < w.heap.size) : Sx p f name w.heap.size o l w2 := by
  have hb : w2.heap[w.heap.size]? = some (.cells #[.int .u32 o, .int .u32 l] 31 (0, 0)) := (hq _ (by omega)).trans (heap_alloc_new w _)
  exact ⟨hz.f, hz.nm, (cellB hb 0).trans rfl, (cellB hb 1).trans rfl⟩
theorem Pz.tok {p f : Nat} {name : ByteArray} {tok on : Int} {lit : Value} {ba : Option Addr} {bl bc : Nat} {er bsp r ww : Value} {w : World} (h : Pz p f name tok on lit ba bl bc er bsp r ww w) : w.cell? ⟨p, 10, none⟩ = some (.int .u32 tok) := by
  obtain ⟨⟨cs, g, _, _, _, _, _, _, g10, _⟩, _, _⟩ := h; exact (cellB g 10).trans g10
theorem keepS5 {p f : Nat} {name : ByteArray} {on : Int} {lit : Value} {ba : Option Addr} {bl bc : Nat} {er bsp r ww : Value} {o l : Int} {w w2 : World} (hz : Pz p f name 1 on lit ba bl bc er bsp r ww w2) (hq : ∀ q, q ≠ p → w2.heap[q]? = (w.alloc (.cells #[.int .u32 o, .int .u32 l] 31)).drew.drew.heap[q]?) (hpl : p < w.heap.size) :
    w2.cell? ⟨p, 5, none⟩ = some (.pointer (some ⟨f, 0, none⟩)) ∧ w2.cell? ⟨f, 0, none⟩ = some (.string name) ∧ w2.cell? ⟨w.heap.size, 0, none⟩ = some (.int .u32 o) ∧ w2.cell? ⟨w.heap.size, 1, none⟩ = some (.int .u32 l) ∧ w2.cell? ⟨p, 10, none⟩ = some (.int .u32 1) := by
  obtain ⟨a, b, c, d⟩ := keepS hz hq hpl
  exact ⟨a, b, c, d, hz.tok⟩
set_option maxHeartbeats 2000000 in
theorem pos_first (p f : Nat) (name : ByteArray) (tok on : Int) (la : Option Addr) (ll lc : Nat) (ba : Option Addr) (bl bc : Nat) (bsp r ww : Value) (o l : Int) (fm t : ByteArray) (A : Value) (w : World) (hbl : bl ≤ 1048576)
    (h : Pz p f name tok on (.slice la ll lc) ba bl bc .nilIface bsp r ww w) (hs : SprOK fm A t w) :
    Calls Tryf.prog 26 #[.pointer (some ⟨p, 0, none⟩), .agg #[.int .u32 o, .int .u32 l], .string fm, A] w fun e w' => (∃ u, e = .returned u) ∧
      Pz p f name 1 on (.slice la ll lc) ba bl bc (.iface 38 (.agg #[.string name, .int .u32 o, .int .u32 l, .string t, .bool (decide (tok = 1) && incB on ll)])) (.int .u64 (bl + 1)) (.int .i32 1114112) (.int .i64 1) w' ∧ ∀ B, B ≤ p → Below B w w' := by
  have hb1 : Below w.heap.size w (w.alloc (.cells #[.int .u32 o, .int .u32 l] 31)) := (Below.refl _ w).alloc (Nat.le_refl _) _
  have PP := h
  have PZ := Lib.hid (h.later hb1)
  have hpl := h.plt
  obtain ⟨⟨cs, hp, a1, a2, a3, a4, a5, a7, a10, a29, al⟩, hne, hnm⟩ := h
  have c5 := (cellB hp 5).trans a5
  have c10 := (cellB hp 10).trans a10
  have c29 := (cellB hp 29).trans a29
  have cl := (cellB hp 2087).trans al
  have SS := Lib.hid hs
  have HB1 := Lib.hid hb1
  clear hp a1 a2 a3 a4 a5 a7 a10 a29 al hs hb1 PP
  have hfl := lt_of_cell hnm
  by_cases ht : tok = 1
  · subst ht
    have EI := Lib.hid (show (decide ((1 : Int) = 1) && incB on ll) = incB on ll from by simp)
    go_enter Tryf.func26, Tryf.ntmps26
    go_wp2
    first | (go_region_held3 (fun w' => w'.cell? ⟨p, 5, none⟩ = some (.pointer (some ⟨f, 0, none⟩)) ∧ w'.cell? ⟨f, 0, none⟩ = some (.string name) ∧ w'.cell? ⟨w.heap.size, 0, none⟩ = some (.int .u32 o) ∧ w'.cell? ⟨w.heap.size, 1, none⟩ = some (.int .u32 l) ∧ w'.cell? ⟨p, 10, none⟩ = some (.int .u32 1)) (first | exact keepS5 hz hq hpl | (refine ⟨?_, ?_, ?_, ?_, ?_⟩ <;> first | assumption | (go_simp; done))) (first | (go_simp; refine SS.out _ (by exact rfl) (by exact fun b i v hv => cell_alloc hv) _ _ _ _ ?_) | (go_simp; go_at_call 34; refine (incomplete p on la ll lc _ (by exact cell_alloc c29) (by exact cell_alloc cl)).mono ?_; rintro e w9 ⟨rfl, rfl⟩) | (go_simp; go_at_call 32; refine (err_first p f name 1 on (.slice la ll lc) ba bl bc bsp r ww 38 _ _ hbl (by exact PZ.out.drew.drew)).mono ?_; rintro e w2 ⟨⟨u, rfl⟩, hz, hq, hb⟩))) | fail
    all_goals
      go_end0
      exact ⟨⟨_, rfl⟩, by rw [EI.out]; exact hz, fun B hB => ((HB1.out.mono (by omega)).drew.drew).trans (hb B hB)⟩
  · have e1 : (tok == 1) = false := beq_eq_false_iff_ne.2 ht
    have EI := Lib.hid (show (decide (tok = 1) && incB on ll) = false from by simp [ht])
    clear ht
    go_enter Tryf.func26, Tryf.ntmps26
    go_wp2
    refine wp_region_noPanic ?_
    refine wp_region_held_drew (S := (fun w' => w'.cell? ⟨p, 5, none⟩ = some (.pointer (some ⟨f, 0, none⟩)) ∧ w'.cell? ⟨f, 0, none⟩ = some (.string name) ∧ w'.cell? ⟨w.heap.size, 0, none⟩ = some (.int .u32 o) ∧ w'.cell? ⟨w.heap.size, 1, none⟩ = some (.int .u32 l))) (by kernel_rfl) ?_ (fun hHeld => ?_)
    · (try dsimp only); (refine ⟨?_, ?_, ?_, ?_⟩ <;> first | assumption | (go_simp; done))
    refine wpAnyH_take (i := 0) (oi := _) (v := ?v1) rfl (by kernel_rfl) (by kernel_rfl) (by kernel_rfl) (fun _ _ _ h => h) (Or.inl ⟨by rfl, ?y1⟩) (by assumption) ?r1
    case y1 => intro w hSw; (try dsimp only at hSw); (try simp only [List.getElem_toArray, List.getElem_cons_zero]); go_simp <;> with_reducible rfl
    try simp only [Act.put, List.setIfInBounds_toArray, List.set_cons_zero, List.set_cons_succ, List.getElem_toArray, List.getElem_cons_zero]
    refine wpAnyH_take (i := 1) (oi := _) (v := ?v2) rfl (by kernel_rfl) (by kernel_rfl) (by kernel_rfl) (fun _ _ _ h => h) (Or.inl ⟨by rfl, ?y2⟩) (by assumption) ?r2
    case y2 => intro w hSw; (try dsimp only at hSw); (try simp only [List.getElem_toArray, List.getElem_cons_zero, List.getElem_cons_succ]); go_simp <;> with_reducible rfl
    try simp only [Act.put, List.setIfInBounds_toArray, List.set_cons_zero, List.set_cons_succ, List.getElem_toArray, List.getElem_cons_zero, List.getElem_cons_succ]
    refine wpAnyH_take (i := 2) (oi := _) (v := ?v3) rfl (by kernel_rfl) (by kernel_rfl) (by kernel_rfl) (fun _ _ _ h => h) (Or.inl ⟨by rfl, ?y3⟩) (by assumption) ?r3
    case y3 => intro w hSw; (try dsimp only at hSw); (try simp only [List.getElem_toArray, List.getElem_cons_zero, List.getElem_cons_succ]); go_simp <;> with_reducible rfl
    try simp only [Act.put, List.setIfInBounds_toArray, List.set_cons_zero, List.set_cons_succ, List.getElem_toArray, List.getElem_cons_zero, List.getElem_cons_succ]
    refine wpAnyH_take (i := 3) (oi := _) (v := ?v4) rfl (by kernel_rfl) (by kernel_rfl) (by kernel_rfl) (fun _ _ _ h => h) (Or.inl ⟨by rfl, ?y4⟩) (by assumption) ?r4
    case y4 => intro w hSw; (try dsimp only at hSw); (try simp only [List.getElem_toArray, List.getElem_cons_zero, List.getElem_cons_succ]); go_simp <;> with_reducible rfl
    try simp only [Act.put, List.setIfInBounds_toArray, List.set_cons_zero, List.set_cons_succ, List.getElem_toArray, List.getElem_cons_zero, List.getElem_cons_succ]
    refine wpAnyH_take (i := 4) (oi := _) (v := ?v5) rfl (by kernel_rfl) (by kernel_rfl) (by kernel_rfl) (fun _ _ _ h => h) (Or.inl ⟨by rfl, ?y5⟩) (by assumption) ?r5
    case y5 => intro w hSw; (try dsimp only at hSw); (try simp only [List.getElem_toArray, List.getElem_cons_zero, List.getElem_cons_succ]); go_simp <;> with_reducible rfl
    try simp only [Act.put, List.setIfInBounds_toArray, List.set_cons_zero, List.set_cons_succ, List.getElem_toArray, List.getElem_cons_zero, List.getElem_cons_succ]
    refine wpAnyH_take (i := 5) (oi := _) (v := ?v6) rfl (by kernel_rfl) (by kernel_rfl) (by kernel_rfl) (fun _ _ _ h => h) (Or.inl ⟨by rfl, ?y6⟩) (by assumption) ?r6
    case y6 => intro w hSw; (try dsimp only at hSw); (try simp only [List.getElem_toArray, List.getElem_cons_zero, List.getElem_cons_succ]); go_simp <;> with_reducible rfl
    try simp only [Act.put, List.setIfInBounds_toArray, List.set_cons_zero, List.set_cons_succ, List.getElem_toArray, List.getElem_cons_zero, List.getElem_cons_succ]
    refine wpAnyH_take (i := 6) (oi := _) (v := ?v7) rfl (by kernel_rfl) (by kernel_rfl) (by kernel_rfl) (fun _ _ _ h => h) (Or.inl ⟨by rfl, ?y7⟩) (by assumption) ?r7
    case y7 => intro w hSw; (try dsimp only at hSw); (try simp only [List.getElem_toArray, List.getElem_cons_zero, List.getElem_cons_succ]); go_simp <;> with_reducible rfl
    try simp only [Act.put, List.setIfInBounds_toArray, List.set_cons_zero, List.set_cons_succ, List.getElem_toArray, List.getElem_cons_zero, List.getElem_cons_succ]
    refine wpAnyH_take (i := 7) (oi := _) (v := ?v8) rfl (by kernel_rfl) (by kernel_rfl) (by kernel_rfl) (fun _ _ _ h => h) (Or.inl ⟨by rfl, ?y8⟩) (by assumption) ?r8
    case y8 => intro w hSw; (try dsimp only at hSw); (try simp only [List.getElem_toArray, List.getElem_cons_zero, List.getElem_cons_succ]); go_simp <;> with_reducible rfl
    try simp only [Act.put, List.setIfInBounds_toArray, List.set_cons_zero, List.set_cons_succ, List.getElem_toArray, List.getElem_cons_zero, List.getElem_cons_succ]
    refine wpAnyH_take (i := 8) (oi := _) (v := ?v9) rfl (by kernel_rfl) (by kernel_rfl) (by kernel_rfl) (fun _ _ _ h => h) (Or.inl ⟨by rfl, ?y9⟩) (by assumption) ?r9
    case y9 => intro w hSw; (try dsimp only at hSw); (try simp only [List.getElem_toArray, List.getElem_cons_zero, List.getElem_cons_succ]); go_simp <;> with_reducible rfl
    try simp only [Act.put, List.setIfInBounds_toArray, List.set_cons_zero, List.set_cons_succ, List.getElem_toArray, List.getElem_cons_zero, List.getElem_cons_succ]
    refine wpAnyH_take (i := 9) (oi := _) (v := ?v10) rfl (by kernel_rfl) (by kernel_rfl) (by kernel_rfl) (fun _ _ _ h => h) (Or.inl ⟨by rfl, ?y10⟩) (by assumption) ?r10
    case y10 => intro w hSw; (try dsimp only at hSw); (try simp only [List.getElem_toArray, List.getElem_cons_zero, List.getElem_cons_succ]); go_simp <;> with_reducible rfl
    try simp only [Act.put, List.setIfInBounds_toArray, List.set_cons_zero, List.set_cons_succ, List.getElem_toArray, List.getElem_cons_zero, List.getElem_cons_succ]
    refine wpAnyH_take (i := 10) (oi := _) (v := ?v11) rfl (by kernel_rfl) (by kernel_rfl) (by kernel_rfl) (fun _ _ _ h => h) (Or.inl ⟨by rfl, ?y11⟩) (by assumption) ?r11
    case y11 => intro w hSw; (try dsimp only at hSw); (try simp only [List.getElem_toArray, List.getElem_cons_zero, List.getElem_cons_succ]); go_simp <;> with_reducible rfl
    try simp only [Act.put, List.setIfInBounds_toArray, List.set_cons_zero, List.set_cons_succ, List.getElem_toArray, List.getElem_cons_zero, List.getElem_cons_succ]
    refine wpAnyH_take (i := 12) (oi := _) (v := ?v12) rfl (by kernel_rfl) (by kernel_rfl) (by kernel_rfl) (fun _ _ _ h => h) (Or.inl ⟨by rfl, ?y12⟩) (by assumption) ?r12
    case y12 => intro w hSw; (try dsimp only at hSw); (try simp only [List.getElem_toArray, List.getElem_cons_zero, List.getElem_cons_succ]); go_simp <;> with_reducible rfl
    try simp only [Act.put, List.setIfInBounds_toArray, List.set_cons_zero, List.set_cons_succ, List.getElem_toArray, List.getElem_cons_zero, List.getElem_cons_succ]
    refine wpAnyH_take (i := 13) (oi := _) (v := ?v13) rfl (by kernel_rfl) (by kernel_rfl) (by kernel_rfl) (fun _ _ _ h => h) (Or.inl ⟨by rfl, ?y13⟩) (by assumption) ?r13
    case y13 => intro w hSw; (try dsimp only at hSw); (try simp only [List.getElem_toArray, List.getElem_cons_zero, List.getElem_cons_succ]); go_simp <;> with_reducible rfl
    try simp only [Act.put, List.setIfInBounds_toArray, List.set_cons_zero, List.set_cons_succ, List.getElem_toArray, List.getElem_cons_zero, List.getElem_cons_succ]
    refine wpAnyH_take (i := 14) (oi := _) (v := ?v14) rfl (by kernel_rfl) (by kernel_rfl) (by kernel_rfl) (fun _ _ _ h => h) (Or.inl ⟨by rfl, ?y14⟩) (by assumption) ?r14
    case y14 => intro w hSw; (try dsimp only at hSw); (try simp only [List.getElem_toArray, List.getElem_cons_zero, List.getElem_cons_succ]); go_simp <;> with_reducible rfl
    try simp only [Act.put, List.setIfInBounds_toArray, List.set_cons_zero, List.set_cons_succ, List.getElem_toArray, List.getElem_cons_zero, List.getElem_cons_succ]
    refine wpAnyH_ready (rs := [11, 15]) (by kernel_rfl) (by simp) ?_
    refine AllReadyH.cons (o := _) rfl (fun K hK => ?_) (AllReadyH.cons (o := _) rfl (fun K hK => ?_) AllReadyH.nil)
    · try simp only [List.getElem_toArray, List.getElem_cons_zero, List.getElem_cons_succ]
      go_simp
      refine SS.out _ (by exact rfl) (by exact fun b i v hv => cell_alloc hv) _ _ _ _ ?_
      refine hK.out _ _ ?_ (fun hHeld => ?_)
      · (try dsimp only); (refine ⟨?_, ?_, ?_, ?_⟩ <;> first | assumption | (go_simp; done))
      clear hK K
      try simp only [Act.put, List.setIfInBounds_toArray, List.set_cons_zero, List.set_cons_succ]
      refine wpAnyH_ready (rs := [15]) (by kernel_rfl) (by simp) ?_
      refine AllReadyH.cons (o := _) rfl (fun K hK => ?_) AllReadyH.nil
      try simp only [List.getElem_toArray, List.getElem_cons_zero, List.getElem_cons_succ]
      go_simp
      refine hK.out _ _ ?_ (fun hHeld => ?_)
      · (try dsimp only); (refine ⟨?_, ?_, ?_, ?_⟩ <;> first | assumption | (go_simp; done))
      clear hK K
      try simp only [Act.put, List.setIfInBounds_toArray, List.set_cons_zero, List.set_cons_succ]
      refine wpAnyH_take (i := 16) (oi := _) (v := ?v15) rfl (by kernel_rfl) (by kernel_rfl) (by kernel_rfl) (fun _ _ _ h => h) (Or.inl ⟨by rfl, ?y15⟩) (by assumption) ?r15
      case y15 => intro w hSw; (try dsimp only at hSw); (try simp only [List.getElem_toArray, List.getElem_cons_zero, List.getElem_cons_succ]); go_simp <;> with_reducible rfl
      try simp only [Act.put, List.setIfInBounds_toArray, List.set_cons_zero, List.set_cons_succ, List.getElem_toArray, List.getElem_cons_zero, List.getElem_cons_succ]
      refine wpAnyH_take (i := 17) (oi := _) (v := ?v16) rfl (by kernel_rfl) (by kernel_rfl) (by kernel_rfl) (fun _ _ _ h => h) (Or.inl ⟨by rfl, ?y16⟩) (by assumption) ?r16
      case y16 => intro w hSw; (try dsimp only at hSw); (try simp only [List.getElem_toArray, List.getElem_cons_zero, List.getElem_cons_succ]); go_simp <;> with_reducible rfl
      try simp only [Act.put, List.setIfInBounds_toArray, List.set_cons_zero, List.set_cons_succ, List.getElem_toArray, List.getElem_cons_zero, List.getElem_cons_succ]
      refine wpAnyH_ready (rs := [18]) (by kernel_rfl) (by simp) ?_
      refine AllReadyH.cons (o := _) rfl (fun K hK => ?_) AllReadyH.nil
      try simp only [List.getElem_toArray, List.getElem_cons_zero, List.getElem_cons_succ]
      go_simp
      refine hK.out _ _ ?_ (fun hHeld => ?_)
      · (try dsimp only); (refine ⟨?_, ?_, ?_, ?_⟩ <;> first | assumption | (go_simp; done))
      clear hK K
      try simp only [Act.put, List.setIfInBounds_toArray, List.set_cons_zero, List.set_cons_succ]
      refine wpAnyH_ready (rs := [19]) (by kernel_rfl) (by simp) ?_
      refine AllReadyH.cons (o := _) rfl (fun K hK => ?_) AllReadyH.nil
      try simp only [List.getElem_toArray, List.getElem_cons_zero, List.getElem_cons_succ]
      go_simp
      refine hK.out _ _ ?_ (fun hHeld => ?_)
      · (try dsimp only); (refine ⟨?_, ?_, ?_, ?_⟩ <;> first | assumption | (go_simp; done))
      clear hK K
      try simp only [Act.put, List.setIfInBounds_toArray, List.set_cons_zero, List.set_cons_succ]
      refine wpAnyH_take (i := 20) (oi := _) (v := ?v17) rfl (by kernel_rfl) (by kernel_rfl) (by kernel_rfl) (fun _ _ _ h => h) (Or.inl ⟨by rfl, ?y17⟩) (by assumption) ?r17
      case y17 => intro w hSw; (try dsimp only at hSw); (try simp only [List.getElem_toArray, List.getElem_cons_zero, List.getElem_cons_succ]); go_simp <;> with_reducible rfl
      try simp only [Act.put, List.setIfInBounds_toArray, List.set_cons_zero, List.set_cons_succ, List.getElem_toArray, List.getElem_cons_zero, List.getElem_cons_succ]
      refine wpAnyH_take (i := 21) (oi := _) (v := ?v18) rfl (by kernel_rfl) (by kernel_rfl) (by kernel_rfl) (fun _ _ _ h => h) (Or.inl ⟨by rfl, ?y18⟩) (by assumption) ?r18
      case y18 => intro w hSw; (try dsimp only at hSw); (try simp only [List.getElem_toArray, List.getElem_cons_zero, List.getElem_cons_succ]); go_simp <;> with_reducible rfl
      try simp only [Act.put, List.setIfInBounds_toArray, List.set_cons_zero, List.set_cons_succ, List.getElem_toArray, List.getElem_cons_zero, List.getElem_cons_succ]
      refine wpAnyH_take (i := 22) (oi := _) (v := ?v19) rfl (by kernel_rfl) (by kernel_rfl) (by kernel_rfl) (fun _ _ _ h => h) (Or.inl ⟨by rfl, ?y19⟩) (by assumption) ?r19
      case y19 => intro w hSw; (try dsimp only at hSw); (try simp only [List.getElem_toArray, List.getElem_cons_zero, List.getElem_cons_succ]); go_simp <;> with_reducible rfl
      try simp only [Act.put, List.setIfInBounds_toArray, List.set_cons_zero, List.set_cons_succ, List.getElem_toArray, List.getElem_cons_zero, List.getElem_cons_succ]
      refine wpAnyH_ready (rs := [23]) (by kernel_rfl) (by simp) ?_
      refine AllReadyH.cons (o := _) rfl (fun K hK => ?_) AllReadyH.nil
      try simp only [List.getElem_toArray, List.getElem_cons_zero, List.getElem_cons_succ]
      go_simp
      refine (err_first p f name tok on (.slice la ll lc) ba bl bc bsp r ww 38 _ _ hbl (by exact PZ.out.drew.drew)).mono ?_
      rintro e w2 ⟨⟨u, rfl⟩, hz, hq, hb⟩
      go_wp2_with fail
      refine hK.out _ _ ?_ (fun hHeld => ?_)
      · exact keepS hz hq hpl
      clear hK K
      try simp only [Act.put, List.setIfInBounds_toArray, List.set_cons_zero, List.set_cons_succ]
      refine wpAnyH_done (by kernel_rfl) ?_ _
      refine NoPanic.normal ?_
      go_end0
      exact ⟨⟨_, rfl⟩, by rw [EI.out]; exact hz, fun B hB => ((HB1.out.mono (by omega)).drew.drew).trans (hb B hB)⟩
    · try simp only [List.getElem_toArray, List.getElem_cons_zero, List.getElem_cons_succ]
      go_simp
      refine hK.out _ _ ?_ (fun hHeld => ?_)
      · (try dsimp only); (refine ⟨?_, ?_, ?_, ?_⟩ <;> first | assumption | (go_simp; done))
      clear hK K
      try simp only [Act.put, List.setIfInBounds_toArray, List.set_cons_zero, List.set_cons_succ]
      refine wpAnyH_take (i := 16) (oi := _) (v := ?v20) rfl (by kernel_rfl) (by kernel_rfl) (by kernel_rfl) (fun _ _ _ h => h) (Or.inl ⟨by rfl, ?y20⟩) (by assumption) ?r20
      case y20 => intro w hSw; (try dsimp only at hSw); (try simp only [List.getElem_toArray, List.getElem_cons_zero, List.getElem_cons_succ]); go_simp <;> with_reducible rfl
      try simp only [Act.put, List.setIfInBounds_toArray, List.set_cons_zero, List.set_cons_succ, List.getElem_toArray, List.getElem_cons_zero, List.getElem_cons_succ]
      refine wpAnyH_ready (rs := [11]) (by kernel_rfl) (by simp) ?_
      refine AllReadyH.cons (o := _) rfl (fun K hK => ?_) AllReadyH.nil
      try simp only [List.getElem_toArray, List.getElem_cons_zero, List.getElem_cons_succ]
      go_simp
      refine SS.out _ (by exact rfl) (by exact fun b i v hv => cell_alloc hv) _ _ _ _ ?_
      refine hK.out _ _ ?_ (fun hHeld => ?_)
      · (try dsimp only); (refine ⟨?_, ?_, ?_, ?_⟩ <;> first | assumption | (go_simp; done))
      clear hK K
      try simp only [Act.put, List.setIfInBounds_toArray, List.set_cons_zero, List.set_cons_succ]
      refine wpAnyH_take (i := 17) (oi := _) (v := ?v21) rfl (by kernel_rfl) (by kernel_rfl) (by kernel_rfl) (fun _ _ _ h => h) (Or.inl ⟨by rfl, ?y21⟩) (by assumption) ?r21
      case y21 => intro w hSw; (try dsimp only at hSw); (try simp only [List.getElem_toArray, List.getElem_cons_zero, List.getElem_cons_succ]); go_simp <;> with_reducible rfl
      try simp only [Act.put, List.setIfInBounds_toArray, List.set_cons_zero, List.set_cons_succ, List.getElem_toArray, List.getElem_cons_zero, List.getElem_cons_succ]
      refine wpAnyH_ready (rs := [18]) (by kernel_rfl) (by simp) ?_
      refine AllReadyH.cons (o := _) rfl (fun K hK => ?_) AllReadyH.nil
      try simp only [List.getElem_toArray, List.getElem_cons_zero, List.getElem_cons_succ]
      go_simp
      refine hK.out _ _ ?_ (fun hHeld => ?_)
      · (try dsimp only); (refine ⟨?_, ?_, ?_, ?_⟩ <;> first | assumption | (go_simp; done))
      clear hK K
      try simp only [Act.put, List.setIfInBounds_toArray, List.set_cons_zero, List.set_cons_succ]
      refine wpAnyH_ready (rs := [19]) (by kernel_rfl) (by simp) ?_
      refine AllReadyH.cons (o := _) rfl (fun K hK => ?_) AllReadyH.nil
      try simp only [List.getElem_toArray, List.getElem_cons_zero, List.getElem_cons_succ]
      go_simp
      refine hK.out _ _ ?_ (fun hHeld => ?_)
      · (try dsimp only); (refine ⟨?_, ?_, ?_, ?_⟩ <;> first | assumption | (go_simp; done))
      clear hK K
      try simp only [Act.put, List.setIfInBounds_toArray, List.set_cons_zero, List.set_cons_succ]
      refine wpAnyH_take (i := 20) (oi := _) (v := ?v22) rfl (by kernel_rfl) (by kernel_rfl) (by kernel_rfl) (fun _ _ _ h => h) (Or.inl ⟨by rfl, ?y22⟩) (by assumption) ?r22
      case y22 => intro w hSw; (try dsimp only at hSw); (try simp only [List.getElem_toArray, List.getElem_cons_zero, List.getElem_cons_succ]); go_simp <;> with_reducible rfl
      try simp only [Act.put, List.setIfInBounds_toArray, List.set_cons_zero, List.set_cons_succ, List.getElem_toArray, List.getElem_cons_zero, List.getElem_cons_succ]
      refine wpAnyH_take (i := 21) (oi := _) (v := ?v23) rfl (by kernel_rfl) (by kernel_rfl) (by kernel_rfl) (fun _ _ _ h => h) (Or.inl ⟨by rfl, ?y23⟩) (by assumption) ?r23
      case y23 => intro w hSw; (try dsimp only at hSw); (try simp only [List.getElem_toArray, List.getElem_cons_zero, List.getElem_cons_succ]); go_simp <;> with_reducible rfl
      try simp only [Act.put, List.setIfInBounds_toArray, List.set_cons_zero, List.set_cons_succ, List.getElem_toArray, List.getElem_cons_zero, List.getElem_cons_succ]
      refine wpAnyH_take (i := 22) (oi := _) (v := ?v24) rfl (by kernel_rfl) (by kernel_rfl) (by kernel_rfl) (fun _ _ _ h => h) (Or.inl ⟨by rfl, ?y24⟩) (by assumption) ?r24
      case y24 => intro w hSw; (try dsimp only at hSw); (try simp only [List.getElem_toArray, List.getElem_cons_zero, List.getElem_cons_succ]); go_simp <;> with_reducible rfl
      try simp only [Act.put, List.setIfInBounds_toArray, List.set_cons_zero, List.set_cons_succ, List.getElem_toArray, List.getElem_cons_zero, List.getElem_cons_succ]
      refine wpAnyH_ready (rs := [23]) (by kernel_rfl) (by simp) ?_
      refine AllReadyH.cons (o := _) rfl (fun K hK => ?_) AllReadyH.nil
      try simp only [List.getElem_toArray, List.getElem_cons_zero, List.getElem_cons_succ]
      go_simp
      refine (err_first p f name tok on (.slice la ll lc) ba bl bc bsp r ww 38 _ _ hbl (by exact PZ.out.drew.drew)).mono ?_
      rintro e w2 ⟨⟨u, rfl⟩, hz, hq, hb⟩
      go_wp2_with fail
      refine hK.out _ _ ?_ (fun hHeld => ?_)
      · exact keepS hz hq hpl
      clear hK K
      try simp only [Act.put, List.setIfInBounds_toArray, List.set_cons_zero, List.set_cons_succ]
      refine wpAnyH_done (by kernel_rfl) ?_ _
      refine NoPanic.normal ?_
      go_end0
      exact ⟨⟨_, rfl⟩, by rw [EI.out]; exact hz, fun B hB => ((HB1.out.mono (by omega)).drew.drew).trans (hb B hB)⟩
set_option maxHeartbeats 1000000 in
theorem pos_again (p f : Nat) (name : ByteArray) (tok on : Int) (la : Option Addr) (ll lc : Nat) (ba : Option Addr) (bl bc : Nat) (t0 : TypeId) (v0 bsp r ww : Value) (o l : Int) (fm t : ByteArray) (A : Value) (w : World)
    (h : Pz p f name 1 on (.slice la ll lc) ba bl bc (.iface t0 v0) bsp r ww w) (hs : SprOK fm A t w) :
    Calls Tryf.prog 26 #[.pointer (some ⟨p, 0, none⟩), .agg #[.int .u32 o, .int .u32 l], .string fm, A] w fun e w' => (∃ u, e = .returned u) ∧
      Pz p f name 1 on (.slice la ll lc) ba bl bc (.iface t0 v0) bsp r ww w' ∧ Below w.heap.size w w' := by
  have hb1 : Below w.heap.size w (w.alloc (.cells #[.int .u32 o, .int .u32 l] 31)) := (Below.refl _ w).alloc (Nat.le_refl _) _
  have PZ := Lib.hid (h.later hb1)
  have hpl := h.plt
  obtain ⟨⟨cs, hp, a1, a2, a3, a4, a5, a7, a10, a29, al⟩, hne, hnm⟩ := h
  have c5 := (cellB hp 5).trans a5
  have c7 := (cellB hp 7).trans a7
  have c10 := (cellB hp 10).trans a10
  have c29 := (cellB hp 29).trans a29
  have cl := (cellB hp 2087).trans al
  have SS := Lib.hid hs
  have HB1 := Lib.hid hb1
  clear hp a1 a2 a3 a4 a5 a7 a10 a29 al hs hb1
  have hfl := lt_of_cell hnm
  go_enter Tryf.func26, Tryf.ntmps26
  go_wp2
  go_region_held3 (fun w' => w'.cell? ⟨p, 5, none⟩ = some (.pointer (some ⟨f, 0, none⟩)) ∧ w'.cell? ⟨f, 0, none⟩ = some (.string name) ∧ w'.cell? ⟨w.heap.size, 0, none⟩ = some (.int .u32 o) ∧ w'.cell? ⟨w.heap.size, 1, none⟩ = some (.int .u32 l) ∧ w'.cell? ⟨p, 10, none⟩ = some (.int .u32 1)) (first | (refine ⟨?_, ?_, ?_, ?_, ?_⟩ <;> first | assumption | (go_simp; done))) (first | (go_simp; refine SS.out _ (by exact rfl) (by exact fun b i v hv => cell_alloc hv) _ _ _ _ ?_) | (go_simp; go_at_call 34; refine (incomplete p on la ll lc _ (by exact cell_alloc c29) (by exact cell_alloc cl)).mono ?_; rintro e w9 ⟨rfl, rfl⟩) | (go_simp; go_at_call 32; refine (err_again p t0 v0 _ _ (by exact cell_alloc c7)).mono ?_; rintro e w2 ⟨⟨u, rfl⟩, rfl⟩))
  all_goals
    go_end0
    exact ⟨⟨_, rfl⟩, PZ.out.drew.drew, HB1.out.drew.drew⟩
end Go.Proofs.YtjhiglfihjehcaaFmt
