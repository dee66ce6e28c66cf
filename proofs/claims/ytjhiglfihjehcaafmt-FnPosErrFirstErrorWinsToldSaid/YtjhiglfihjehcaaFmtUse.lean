/- The functions round posErr: the parser's making, the callers, the readers. -/
import Derived.Test.YtjhiglfihjehcaaFmtCl
namespace Go.Proofs.YtjhiglfihjehcaaFmt
open Go.RowKit Go.Extern.Stop Go.Stop Go.Extern
set_option linter.unusedVariables false
def PE (name : ByteArray) (o l : Int) (t : ByteArray) (inc : Bool) : Value := .iface 38 (.agg #[.string name, .int .u32 o, .int .u32 l, .string t, .bool inc])
theorem bloc (w : World) (o : Obj) : Below w.heap.size w (w.alloc o) := (Below.refl _ w).alloc (Nat.le_refl _) _
theorem btr {a b c : World} (h : Below a.heap.size a b) (k : Below b.heap.size b c) : Below a.heap.size a c := h.trans (k.mono h.size)
theorem Pz.cell_er {p f : Nat} {name : ByteArray} {tok on : Int} {lit : Value} {ba : Option Addr} {bl bc : Nat} {er bsp r ww : Value} {w : World} (h : Pz p f name tok on lit ba bl bc er bsp r ww w) : w.cell? ⟨p, 7, none⟩ = some er ∧ w.cell? ⟨p, 2, none⟩ = some bsp ∧ w.cell? ⟨p, 3, none⟩ = some r ∧ w.cell? ⟨p, 4, none⟩ = some ww ∧ w.cell? ⟨p, 10, none⟩ = some (.int .u32 tok) := by
  obtain ⟨⟨cs, g, _, g2, g3, g4, _, g7, g10, _⟩, _, _⟩ := h
  exact ⟨(cellB g 7).trans g7, (cellB g 2).trans g2, (cellB g 3).trans g3, (cellB g 4).trans g4, (cellB g 10).trans g10⟩
/-- followErr, the first time -/
theorem fol_first (F : Interp) (p f : Nat) (name : ByteArray) (tok on : Int) (la : Option Addr) (ll lc : Nat) (ba : Option Addr) (bl bc : Nat) (bsp r ww : Value) (o l : Int) (lf rt : ByteArray) (w : World) (hF : F.answers w.tape) (hbl : bl ≤ 1048576) (h : Pz p f name tok on (.slice la ll lc) ba bl bc .nilIface bsp r ww w) :
    Calls Tryf.prog 9 #[.pointer (some ⟨p, 0, none⟩), .agg #[.int .u32 o, .int .u32 l], .string lf, .string rt] w fun e w' => (∃ u, e = .returned u) ∧ (∃ t, Pz p f name 1 on (.slice la ll lc) ba bl bc (PE name o l t (decide (tok = 1) && incB on ll)) (.int .u64 (bl + 1)) (.int .i32 1114112) (.int .i64 1) w') ∧ ∀ B, B ≤ p → Below B w w' := by
  have HF := Lib.hid hF
  have HP := Lib.hid h
  have hpl := Lib.hid h.plt
  clear hF h
  go_enter Tryf.func9, Tryf.ntmps9
  go_wp2_with (go_at_call 22; go_in)
  refine (pos_first p f name tok on la ll lc ba bl bc bsp r ww o l fmtQ _ _ _ hbl (HP.out.later ?b1) (spr_two F _ lf rt _ (by exact HF.out) ?k0 ?k1)).mono ?_
  case b1 => exact ((bloc _ _).trans ((bloc _ _).mono (by simp))).trans ((bloc _ _).mono (by simp only [World.size_alloc]; omega))
  case k0 => go_simp
  case k1 => go_simp
  rintro e w1 ⟨⟨u, rfl⟩, hz, hb⟩
  have HZ := Lib.hid hz
  have HB := Lib.hid hb
  clear hz hb
  go_wp2
  go_end0
  go_wp2
  go_end0
  exact ⟨⟨_, rfl⟩, ⟨_, HZ.out⟩, fun B hB => ((((Below.refl B w).alloc (by have := hpl.out; omega) _).alloc (by have := hpl.out; simp only [World.size_alloc]; omega) _).alloc (by have := hpl.out; simp only [World.size_alloc]; omega) _).trans (HB.out B hB)⟩
/-- followErr, once an error stands -/
theorem fol_again (F : Interp) (p f : Nat) (name : ByteArray) (tok on : Int) (la : Option Addr) (ll lc : Nat) (ba : Option Addr) (bl bc : Nat) (t0 : TypeId) (v0 bsp r ww : Value) (o l : Int) (lf rt : ByteArray) (w : World) (hF : F.answers w.tape) (h : Pz p f name 1 on (.slice la ll lc) ba bl bc (.iface t0 v0) bsp r ww w) :
    Calls Tryf.prog 9 #[.pointer (some ⟨p, 0, none⟩), .agg #[.int .u32 o, .int .u32 l], .string lf, .string rt] w fun e w' => (∃ u, e = .returned u) ∧ Pz p f name 1 on (.slice la ll lc) ba bl bc (.iface t0 v0) bsp r ww w' ∧ Below w.heap.size w w' := by
  have HF := Lib.hid hF
  have HP := Lib.hid h
  clear hF h
  go_enter Tryf.func9, Tryf.ntmps9
  go_wp2_with (go_at_call 22; go_in)
  refine (pos_again p f name tok on la ll lc ba bl bc t0 v0 bsp r ww o l fmtQ _ _ _ (HP.out.later ?b1) (spr_two F _ lf rt _ (by exact HF.out) ?k0 ?k1)).mono ?_
  case b1 => exact ((bloc _ _).trans ((bloc _ _).mono (by simp))).trans ((bloc _ _).mono (by simp only [World.size_alloc]; omega))
  case k0 => go_simp
  case k1 => go_simp
  rintro e w1 ⟨⟨u, rfl⟩, hz, hb⟩
  have HZ := Lib.hid hz
  have HB := Lib.hid hb
  clear hz hb
  go_wp2
  go_end0
  go_wp2
  go_end0
  exact ⟨⟨_, rfl⟩, HZ.out, (((bloc _ _).trans ((bloc _ _).mono (by simp))).trans ((bloc _ _).mono (by simp only [World.size_alloc]; omega))).trans (HB.out.mono (by simp only [World.size_alloc]; omega))⟩
/-- posErr with no operand, the first time -/
theorem pe_first (F : Interp) (p f : Nat) (name : ByteArray) (tok on : Int) (la : Option Addr) (ll lc : Nat) (ba : Option Addr) (bl bc : Nat) (bsp r ww : Value) (o l : Int) (fm : ByteArray) (w : World) (hF : F.answers w.tape) (hbl : bl ≤ 1048576) (h : Pz p f name tok on (.slice la ll lc) ba bl bc .nilIface bsp r ww w) :
    Calls Tryf.prog 17 #[.pointer (some ⟨p, 0, none⟩), .agg #[.int .u32 o, .int .u32 l], .string fm] w fun e w' => (∃ u, e = .returned u) ∧ (∃ t, Pz p f name 1 on (.slice la ll lc) ba bl bc (PE name o l t (decide (tok = 1) && incB on ll)) (.int .u64 (bl + 1)) (.int .i32 1114112) (.int .i64 1) w') ∧ ∀ B, B ≤ p → Below B w w' := by
  have HF := Lib.hid hF
  have HP := Lib.hid h
  have hpl := Lib.hid h.plt
  clear hF h
  go_enter Tryf.func17, Tryf.ntmps17
  go_wp2_with fail
  refine (pos_first p f name tok on la ll lc ba bl bc bsp r ww o l fm _ _ _ hbl (HP.out.later (bloc _ _)) (spr_nil F fm _ (by exact HF.out))).mono ?_
  rintro e w1 ⟨⟨u, rfl⟩, hz, hb⟩
  have HZ := Lib.hid hz
  have HB := Lib.hid hb
  clear hz hb
  go_wp2
  go_end0
  exact ⟨⟨_, rfl⟩, ⟨_, HZ.out⟩, fun B hB => ((Below.refl B w).alloc (by have := hpl.out; omega) _).trans (HB.out B hB)⟩
/-- posErr with no operand, once an error stands -/
theorem pe_again (F : Interp) (p f : Nat) (name : ByteArray) (tok on : Int) (la : Option Addr) (ll lc : Nat) (ba : Option Addr) (bl bc : Nat) (t0 : TypeId) (v0 bsp r ww : Value) (o l : Int) (fm : ByteArray) (w : World) (hF : F.answers w.tape) (h : Pz p f name 1 on (.slice la ll lc) ba bl bc (.iface t0 v0) bsp r ww w) :
    Calls Tryf.prog 17 #[.pointer (some ⟨p, 0, none⟩), .agg #[.int .u32 o, .int .u32 l], .string fm] w fun e w' => (∃ u, e = .returned u) ∧ Pz p f name 1 on (.slice la ll lc) ba bl bc (.iface t0 v0) bsp r ww w' ∧ Below w.heap.size w w' := by
  have HF := Lib.hid hF
  have HP := Lib.hid h
  clear hF h
  go_enter Tryf.func17, Tryf.ntmps17
  go_wp2_with fail
  refine (pos_again p f name tok on la ll lc ba bl bc t0 v0 bsp r ww o l fm _ _ _ (HP.out.later (bloc _ _)) (spr_nil F fm _ (by exact HF.out))).mono ?_
  rintro e w1 ⟨⟨u, rfl⟩, hz, hb⟩
  have HZ := Lib.hid hz
  have HB := Lib.hid hb
  clear hz hb
  go_wp2
  go_end0
  exact ⟨⟨_, rfl⟩, HZ.out, btr (bloc _ _) HB.out⟩
theorem wpList_build_some {P : Program} {ops : Array Oper} {rest : List Oper} {o : Oper} {a : Act} {w : World} {Q : Exit → Act → World → Prop} (hg : o.guard = none) (t : TypeId) (parts : Array (Nat × Operand)) (ho : o.op = .build t parts)
    (l : List (Nat × Value)) (cells : Array Value) (hf : P.built t l = some cells) (hl : (parts.map fun (i, x) => (i, a.eval x)).toList = l)
    (h : wpList P ops Q rest (a.put o.dst (.agg cells)) w) : wpList P ops Q (o :: rest) a w :=
  wpList_build hg t parts ho (by rw [hl, hf]; rfl) (by rw [hl, hf]; exact h)
abbrev partsA (f : Nat) (tok on : Int) (lit : Value) (ba : Option Addr) (bl bc : Nat) : List (Nat × Value) := [(5, .pointer (some ⟨f, 0, none⟩)), (10, .int .u32 tok), (28, .int .i64 on), (40, lit), (1, .slice ba bl bc)]
theorem builtA (f : Nat) (tok on : Int) (la : Option Addr) (ll lc : Nat) (ba : Option Addr) (bl bc : Nat) : ∃ cs : Array Value, Tryf.prog.built 64 (partsA f tok on (.slice la ll lc) ba bl bc) = some cs ∧ cs[1]? = some (.slice ba bl bc) ∧ cs[2]? = some (.int .u64 0) ∧ cs[3]? = some (.int .i32 0) ∧ cs[4]? = some (.int .i64 0) ∧ cs[5]? = some (.pointer (some ⟨f, 0, none⟩)) ∧ cs[7]? = some .nilIface ∧ cs[10]? = some (.int .u32 tok) ∧ cs[29]? = some (.int .i64 on) ∧ cs[2087]? = some (.slice la ll lc) :=
  ⟨(Tryf.prog.built 64 (partsA f tok on (.slice la ll lc) ba bl bc)).getD #[], by kernel_rfl, by kernel_rfl, by kernel_rfl, by kernel_rfl, by kernel_rfl, by kernel_rfl, by kernel_rfl, by kernel_rfl, by kernel_rfl, by kernel_rfl⟩
theorem builtF (name : ByteArray) : ∃ cs : Array Value, Tryf.prog.built 48 [(0, .string name)] = some cs ∧ cs[0]? = some (.string name) := ⟨(Tryf.prog.built 48 [(0, .string name)]).getD #[], by kernel_rfl, by kernel_rfl⟩
theorem Pz.made {name : ByteArray} {tok on : Int} {lit : Value} {ba : Option Addr} {bl bc : Nat} {w : World} {fs cs : Array Value} (hf : fs[0]? = some (.string name)) (h : cs[1]? = some (.slice ba bl bc) ∧ cs[2]? = some (.int .u64 0) ∧ cs[3]? = some (.int .i32 0) ∧ cs[4]? = some (.int .i64 0) ∧ cs[5]? = some (.pointer (some ⟨w.heap.size, 0, none⟩)) ∧ cs[7]? = some .nilIface ∧ cs[10]? = some (.int .u32 tok) ∧ cs[29]? = some (.int .i64 on) ∧ cs[2087]? = some lit) :
    Pz (w.heap.size + 1) w.heap.size name tok on lit ba bl bc .nilIface (.int .u64 0) (.int .i32 0) (.int .i64 0) ((w.alloc (.cells fs 48)).alloc (.cells cs 64)) := by
  have h1 := heap_alloc_new (w.alloc (.cells fs 48)) (.cells cs 64 (0, 0))
  rw [World.size_alloc] at h1
  have h2 : ((w.alloc (.cells fs 48)).alloc (.cells cs 64)).heap[w.heap.size]? = some (.cells fs 48 (0, 0)) := (Below.heap_alloc _ _ _ (by simp)).trans (heap_alloc_new w _)
  exact ⟨⟨cs, h1, h⟩, by omega, (cellB h2 0).trans hf⟩
set_option maxRecDepth 100000 in
theorem mkA (name : ByteArray) (tok on : Int) (la : Option Addr) (ll lc : Nat) (ba : Option Addr) (bl bc : Nat) (w : World) :
    Calls Tryf.prog 8 #[.string name, .int .u32 tok, .int .i64 on, .slice la ll lc, .slice ba bl bc] w fun e w' => e = .returned (.pointer (some ⟨w.heap.size + 1, 0, none⟩)) ∧ Pz (w.heap.size + 1) w.heap.size name tok on (.slice la ll lc) ba bl bc .nilIface (.int .u64 0) (.int .i32 0) (.int .i64 0) w' ∧ Below w.heap.size w w' := by
  obtain ⟨cs, hb, h2⟩ := builtA w.heap.size tok on la ll lc ba bl bc
  obtain ⟨fs, hbf, h0⟩ := builtF name
  have HB := Lib.hid hb
  have HBF := Lib.hid hbf
  have PZ := Lib.hid (Pz.made (w := w) h0 h2)
  clear hb hbf h0 h2
  go_enter Tryf.func8, Tryf.ntmps8
  go_wp2_with (first | (refine wpList_build_some rfl 48 _ rfl _ fs HBF.out ?_ ?_; focus (go_simp; done)) | (refine wpList_build_some rfl 64 _ rfl _ cs HB.out ?_ ?_; focus (go_simp; done)))
  go_ret
  exact ⟨rfl, PZ.out, (bloc _ _).trans ((bloc _ _).mono (by simp))⟩
end Go.Proofs.YtjhiglfihjehcaaFmt
