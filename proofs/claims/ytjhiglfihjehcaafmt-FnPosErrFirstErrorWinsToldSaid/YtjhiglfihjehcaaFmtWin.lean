/- The functions that FnPosErrFirstErrorWins calls. -/
import Derived.Test.YtjhiglfihjehcaaFmtFolL
namespace Go.Proofs.YtjhiglfihjehcaaFmt
open Go.RowKit Go.Extern.Stop Go.Stop Go.Extern
set_option linter.unusedVariables false
theorem blater {w w' : World} {p : Addr} {v : Value} (hb : Below w.heap.size w w') (h : w.cell? p = some v) : w'.cell? p = some v := (hb.cell (World.block_lt_of_cell? w _ h)).trans h
theorem mkPosB (o l : Int) (w : World) : Calls Tryf.prog 15 #[.int .u32 o, .int .u32 l] w fun e w' => e = .returned (.agg #[.int .u32 o, .int .u32 l]) ∧ Below w.heap.size w w' := by
  go_enter Tryf.func15, Tryf.ntmps15
  go_wp2
  exact bodyPost_ret (v := .agg #[.int .u32 o, .int .u32 l]) (by simp [results, Tryf.results15, go_sem]) rfl ⟨rfl, bloc _ _⟩
theorem gO (o l : Int) (w : World) : Calls Tryf.prog 27 #[.agg #[.int .u32 o, .int .u32 l]] w fun e w' => e = .returned (.int .u32 o) ∧ Below w.heap.size w w' := by
  go_enter Tryf.func27, Tryf.ntmps27
  go_wp2
  go_ret
  exact ⟨rfl, bloc _ _⟩
theorem gL (o l : Int) (w : World) : Calls Tryf.prog 28 #[.agg #[.int .u32 o, .int .u32 l]] w fun e w' => e = .returned (.int .u32 l) ∧ Below w.heap.size w w' := by
  go_enter Tryf.func28, Tryf.ntmps28
  go_wp2
  go_ret
  exact ⟨rfl, bloc _ _⟩
set_option maxHeartbeats 1000000 in
theorem samePos (o l : Int) (w : World) : Calls Tryf.prog 20 #[.agg #[.int .u32 o, .int .u32 l], .agg #[.int .u32 o, .int .u32 l]] w fun e w' => e = .returned (.bool true) ∧ Below w.heap.size w w' := by
  have e1 : (o == o) = true := by simp
  have e2 : (l == l) = true := by simp
  have hB : Below w.heap.size w ((w.alloc (.cells #[.int .u32 o, .int .u32 l] 31)).alloc (.cells #[.int .u32 o, .int .u32 l] 31)) := btr (bloc _ _) (bloc _ _)
  go_enter Tryf.func20, Tryf.ntmps20
  go_wp2
  go_region_held3 (fun w' => w'.cell? ⟨w.heap.size, 0, none⟩ = some (.int .u32 o) ∧ w'.cell? ⟨w.heap.size, 1, none⟩ = some (.int .u32 l) ∧ w'.cell? ⟨w.heap.size + 1, 0, none⟩ = some (.int .u32 o) ∧ w'.cell? ⟨w.heap.size + 1, 1, none⟩ = some (.int .u32 l) ∧ Below w.heap.size w w') ((go_split_ands; refine ⟨?_, ?_, ?_, ?_, ?_⟩ <;> (first | assumption | exact hB.drew | (exact blater hb (by assumption)) | (exact btr (by assumption) hb) | (go_simp; done)))) (first | (go_simp; go_at_call 27; refine (gO _ _ _).mono ?_; rintro e w' ⟨rfl, hb⟩) | (go_simp; go_at_call 28; refine (gL _ _ _).mono ?_; rintro e w' ⟨rfl, hb⟩))
  all_goals
    go_split_ands
    have hf : Below w.heap.size w w' := by assumption
    go_wp2
    go_ret
    exact ⟨rfl, hf⟩
theorem sameF (name : ByteArray) (o l : Int) (t : ByteArray) (inc : Bool) (w : World) : Calls Tryf.prog 19 #[.agg #[.string name, .int .u32 o, .int .u32 l, .string t, .bool inc], .agg #[.string name, .int .u32 o, .int .u32 l, .string t, .bool inc]] w fun e w' => e = .returned (.bool true) ∧ Below w.heap.size w w' := by
  have e3 : (inc == inc) = true := by simp
  go_enter Tryf.func19, Tryf.ntmps19
  go_wp2_with fail
  refine (samePos _ _ _).mono ?_
  rintro e w1 ⟨rfl, hb⟩
  have k1 : w1.cell? ⟨w.heap.size, 4, none⟩ = some (.bool inc) := blater hb (by go_simp)
  have k2 : w1.cell? ⟨w.heap.size + 1, 4, none⟩ = some (.bool inc) := blater hb (by go_simp)
  have HB := Lib.hid (btr (btr (bloc _ _) (bloc _ _)) hb)
  clear hb
  go_wp2
  go_ret
  exact ⟨by first | rfl | simp, HB.out⟩
abbrev partsB (f : Nat) (tok o l on : Int) (lit : Value) (ba : Option Addr) (bl bc : Nat) : List (Nat × Value) := [(5, .pointer (some ⟨f, 0, none⟩)), (10, .int .u32 tok), (15, .agg #[.int .u32 o, .int .u32 l]), (28, .int .i64 on), (40, lit), (1, .slice ba bl bc)]
theorem builtB (f : Nat) (tok o l on : Int) (la : Option Addr) (ll lc : Nat) (ba : Option Addr) (bl bc : Nat) : ∃ cs : Array Value, Tryf.prog.built 64 (partsB f tok o l on (.slice la ll lc) ba bl bc) = some cs ∧ cs[1]? = some (.slice ba bl bc) ∧ cs[2]? = some (.int .u64 0) ∧ cs[3]? = some (.int .i32 0) ∧ cs[4]? = some (.int .i64 0) ∧ cs[5]? = some (.pointer (some ⟨f, 0, none⟩)) ∧ cs[7]? = some .nilIface ∧ cs[10]? = some (.int .u32 tok) ∧ cs[29]? = some (.int .i64 on) ∧ cs[2087]? = some (.slice la ll lc) :=
  ⟨(Tryf.prog.built 64 (partsB f tok o l on (.slice la ll lc) ba bl bc)).getD #[], by kernel_rfl, by kernel_rfl, by kernel_rfl, by kernel_rfl, by kernel_rfl, by kernel_rfl, by kernel_rfl, by kernel_rfl, by kernel_rfl, by kernel_rfl⟩
set_option maxRecDepth 100000 in
theorem mkB (name : ByteArray) (tok o l on : Int) (la : Option Addr) (ll lc : Nat) (ba : Option Addr) (bl bc : Nat) (w : World) :
    Calls Tryf.prog 16 #[.string name, .int .u32 tok, .agg #[.int .u32 o, .int .u32 l], .int .i64 on, .slice la ll lc, .slice ba bl bc] w fun e w' => e = .returned (.pointer (some ⟨w.heap.size + 1 + 1, 0, none⟩)) ∧ Pz (w.heap.size + 1 + 1) (w.heap.size + 1) name tok on (.slice la ll lc) ba bl bc .nilIface (.int .u64 0) (.int .i32 0) (.int .i64 0) w' ∧ Below w.heap.size w w' := by
  obtain ⟨cs, hb, h2⟩ := builtB (w.heap.size + 1) tok o l on la ll lc ba bl bc
  obtain ⟨fs, hbf, h0⟩ := builtF name
  have HB := Lib.hid hb
  have HBF := Lib.hid hbf
  have PZ := Lib.hid (Pz.made (w := w.alloc (.cells #[.int .u32 o, .int .u32 l] 31)) h0 (by rw [World.size_alloc]; exact h2))
  rw [World.size_alloc] at PZ
  clear hb hbf h0 h2
  go_enter Tryf.func16, Tryf.ntmps16
  go_wp2_with (first | (refine wpList_build_some rfl 48 _ rfl _ fs HBF.out ?_ ?_; focus (go_simp; done)) | (refine wpList_build_some rfl 64 _ rfl _ cs HB.out ?_ ?_; focus (go_simp; done)))
  go_ret
  exact ⟨rfl, PZ.out, btr (bloc _ _) (btr (bloc _ _) (bloc _ _))⟩
theorem rdB (p : Nat) (name : ByteArray) (o l : Int) (t : ByteArray) (inc : Bool) (w : World) (h : w.cell? ⟨p, 7, none⟩ = some (PE name o l t inc)) :
    Calls Tryf.prog 18 #[.pointer (some ⟨p, 0, none⟩)] w fun e w' => e = .returned (.tuple #[.agg #[.string name, .int .u32 o, .int .u32 l, .string t, .bool inc], .bool true]) ∧ Below w.heap.size w w' := by
  unfold PE at h
  have h1 := ta38
  have hpl := lt_of_cell h
  go_enter Tryf.func18, Tryf.ntmps18
  go_wp2
  exact bodyPost_ret (v := .tuple #[.agg #[.string name, .int .u32 o, .int .u32 l, .string t, .bool inc], .bool true]) (by simp [results, Tryf.results18, go_sem]) rfl ⟨rfl, btr (bloc _ _) (bloc _ _)⟩
theorem stB (p : Nat) (tok : Int) (bsp r ww : Value) (w : World) (h2 : w.cell? ⟨p, 2, none⟩ = some bsp) (h3 : w.cell? ⟨p, 3, none⟩ = some r) (h4 : w.cell? ⟨p, 4, none⟩ = some ww) (h10 : w.cell? ⟨p, 10, none⟩ = some (.int .u32 tok)) :
    Calls Tryf.prog 29 #[.pointer (some ⟨p, 0, none⟩)] w fun e w' => e = .returned (.tuple #[.int .u32 tok, r, ww, bsp]) ∧ Below w.heap.size w w' := by
  go_enter Tryf.func29, Tryf.ntmps29
  go_wp2
  go_quiet (fail)
  go_wp2
  refine bodyPost_ret (results_tmp4 rfl _ _ _) rfl ?_
  exact ⟨rfl, below_drewN (Below.refl _ _) _⟩
theorem lexA (p f : Nat) (name : ByteArray) (on : Int) (la : Option Addr) (ll lc : Nat) (ba : Option Addr) (bl bc : Nat) (er : Value) (w : World) (hbl : bl ≤ 1048576)
    (h : Pz p f name 1 on (.slice la ll lc) ba bl bc er (.int .u64 (bl + 1)) (.int .i32 1114112) (.int .i64 1) w) :
    Calls Tryf.prog 21 #[.pointer (some ⟨p, 0, none⟩), .int .i64 bl] w fun e w' => e = .returned (.bool true) ∧ Below w.heap.size w w' := by
  obtain ⟨c7, c2, c3, c4, c10⟩ := h.cell_er
  have S := Lib.hid (stB p 1 _ _ _ w c2 c3 c4 c10)
  have ub : ((bl : Int) + 1 == (bl : Int) + 1) = true := by simp
  clear c7 c2 c3 c4 c10 h
  go_enter Tryf.func21, Tryf.ntmps21
  go_wp2_with (first | (go_at_call 30; go_in) | (go_at_call 31; go_in) | (go_at_call 29; refine S.out.mono ?_; rintro e w2 ⟨rfl, hb2⟩))
  go_ret
  exact ⟨by first | rfl | simp, hb2⟩
end Go.Proofs.YtjhiglfihjehcaaFmt
