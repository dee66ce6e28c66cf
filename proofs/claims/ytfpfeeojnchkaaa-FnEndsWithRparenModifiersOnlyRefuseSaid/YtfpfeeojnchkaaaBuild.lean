/- The walk of zzBuild. -/
import Derived.Test.YtfpfeeojnchkaaaModel
import Derived.Deep.RegionWith
import Derived.Deep.RegionHeld3
import Derived.Deep.DeepCutAuto
import Derived.Deep.CutBlock
import Derived.Deep.Light
import Derived.Deep.LoopGhost
namespace Go.Proofs.Ytfpfeeojnchkaaa
open Go.RowKit
set_option linter.unusedVariables false

theorem ptr_info : (Try.prog.info? 25).map (fun i => (i.zero, i.size, i.bytes)) = some (some (.pointer none), 1, 8) := by kernel_rfl
theorem bool_info : (Try.prog.info? 4).map (fun i => (i.zero, i.size, i.bytes)) = some (some (.bool false), 1, 1) := by kernel_rfl

set_option maxRecDepth 100000 in
set_option maxHeartbeats 8000000 in
theorem build_x (b len cap : Nat) (zs : Nat → Int) (cl mi : Bool) (w : World) (l0 : 0 < len) (hl : len ≤ 4096) (hc : ∀ i, i < len → w.cell? ⟨b, i, none⟩ = some (.int .u8 (zs i)) ∧ 0 ≤ zs i ∧ zs i < 256) :
    Calls Try.prog 8 #[.slice (some ⟨b, 0, none⟩) len cap, .bool cl, .bool mi] w (BuildPost w (mrun cl mi zs len)) := by
  obtain ⟨i0, hi, hz0, hz1, hz2⟩ := info_parts ptr_info
  obtain ⟨i1, hi', hz0', hz1', hz2'⟩ := info_parts bool_info
  have HC := Lib.hid hc
  clear hc
  go_enter Try.func8, Try.ntmps8
  go_wp2
  go_loopg [11, 12, 13, 14, 15] len (fun gk st ms me mf i wr => ∃ k, k ≤ len ∧ gk = len - k ∧ i = .int .i64 k ∧ Rel w.heap.size w (mrun cl mi zs k) st ms me mf wr)
  case atStart => exact ⟨0, Nat.zero_le _, rfl, rfl, [], ⟨World.ownsRow_nil _ _ _ _, World.ownsRow_nil _ _ _ _, World.ownsRow_nil _ _ _ _, World.ownsRow_nil _ _ _ _, rfl, Sep.nil _, Sep.nil _, Sep.nil _, Sep.nil _, Sep.nil _, Sep.nil _⟩, fun i p e h => by simp at h, Below.refl _ _⟩
  case round =>
    obtain ⟨k, hk, hgk, rfl, hR⟩ := hrel
    have HG := Lib.hid hgk
    clear hgk
    by_cases hlt : k < len
    · obtain ⟨hx, x0, x1⟩ := HC.out k hlt
      have hBR : Below w.heap.size w wr := by obtain ⟨_, _, _, h⟩ := hR; exact h
      replace hx := (hBR.cell (World.block_lt_of_cell? w _ hx)).trans hx
      obtain ⟨x, hxx⟩ : ∃ x, x = zs k := ⟨_, rfl⟩
      have HX := Lib.hid hxx
      rw [← hxx] at hx x0 x1
      clear hxx hBR
      have HR := Lib.hid hR
      clear hR
      have HK1 := Lib.hid (show k + 1 ≤ len by omega)
      have HKN := Lib.hid (show Value.int .i64 ((k : Int) + 1) = .int .i64 ((k + 1 : Nat) : Int) by rfl)
      have HKM := Lib.hid (show len - (k + 1) < gk by rw [HG.out]; omega)
      have k0 : (0 : Int) ≤ (k : Int) := by omega
      have k1 : (k : Int) < (len : Int) := by omega
      obtain ⟨f1, e1⟩ : ∃ f, (bits .and .i64 (x / 6) 1 != 0) = f := ⟨_, rfl⟩
      obtain ⟨f2, e2⟩ : ∃ f, (bits .and .i64 (x / 6) 2 != 0) = f := ⟨_, rfl⟩
      obtain ⟨f4, e4⟩ : ∃ f, (bits .and .i64 (x / 6) 4 != 0) = f := ⟨_, rfl⟩
      obtain ⟨f8, e8⟩ : ∃ f, (bits .and .i64 (x / 6) 8 != 0) = f := ⟨_, rfl⟩
      obtain ⟨ng, e16⟩ : ∃ f, (bits .and .i64 (x / 6) 16 != 0) = f := ⟨_, rfl⟩
      obtain ⟨bg, hbg⟩ : ∃ g, g = (f1 && !cl) := ⟨_, rfl⟩
      obtain ⟨cp, hcp⟩ : ∃ g, g = (f2 && !cl) := ⟨_, rfl⟩
      obtain ⟨ds, hds⟩ : ∃ g, g = (f4 && !cl) := ⟨_, rfl⟩
      obtain ⟨rd, hrd⟩ : ∃ g, g = (f8 && !cl) := ⟨_, rfl⟩
      have FG := Lib.hid (show flag cl x = (bg || cp || ds || rd) by unfold flag fl; rw [e1, e2, e4, e8, ← hbg, ← hcp, ← hds, ← hrd])
      have BG := Lib.hid hbg
      have CP := Lib.hid hcp
      have DS := Lib.hid hds
      have RD := Lib.hid hrd
      clear hbg hcp hds hrd
      go_upto_region 11 with (fail)
      go_cut [19] (fun v wc => v = .bool bg ∧ wr = wc)
      case first => as_aux_lemma =>
        cases f1 <;> (go_wp2_with fail; go_meet; exact ⟨by rw [BG.out]; simp, rfl⟩)
      obtain ⟨rfl, rfl⟩ := hcut
      go_upto_region 12 with (fail)
      go_cut [20] (fun v wc => v = .bool cp ∧ wr = wc)
      case first => as_aux_lemma =>
        cases f2 <;> (go_wp2_with fail; go_meet; exact ⟨by rw [CP.out]; simp, rfl⟩)
      obtain ⟨rfl, rfl⟩ := hcut
      go_upto_region 13 with (fail)
      go_cut [21] (fun v wc => v = .bool ds ∧ wr = wc)
      case first => as_aux_lemma =>
        cases f4 <;> (go_wp2_with fail; go_meet; exact ⟨by rw [DS.out]; simp, rfl⟩)
      obtain ⟨rfl, rfl⟩ := hcut
      go_upto_region 14 with (fail)
      go_cut [22] (fun v wc => v = .bool rd ∧ wr = wc)
      case first => as_aux_lemma =>
        cases f8 <;> (go_wp2_with fail; go_meet; exact ⟨by rw [RD.out]; simp, rfl⟩)
      obtain ⟨rfl, rfl⟩ := hcut
      go_upto_block 2 with (fail)
      clear e1 e2 e4 e8 e16
      obtain ⟨s0, hs0⟩ : ∃ s, s = mrun cl mi zs k := ⟨_, rfl⟩
      rw [← hs0] at HR
      have HS0 := Lib.hid hs0
      have hsl : s0.length ≤ 4096 := by have := mrun_len cl mi zs k; rw [hs0]; omega
      have hslk : s0.length ≤ k := by rw [hs0]; exact mrun_len cl mi zs k
      clear hs0
      go_cut [11, 12, 13, 14, 17, 24, 25, 26] (fun st ms me mf _ p4 a4 b4 wc => Mid w.heap.size w (mstep cl mi s0 x) (flag cl x) false false false false false st ms me mf p4 a4 b4 wc)
      case first =>
        obtain ⟨ps, hrows, htr, hB⟩ := HR.out
        have hBs : w.heap.size ≤ wr.heap.size := hB.size
        rcases (show x % 6 = 0 ∨ x % 6 = 1 ∨ x % 6 = 2 ∨ x % 6 = 3 ∨ x % 6 = 4 ∨ x % 6 = 5 by omega) with h | h | h | h | h | h
        · as_aux_lemma =>
          have MS := Lib.hid (show mstep cl mi s0 x = s0 ++ [(true, true && !flag cl x, flag cl x)] by unfold mstep lf; rw [if_neg (by omega), h]; rfl)
          have y0 : (x % 6 == 0) = true := by rw [h]; rfl
          clear h
          go_wp2_with (first | (go_at_call 13; refine (mk_13 _).mono ?_; rintro e w' ⟨p, c, rfl, hnew⟩))
          go_meet
          exact mid_new hrows htr hB hBs hnew MS.out hsl
        · as_aux_lemma =>
          have MS := Lib.hid (show mstep cl mi s0 x = s0 ++ [(true, true && !flag cl x, flag cl x)] by unfold mstep lf; rw [if_neg (by omega), h]; rfl)
          have y0 : (x % 6 == 0) = false := by rw [h]; rfl
          have y1 : (x % 6 == 1) = true := by rw [h]; rfl
          clear h
          go_wp2_with (first | (go_at_call 14; refine (mk_14 _).mono ?_; rintro e w' ⟨p, c, rfl, hnew⟩))
          go_meet
          exact mid_new hrows htr hB hBs hnew MS.out hsl
        · as_aux_lemma =>
          have MS := Lib.hid (show mstep cl mi s0 x = s0 ++ [(false, false && !flag cl x, flag cl x)] by unfold mstep lf; rw [if_neg (by omega), h]; rfl)
          have y0 : (x % 6 == 0) = false := by rw [h]; rfl
          have y1 : (x % 6 == 1) = false := by rw [h]; rfl
          have y2 : (x % 6 == 2) = true := by rw [h]; rfl
          clear h
          go_wp2_with (first | (go_at_call 15; refine (mk_15 _).mono ?_; rintro e w' ⟨p, c, rfl, hnew⟩))
          go_meet
          exact mid_new hrows htr hB hBs hnew MS.out hsl
        · as_aux_lemma =>
          have MS := Lib.hid (show mstep cl mi s0 x = s0 ++ [(false, false && !flag cl x, flag cl x)] by unfold mstep lf; rw [if_neg (by omega), h]; rfl)
          have y0 : (x % 6 == 0) = false := by rw [h]; rfl
          have y1 : (x % 6 == 1) = false := by rw [h]; rfl
          have y2 : (x % 6 == 2) = false := by rw [h]; rfl
          have y3 : (x % 6 == 3) = true := by rw [h]; rfl
          clear h
          go_wp2_with (first | (go_at_call 16; refine (mk_16 _).mono ?_; rintro e w' ⟨p, c, rfl, hnew⟩))
          go_meet
          exact mid_new hrows htr hB hBs hnew MS.out hsl
        · as_aux_lemma =>
          have MS := Lib.hid (show mstep cl mi s0 x = s0 ++ [(false, false && !flag cl x, flag cl x)] by unfold mstep lf; rw [if_neg (by omega), h]; rfl)
          have y0 : (x % 6 == 0) = false := by rw [h]; rfl
          have y1 : (x % 6 == 1) = false := by rw [h]; rfl
          have y2 : (x % 6 == 2) = false := by rw [h]; rfl
          have y3 : (x % 6 == 3) = false := by rw [h]; rfl
          have y4 : (x % 6 == 4) = true := by rw [h]; rfl
          clear h
          go_wp2_with (first | (go_at_call 17; refine (mk_17 _).mono ?_; rintro e w' ⟨p, c, rfl, hnew⟩))
          go_meet
          exact mid_new hrows htr hB hBs hnew MS.out hsl
        · obtain ⟨o1, o2, o3, o4, hpl0, q1, q2, q3, q4, q5, q6⟩ := hrows
          have y0 : (x % 6 == 0) = false := by rw [h]; rfl
          have y1 : (x % 6 == 1) = false := by rw [h]; rfl
          have y2 : (x % 6 == 2) = false := by rw [h]; rfl
          have y3 : (x % 6 == 3) = false := by rw [h]; rfl
          have y4 : (x % 6 == 4) = false := by rw [h]; rfl
          by_cases h2 : s0.length < 2
          · as_aux_lemma =>
            obtain ⟨A, cA, rfl⟩ := own_form o1
            have MS := Lib.hid (show mstep cl mi s0 x = s0 by unfold mstep; rw [if_pos h, if_pos h2])
            clear h
            have h3 : (s0.length : Int) < 2 := by omega
            go_wp2_with fail
            go_roundg (len - (k + 1))
            case measure => exact HKM.out
            case rel =>
              refine ⟨k + 1, HK1.out, rfl, HKN.out, ?_⟩
              go_light
              rw [show mrun cl mi zs (k + 1) = mstep cl mi s0 x by rw [HS0.out, HX.out]; rfl, MS.out]
              exact HR.out
          · obtain ⟨m, hm⟩ : ∃ m, s0.length = m + 2 := ⟨s0.length - 2, by omega⟩
            obtain ⟨g1, d1, rfl, e1⟩ := own_some o1 (by omega)
            obtain ⟨g2, d2, rfl, e2⟩ := own_some o2 (by omega)
            obtain ⟨g3, d3, rfl, e3⟩ := own_some o3 (by omega)
            obtain ⟨g4, d4, rfl, e4⟩ := own_some o4 (by omega)
            obtain ⟨pl, hpl⟩ : ∃ pl, ps[m]? = some pl := ⟨_, List.getElem?_eq_getElem (show m < ps.length by omega)⟩
            obtain ⟨pr, hpr⟩ : ∃ pr, ps[m + 1]? = some pr := ⟨_, List.getElem?_eq_getElem (show m + 1 < ps.length by omega)⟩
            obtain ⟨el, hel⟩ : ∃ el, s0[m]? = some el := ⟨_, List.getElem?_eq_getElem (show m < s0.length by omega)⟩
            obtain ⟨er, her⟩ : ∃ er, s0[m + 1]? = some er := ⟨_, List.getElem?_eq_getElem (show m + 1 < s0.length by omega)⟩
            have c1l : wr.cell? ⟨g1, m, none⟩ = some (PT pl) := by rw [o1.cellAt m (by omega), List.getElem?_map, hpl]; rfl
            have c1r : wr.cell? ⟨g1, m + 1, none⟩ = some (PT pr) := by rw [o1.cellAt (m + 1) (by omega), List.getElem?_map, hpr]; rfl
            have c2l : wr.cell? ⟨g2, m, none⟩ = some (.bool el.1) := by rw [o2.cellAt m (by omega), List.getElem?_map, hel]; rfl
            have c2r : wr.cell? ⟨g2, m + 1, none⟩ = some (.bool er.1) := by rw [o2.cellAt (m + 1) (by omega), List.getElem?_map, her]; rfl
            have c3l : wr.cell? ⟨g3, m, none⟩ = some (.bool el.2.1) := by rw [o3.cellAt m (by omega), List.getElem?_map, hel]; rfl
            have c3r : wr.cell? ⟨g3, m + 1, none⟩ = some (.bool er.2.1) := by rw [o3.cellAt (m + 1) (by omega), List.getElem?_map, her]; rfl
            have p1 : wr.ownsRow w.heap.size 25 1 (.slice (some ⟨g1, 0, none⟩) m d1) (s0.take m).length ((ps.take m).map PT) := by rw [List.length_take, Nat.min_eq_left (show m ≤ s0.length by omega), List.map_take]; exact own_take o1 (by omega)
            have p2 : wr.ownsRow w.heap.size 4 1 (.slice (some ⟨g2, 0, none⟩) m d2) (s0.take m).length ((s0.take m).map fun e => .bool e.1) := by rw [List.length_take, Nat.min_eq_left (show m ≤ s0.length by omega), List.map_take]; exact own_take o2 (by omega)
            have p3 : wr.ownsRow w.heap.size 4 1 (.slice (some ⟨g3, 0, none⟩) m d3) (s0.take m).length ((s0.take m).map fun e => .bool e.2.1) := by rw [List.length_take, Nat.min_eq_left (show m ≤ s0.length by omega), List.map_take]; exact own_take o3 (by omega)
            have p4 : wr.ownsRow w.heap.size 4 1 (.slice (some ⟨g4, 0, none⟩) m d4) (s0.take m).length ((s0.take m).map fun e => .bool e.2.2) := by rw [List.length_take, Nat.min_eq_left (show m ≤ s0.length by omega), List.map_take]; exact own_take o4 (by omega)
            have hlm : (s0.take m).length = m := by rw [List.length_take]; omega
            have hpl2 : (ps.take m).length = (s0.take m).length := by rw [List.length_take, hlm]; omega
            have j1 : (s0.length : Int) - 2 = (m : Int) := by omega
            have j2 : (s0.length : Int) - 1 = (m : Int) + 1 := by omega
            have j3 : ¬ (s0.length : Int) < 2 := by omega
            have j4 : (0 : Int) ≤ (m : Int) := by omega
            have j5 : (m : Int) < (s0.length : Int) := by omega
            have j6 : (m : Int) + 1 < (s0.length : Int) := by omega
            have j7 : (0 : Int) ≤ (m : Int) + 1 := by omega
            have j8 : ((m : Int) + 1).toNat = m + 1 := by omega
            have j9 : (m : Int) ≤ (d1 : Int) ∧ (m : Int) ≤ (d2 : Int) ∧ (m : Int) ≤ (d3 : Int) ∧ (m : Int) ≤ (d4 : Int) := by omega
            obtain ⟨j91, j92, j93, j94⟩ := j9
            have HM0 := Lib.hid hm
            have HPL2 := Lib.hid hpl2
            clear hm hlm hpl2 hpl0 e1 e2 e3 e4
            cases mi
            · have MS := Lib.hid (show mstep cl false s0 x = s0.take m ++ [(el.1, er.2.1 && !flag cl x, flag cl x)] by
                have hm := HM0.out
                unfold mstep pick
                rw [if_pos h, if_neg (by omega), show s0.length - 2 = m by omega, show s0.length - 1 = m + 1 by omega]
                simp [List.getD_eq_getElem?_getD, hel, her])
              have SX := Says.later (htr _ _ _ hpl hel).1 (show Kp none wr wr.drew from fun _ _ _ _ _ _ hh => hh)
              have SY := Says.later (htr _ _ _ hpr her).2 (show Kp none wr wr.drew from fun _ _ _ _ _ _ hh => hh)
              clear h
              go_wp2_with fail
              go_region_held3 (fun w' => w'.cell? ⟨g1, m, none⟩ = some (PT pl) ∧ w'.cell? ⟨g1, m + 1, none⟩ = some (PT pr)) (first | (go_split_ands; (refine ⟨?_, ?_⟩) <;> assumption) | (go_split_ands; (refine ⟨blater hnew.1 ?_, blater hnew.1 ?_⟩) <;> assumption) | go_keep) (first | (go_at_call 18; refine (mk_18 _ _ _ _ _ SX SY).mono ?_; rintro e w' ⟨p, c, rfl, hnew⟩))
              have hnw : New wr w' p c el.1 er.2.1 := ⟨btrans (Below.drew (Below.refl _ _)) hnew.1, hnew.2⟩
              have b1 : w'.cell? ⟨g2, m, none⟩ = some (.bool el.1) := blater hnw.1 c2l
              have b2 : w'.cell? ⟨g3, m + 1, none⟩ = some (.bool er.2.1) := blater hnw.1 c3r
              go_wp2_with fail
              go_meet
              exact mid_new ⟨p1, p2, p3, p4, HPL2.out, q1.cut.symm.cut.symm, q2.cut.symm.cut.symm, q3.cut.symm.cut.symm, q4.cut.symm.cut.symm, q5.cut.symm.cut.symm, q6.cut.symm.cut.symm⟩ (htr.take_ m) hB hBs hnw MS.out (by rw [List.length_take]; omega)
            · have MS := Lib.hid (show mstep cl true s0 x = s0.take m ++ [(er.1, el.2.1 && !flag cl x, flag cl x)] by
                have hm := HM0.out
                unfold mstep pick
                rw [if_pos h, if_neg (by omega), show s0.length - 2 = m by omega, show s0.length - 1 = m + 1 by omega]
                simp [List.getD_eq_getElem?_getD, hel, her])
              have SX := Says.later (htr _ _ _ hpr her).1 (show Kp none wr wr.drew from fun _ _ _ _ _ _ hh => hh)
              have SY := Says.later (htr _ _ _ hpl hel).2 (show Kp none wr wr.drew from fun _ _ _ _ _ _ hh => hh)
              clear h
              go_wp2_with fail
              go_region_held3 (fun w' => w'.cell? ⟨g1, m, none⟩ = some (PT pl) ∧ w'.cell? ⟨g1, m + 1, none⟩ = some (PT pr)) (first | (go_split_ands; (refine ⟨?_, ?_⟩) <;> assumption) | (go_split_ands; (refine ⟨blater hnew.1 ?_, blater hnew.1 ?_⟩) <;> assumption) | go_keep) (first | (go_at_call 18; refine (mk_18 _ _ _ _ _ SX SY).mono ?_; rintro e w' ⟨p, c, rfl, hnew⟩))
              have hnw : New wr w' p c er.1 el.2.1 := ⟨btrans (Below.drew (Below.refl _ _)) hnew.1, hnew.2⟩
              have b1 : w'.cell? ⟨g2, m + 1, none⟩ = some (.bool er.1) := blater hnw.1 c2r
              have b2 : w'.cell? ⟨g3, m, none⟩ = some (.bool el.2.1) := blater hnw.1 c3l
              go_wp2_with fail
              go_meet
              exact mid_new ⟨p1, p2, p3, p4, HPL2.out, q1.cut.symm.cut.symm, q2.cut.symm.cut.symm, q3.cut.symm.cut.symm, q4.cut.symm.cut.symm, q5.cut.symm.cut.symm, q6.cut.symm.cut.symm⟩ (htr.take_ m) hB hBs hnw MS.out (by rw [List.length_take]; omega)
      case rest =>
        obtain ⟨ps, s, p, c, a, b', r, n, rfl, rfl, rfl, hn, hm⟩ := hcut
        obtain rfl : n = 0 := by simpa using hn
        have hp := hm.2.2.2.2.1
        have c6 : wc.cell? ⟨p, 6, none⟩ = some (.bool false) := (cellB hp 6).trans rfl
        have c7 : wc.cell? ⟨p, 7, none⟩ = some (.bool false) := (cellB hp 7).trans rfl
        have c8 : wc.cell? ⟨p, 8, none⟩ = some (.bool false) := (cellB hp 8).trans rfl
        have c9 : wc.cell? ⟨p, 9, none⟩ = some (.bool false) := (cellB hp 9).trans rfl
        have z6 := frozenB hp 6
        have z7 := frozenB hp 7
        have z8 := frozenB hp 8
        have z9 := frozenB hp 9
        have M1 := Lib.hid (midp_set (i := 6) (u := .bool ng) (midp_set (i := 9) (u := .bool ds) (midp_set (i := 8) (u := .bool cp) (midp_set (i := 7) (u := .bool bg) hm (bg' := bg) rfl) (cp' := cp) rfl) (ds' := ds) rfl) (ng' := ng) rfl)
        clear hm hp hn
        go_upto_if 155 with (fail)
        go_cut [11, 12, 13, 14, 24, 25, 26] (fun st ms me mf p4 a4 b4 wz => Mid w.heap.size w (mstep cl mi s0 x) (flag cl x) ng bg cp ds rd st ms me mf p4 a4 b4 wz)
        case first => as_aux_lemma =>
          have hm := M1.out
          have hp := hm.2.2.2.2.1
          obtain ⟨V, hV⟩ : ∃ V, V = ((((wc.setCell ⟨p, 7, none⟩ (.bool bg)).setCell ⟨p, 8, none⟩ (.bool cp)).setCell ⟨p, 9, none⟩ (.bool ds)).setCell ⟨p, 6, none⟩ (.bool ng)) := ⟨_, rfl⟩
          rw [← hV] at hm hp
          rw [← hV]
          clear hV M1 c6 c7 c8 c9 z6 z7 z8 z9
          have HM := Lib.hid hm
          have hlt2 := lt_of_heap hp
          have hne1 : p ≠ V.heap.size := by omega
          have hne2 : p ≠ V.heap.size + 1 := by omega
          have c10 : V.cell? ⟨p, 10, none⟩ = some (.slice r 0 0) := (cellB hp 10).trans rfl
          have z10 := frozenB hp 10
          clear hm hp
          cases rd
          · go_wp2_with fail
            go_meet
            exact ⟨ps, s, p, c, a, b', r, 0, rfl, rfl, rfl, rfl, HM.out⟩
          · go_wp2_with fail
            go_meet
            exact ⟨ps, s, p, c, a, b', some ⟨V.heap.size + 1, 0, none⟩, 1, rfl, rfl, rfl, rfl, midp_alloc (midp_alloc (midp_set (i := 10) (u := .slice (some ⟨V.heap.size + 1, 0, none⟩) 1 1) HM.out rfl) _) _⟩
        case rest =>
        clear M1 c6 c7 c8 c9 z6 z7 z8 z9
        obtain ⟨ps, s, p, c, a, b', r, n, rfl, rfl, rfl, hn, hm⟩ := hcut
        obtain ⟨wz, rfl⟩ : ∃ wz : World, wz = wc := ⟨_, rfl⟩
        have HM := Lib.hid hm
        have HNN := Lib.hid hn
        clear hm hn
        obtain ⟨fg, hfg⟩ : ∃ g, g = (bg || cp || ds || rd) := ⟨_, rfl⟩
        have HFG := Lib.hid hfg
        clear hfg
        go_upto_region 53 with (fail)
        go_cut [30] (fun v wc => v = .bool fg ∧ wz = wc)
        case first => as_aux_lemma =>
          cases bg
          · cases cp
            · cases ds
              · cases rd <;> (go_wp2_with fail; go_meet; exact ⟨by rw [HFG.out]; rfl, rfl⟩)
              · go_wp2_with fail; go_meet; exact ⟨by rw [HFG.out]; simp, rfl⟩
            · go_wp2_with fail; go_meet; exact ⟨by rw [HFG.out]; simp, rfl⟩
          · go_wp2_with fail; go_meet; exact ⟨by rw [HFG.out]; simp, rfl⟩
        obtain ⟨rfl, rfl⟩ := hcut
        obtain ⟨be, hbe⟩ : ∃ g, g = (b' && !fg) := ⟨_, rfl⟩
        have HBE := Lib.hid hbe
        clear hbe
        go_upto_if 172 with (fail)
        go_cut [26] (fun v wc => v = .bool be ∧ wz = wc)
        case first => as_aux_lemma =>
          cases fg <;> (go_wp2_with fail; go_meet; exact ⟨by rw [HBE.out]; simp, rfl⟩)
        obtain ⟨rfl, rfl⟩ := hcut
        obtain ⟨⟨o1, o2, o3, o4, hpl, q1, q2, q3, q4, q5, q6⟩, _, BB, _, _, _, _, hms, hsl2⟩ := HM.out
        have KK := Kp.refl none wz
        have hbz := BB.size
        have HMS := Lib.hid hms
        have HPL := Lib.hid hpl
        clear hms hpl
        have tok1 : True := trivial
        have tok2 : True := trivial
        have tok3 : True := trivial
        have tok4 : True := trivial
        go_wp2_with (first | (at_builtin; have _t := tok1; refine wpList_append_own_at _ rfl (.tmp 173) (.tmp 175) 29 rfl w.heap.size 25 i0 (.pointer none) 1 8 Try.underlying29 hi hz0 hz1 hz2 rfl (by decide) u11 s.length (ps.map PT) rfl (o1.alloc _) ⟨wz.heap.size, 0, none⟩ 1 1 [PT p] rfl rfl (cell_one_new _ _ _) (by intro u hu; simp at hu; subst hu; rfl) (by unfold maxLen; omega) (by omega) (by have := hbz; simp; omega) ?_; intro v1 w1 no1 go1 _ ao1; have kk := Kp.row (x := none) (o1.alloc _) (.inl rfl) go1; replace KK := KK.trans ((Kp.below (balloc (Below.refl _ _) _)).trans kk); replace BB := (BB.alloc hbz _).grown go1 (by simp; omega) (fun j hj => ((o1.lt j hj).1)); replace hbz := BB.size; have t2 := Sep.grow (q1) ao1 (o2.alloc _); replace o2 := own_keep o2 go1 (q1.symm); replace q1 := t2; clear t2; have t3 := Sep.grow (q2) ao1 (o3.alloc _); replace o3 := own_keep o3 go1 (q2.symm); replace q2 := t3; clear t3; have t4 := Sep.grow (q3) ao1 (o4.alloc _); replace o4 := own_keep o4 go1 (q3.symm); replace q3 := t4; clear t4; replace o1 := no1; clear no1 go1 ao1 kk _t tok1) | (at_builtin; have _t := tok2; refine wpList_append_own_at _ rfl (.tmp 177) (.tmp 179) 30 rfl w.heap.size 4 i1 (.bool false) 1 1 Try.underlying30 hi' hz0' hz1' hz2' rfl (by decide) u12 s.length (s.map fun e => .bool e.1) rfl (o2.alloc _) ⟨w1.heap.size, 0, none⟩ 1 1 [.bool a] rfl rfl (cell_one_new _ _ _) (by intro u hu; simp at hu; subst hu; rfl) (by unfold maxLen; omega) (by omega) (by have := hbz; simp; omega) ?_; intro v2 w2 no2 go2 _ ao2; have kk := Kp.row (x := none) (o2.alloc _) (.inr rfl) go2; replace KK := KK.trans ((Kp.below (balloc (Below.refl _ _) _)).trans kk); replace BB := (BB.alloc hbz _).grown go2 (by simp; omega) (fun j hj => ((o2.lt j hj).1)); replace hbz := BB.size; have t1 := Sep.grow (q1.symm) ao2 (o1.alloc _); replace o1 := own_keep o1 go2 (q1); replace q1 := t1.symm; clear t1; have t3 := Sep.grow (q4) ao2 (o3.alloc _); replace o3 := own_keep o3 go2 (q4.symm); replace q4 := t3; clear t3; have t4 := Sep.grow (q5) ao2 (o4.alloc _); replace o4 := own_keep o4 go2 (q5.symm); replace q5 := t4; clear t4; replace o2 := no2; clear no2 go2 ao2 kk _t tok2) | (at_builtin; have _t := tok3; refine wpList_append_own_at _ rfl (.tmp 181) (.tmp 183) 30 rfl w.heap.size 4 i1 (.bool false) 1 1 Try.underlying30 hi' hz0' hz1' hz2' rfl (by decide) u13 s.length (s.map fun e => .bool e.2.1) rfl (o3.alloc _) ⟨w2.heap.size, 0, none⟩ 1 1 [.bool be] rfl rfl (cell_one_new _ _ _) (by intro u hu; simp at hu; subst hu; rfl) (by unfold maxLen; omega) (by omega) (by have := hbz; simp; omega) ?_; intro v3 w3 no3 go3 _ ao3; have kk := Kp.row (x := none) (o3.alloc _) (.inr rfl) go3; replace KK := KK.trans ((Kp.below (balloc (Below.refl _ _) _)).trans kk); replace BB := (BB.alloc hbz _).grown go3 (by simp; omega) (fun j hj => ((o3.lt j hj).1)); replace hbz := BB.size; have t1 := Sep.grow (q2.symm) ao3 (o1.alloc _); replace o1 := own_keep o1 go3 (q2); replace q2 := t1.symm; clear t1; have t2 := Sep.grow (q4.symm) ao3 (o2.alloc _); replace o2 := own_keep o2 go3 (q4); replace q4 := t2.symm; clear t2; have t4 := Sep.grow (q6) ao3 (o4.alloc _); replace o4 := own_keep o4 go3 (q6.symm); replace q6 := t4; clear t4; replace o3 := no3; clear no3 go3 ao3 kk _t tok3) | (at_builtin; have _t := tok4; refine wpList_append_own_at _ rfl (.tmp 185) (.tmp 187) 30 rfl w.heap.size 4 i1 (.bool false) 1 1 Try.underlying30 hi' hz0' hz1' hz2' rfl (by decide) u14 s.length (s.map fun e => .bool e.2.2) rfl (o4.alloc _) ⟨w3.heap.size, 0, none⟩ 1 1 [.bool fg] rfl rfl (cell_one_new _ _ _) (by intro u hu; simp at hu; subst hu; rfl) (by unfold maxLen; omega) (by omega) (by have := hbz; simp; omega) ?_; intro v4 w4 no4 go4 _ ao4; have kk := Kp.row (x := none) (o4.alloc _) (.inr rfl) go4; replace KK := KK.trans ((Kp.below (balloc (Below.refl _ _) _)).trans kk); replace BB := (BB.alloc hbz _).grown go4 (by simp; omega) (fun j hj => ((o4.lt j hj).1)); replace hbz := BB.size; have t1 := Sep.grow (q3.symm) ao4 (o1.alloc _); replace o1 := own_keep o1 go4 (q3); replace q3 := t1.symm; clear t1; have t2 := Sep.grow (q5.symm) ao4 (o2.alloc _); replace o2 := own_keep o2 go4 (q5); replace q5 := t2.symm; clear t2; have t3 := Sep.grow (q6.symm) ao4 (o3.alloc _); replace o3 := own_keep o3 go4 (q6); replace q6 := t3.symm; clear t3; replace o4 := no4; clear no4 go4 ao4 kk _t tok4))
        go_roundg (len - (k + 1))
        case measure => exact HKM.out
        case rel =>
          refine ⟨k + 1, HK1.out, rfl, HKN.out, ?_⟩
          go_light
          have hfl : flag cl x = fg := by rw [FG.out, HFG.out]
          rw [show mrun cl mi zs (k + 1) = mstep cl mi s0 x by rw [HS0.out, HX.out]; rfl]
          rw [HBE.out, ← hfl] at o3
          rw [← hfl] at o4
          have hd1 : flag cl x = (bg || cp || ds || decide (0 < n)) := by rw [HNN.out]; exact FG.out
          have h0 := HM.out
          with_reducible exact mid_done (rd := rd) h0 hd1 KK BB o1 o2 o3 o4 q1 q2 q3 q4 q5 q6
    · as_aux_lemma =>
      obtain rfl : k = len := by omega
      obtain ⟨s0, hs0⟩ : ∃ s, s = mrun cl mi zs k := ⟨_, rfl⟩
      have hsk : s0.length ≤ k := by rw [hs0]; exact mrun_len cl mi zs k
      rw [← hs0] at hR
      have HS := Lib.hid hs0
      clear hs0
      obtain ⟨ps, ⟨o1, o2, o3, o4, hpl, _⟩, htr, hB⟩ := hR
      by_cases h0 : s0.length = 0
      · obtain ⟨A, cA, rfl⟩ := own_form o1
        have hnil : s0 = [] := List.eq_nil_of_length_eq_zero h0
        subst hnil
        have HB := Lib.hid hB
        clear hB htr o1 o2 o3 o4 hpl
        go_wp2
        exact bodyPost_ret (v := .tuple #[.pointer none, .bool false, .bool false, .bool false, .bool false]) (by simp [results, Try.results8, go_sem]) rfl ⟨HB.out, .inl ⟨HS.out.symm, rfl⟩⟩
      · obtain ⟨Nn, hN⟩ : ∃ Nn, Nn = s0.length := ⟨_, rfl⟩
        rw [← hN] at o1 o2 o3 o4
        obtain ⟨m, hm⟩ : ∃ m, Nn = m + 1 := ⟨Nn - 1, by omega⟩
        obtain ⟨g1, d1, rfl, e1⟩ := own_some o1 (by omega)
        obtain ⟨g2, d2, rfl, e2⟩ := own_some o2 (by omega)
        obtain ⟨g3, d3, rfl, e3⟩ := own_some o3 (by omega)
        obtain ⟨g4, d4, rfl, e4⟩ := own_some o4 (by omega)
        obtain ⟨pl, hp1⟩ : ∃ pl, ps[m]? = some pl := ⟨_, List.getElem?_eq_getElem (show m < ps.length by omega)⟩
        obtain ⟨el, hel⟩ : ∃ el, s0[m]? = some el := ⟨_, List.getElem?_eq_getElem (show m < s0.length by omega)⟩
        have c1 : wr.cell? ⟨g1, m, none⟩ = some (PT pl) := by rw [o1.cellAt m (by omega), List.getElem?_map, hp1]; rfl
        have c2 : wr.cell? ⟨g2, m, none⟩ = some (.bool el.1) := by rw [o2.cellAt m (by omega), List.getElem?_map, hel]; rfl
        have c3 : wr.cell? ⟨g3, m, none⟩ = some (.bool el.2.1) := by rw [o3.cellAt m (by omega), List.getElem?_map, hel]; rfl
        have c4 : wr.cell? ⟨g4, m, none⟩ = some (.bool el.2.2) := by rw [o4.cellAt m (by omega), List.getElem?_map, hel]; rfl
        have hsp : s0 = s0.take m ++ [el] := by
          have h1 : s0.take (m + 1) = s0 := List.take_of_length_le (by omega)
          rw [List.take_succ_eq_append_getElem (by omega)] at h1
          rw [List.getElem?_eq_getElem (show m < s0.length by omega)] at hel
          injection hel with hel
          rw [hel] at h1
          exact h1.symm
        have SS := htr _ _ _ hp1 hel
        have HP := Lib.hid (show ∀ W, W = wr.drew → BuildPost w s0 (.returned (.tuple #[PT pl, .bool el.1, .bool el.2.1, .bool el.2.2, .bool true])) W from fun W hW => by
          subst hW
          exact ⟨hB.drew, .inr ⟨_, el, pl, hsp, rfl, SS.1.later (fun _ _ _ _ _ _ hh => hh), SS.2.later (fun _ _ _ _ _ _ hh => hh)⟩⟩)
        clear hB htr o1 o2 o3 o4 hpl hp1 hel SS hsp
        have j0 : ((Nn : Int) == 0) = false := by simp; omega
        have j2 : (Nn : Int) - 1 = (m : Int) := by omega
        have j4 : (0 : Int) ≤ (m : Int) := by omega
        have j5 : (m : Int) < (Nn : Int) := by omega
        have j6 : Nn ≤ 4096 := by omega
        clear hm hN h0 hsk e1 e2 e3 e4
        go_wp2_with fail
        go_region_held3 (fun w' => w'.cell? ⟨g1, m, none⟩ = some (PT pl) ∧ w'.cell? ⟨g2, m, none⟩ = some (.bool el.1) ∧ w'.cell? ⟨g3, m, none⟩ = some (.bool el.2.1) ∧ w'.cell? ⟨g4, m, none⟩ = some (.bool el.2.2)) ((go_split_ands; (refine ⟨?_, ?_, ?_, ?_⟩) <;> assumption)) (fail)
        go_wp2
        exact bodyPost_ret (v := .tuple #[PT pl, .bool el.1, .bool el.2.1, .bool el.2.2, .bool true]) (by simp [results, Try.results8, go_sem]) rfl (by rw [← HS.out]; exact HP.out _ rfl)
end Go.Proofs.Ytfpfeeojnchkaaa
