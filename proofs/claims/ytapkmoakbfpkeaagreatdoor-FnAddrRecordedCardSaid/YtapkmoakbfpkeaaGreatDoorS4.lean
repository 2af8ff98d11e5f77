/- shaBlock: the walk. -/
import Derived.Test.YtapkmoakbfpkeaaGreatDoorS2
namespace Go.Proofs.YtapkmoakbfpkeaaGreatDoor
open Go Go.RowKit Go.Proofs Go.Sort
set_option maxRecDepth 100000 in
set_option maxHeartbeats 4000000 in
theorem shaBlock (hs : Nat → Int) (b o c : Nat) (xs : List Int) (w : World) (hb : ∀ i, i < 64 → w.cell? ⟨b, o + i, none⟩ = some (.int .u8 (xs.getD i 0))) : Calls Tryz.prog 73 #[.agg #[.int .u32 (hs 0), .int .u32 (hs 1), .int .u32 (hs 2), .int .u32 (hs 3), .int .u32 (hs 4), .int .u32 (hs 5), .int .u32 (hs 6), .int .u32 (hs 7)], .slice (some ⟨b, o, none⟩) 64 c] w fun e w' => e = .returned (.agg (arr8 (blkV xs hs))) ∧ Below w.heap.size w w' := by
  have HX := Lib.hid hb
  clear hb
  go_enter Tryz.func73, Tryz.ntmps73
  go_wp2_with fail
  go_loopg [6] 16 (fun gk iv wr => ∃ (i : Nat), gk = 16 - i ∧ i ≤ 16 ∧ iv = .int .i64 (i : Int) ∧ Hid (SB w hs (fun j => if j < i then wS xs j else 0) wr))
  case atStart => exact ⟨0, rfl, by omega, rfl, (SB.start w hs _ _ rfl (by kernel_rfl)).congr fun j hj => by rw [if_neg (by omega)]⟩
  case round =>
    obtain ⟨i, rfl, hi, rfl, hI⟩ := hrel
    by_cases h16 : i = 16
    · subst h16
      obtain ⟨W1, hW1⟩ : ∃ W, W = wr := ⟨_, rfl⟩
      rw [← hW1] at hI ⊢
      have HI := Lib.hid (hI.out.congr (W' := fun j => if j < 16 then wS xs j else 0) fun j hj => rfl)
      clear hI hW1 wr
      go_wp2_with fail
      go_loopg [7] 48 (fun gk iv wr => ∃ (i : Nat), gk = 64 - i ∧ 16 ≤ i ∧ i ≤ 64 ∧ iv = .int .i64 (i : Int) ∧ Hid (SB w hs (fun j => if j < i then wS xs j else 0) wr))
      case atStart => exact ⟨16, rfl, by omega, by omega, rfl, HI.out⟩
      case round =>
        obtain ⟨i, rfl, hi0, hi, rfl, hI⟩ := hrel
        by_cases h64 : i = 64
        · subst h64
          obtain ⟨W2, hW2⟩ : ∃ W, W = wr := ⟨_, rfl⟩
          rw [← hW2] at hI ⊢
          have H2 := Lib.hid (And.intro hI.out (show w.heap.size + 1 + 1 < W2.heap.size from hI.out.2.2.1.lt))
          clear hI hW2 wr HI
          have hks := keyA_size
          have hst : (storeCells ⟨W2.heap.size + 1, 0, none⟩ keyA.toList).run Tryz.prog ((W2.alloc (.cells keyA 190)).alloc (.cells #[.int .u32 0, .int .u32 0, .int .u32 0, .int .u32 0, .int .u32 0, .int .u32 0, .int .u32 0, .int .u32 0, .int .u32 0, .int .u32 0, .int .u32 0, .int .u32 0, .int .u32 0, .int .u32 0, .int .u32 0, .int .u32 0, .int .u32 0, .int .u32 0, .int .u32 0, .int .u32 0, .int .u32 0, .int .u32 0, .int .u32 0, .int .u32 0, .int .u32 0, .int .u32 0, .int .u32 0, .int .u32 0, .int .u32 0, .int .u32 0, .int .u32 0, .int .u32 0, .int .u32 0, .int .u32 0, .int .u32 0, .int .u32 0, .int .u32 0, .int .u32 0, .int .u32 0, .int .u32 0, .int .u32 0, .int .u32 0, .int .u32 0, .int .u32 0, .int .u32 0, .int .u32 0, .int .u32 0, .int .u32 0, .int .u32 0, .int .u32 0, .int .u32 0, .int .u32 0, .int .u32 0, .int .u32 0, .int .u32 0, .int .u32 0, .int .u32 0, .int .u32 0, .int .u32 0, .int .u32 0, .int .u32 0, .int .u32 0, .int .u32 0, .int .u32 0] 190)) = .ok () ((W2.alloc (.cells keyA 190)).alloc (.cells keyA 190)) := by
            have h := run_storeCells_new (P := Tryz.prog) (W2.alloc (.cells keyA 190)) 190 #[.int .u32 0, .int .u32 0, .int .u32 0, .int .u32 0, .int .u32 0, .int .u32 0, .int .u32 0, .int .u32 0, .int .u32 0, .int .u32 0, .int .u32 0, .int .u32 0, .int .u32 0, .int .u32 0, .int .u32 0, .int .u32 0, .int .u32 0, .int .u32 0, .int .u32 0, .int .u32 0, .int .u32 0, .int .u32 0, .int .u32 0, .int .u32 0, .int .u32 0, .int .u32 0, .int .u32 0, .int .u32 0, .int .u32 0, .int .u32 0, .int .u32 0, .int .u32 0, .int .u32 0, .int .u32 0, .int .u32 0, .int .u32 0, .int .u32 0, .int .u32 0, .int .u32 0, .int .u32 0, .int .u32 0, .int .u32 0, .int .u32 0, .int .u32 0, .int .u32 0, .int .u32 0, .int .u32 0, .int .u32 0, .int .u32 0, .int .u32 0, .int .u32 0, .int .u32 0, .int .u32 0, .int .u32 0, .int .u32 0, .int .u32 0, .int .u32 0, .int .u32 0, .int .u32 0, .int .u32 0, .int .u32 0, .int .u32 0, .int .u32 0, .int .u32 0] keyA (by rw [keyA_size]; exact keyInfo) (by rw [keyA_size]; rfl) keyA_one
            rw [World.size_alloc] at h
            exact h
          have e0 : ((W2.alloc (.cells keyA 190)).alloc (.cells keyA 190)).cell? ⟨w.heap.size, 0, none⟩ = some (.int .u32 (hs 0)) := ((H2.out.1.alloc _).alloc _).1.cell (i := 0) (by omega)
          have e1 : ((W2.alloc (.cells keyA 190)).alloc (.cells keyA 190)).cell? ⟨w.heap.size, 1, none⟩ = some (.int .u32 (hs 1)) := ((H2.out.1.alloc _).alloc _).1.cell (i := 1) (by omega)
          have e2 : ((W2.alloc (.cells keyA 190)).alloc (.cells keyA 190)).cell? ⟨w.heap.size, 2, none⟩ = some (.int .u32 (hs 2)) := ((H2.out.1.alloc _).alloc _).1.cell (i := 2) (by omega)
          have e3 : ((W2.alloc (.cells keyA 190)).alloc (.cells keyA 190)).cell? ⟨w.heap.size, 3, none⟩ = some (.int .u32 (hs 3)) := ((H2.out.1.alloc _).alloc _).1.cell (i := 3) (by omega)
          have e4 : ((W2.alloc (.cells keyA 190)).alloc (.cells keyA 190)).cell? ⟨w.heap.size, 4, none⟩ = some (.int .u32 (hs 4)) := ((H2.out.1.alloc _).alloc _).1.cell (i := 4) (by omega)
          have e5 : ((W2.alloc (.cells keyA 190)).alloc (.cells keyA 190)).cell? ⟨w.heap.size, 5, none⟩ = some (.int .u32 (hs 5)) := ((H2.out.1.alloc _).alloc _).1.cell (i := 5) (by omega)
          have e6 : ((W2.alloc (.cells keyA 190)).alloc (.cells keyA 190)).cell? ⟨w.heap.size, 6, none⟩ = some (.int .u32 (hs 6)) := ((H2.out.1.alloc _).alloc _).1.cell (i := 6) (by omega)
          have e7 : ((W2.alloc (.cells keyA 190)).alloc (.cells keyA 190)).cell? ⟨w.heap.size, 7, none⟩ = some (.int .u32 (hs 7)) := ((H2.out.1.alloc _).alloc _).1.cell (i := 7) (by omega)
          go_wp2_with (go_at_call 112; refine (shaKeys _).mono ?_; rintro e w' ⟨rfl, rfl⟩)
          go_loopg [12] 64 (fun gk iv wr => ∃ (i : Nat), gk = 64 - i ∧ i ≤ 64 ∧ iv = .int .i64 (i : Int) ∧ Hid (SC w hs (fun j => if j < 64 then wS xs j else 0) W2.heap.size (vS xs hs i) wr))
          case atStart => exact ⟨0, rfl, by omega, rfl, SC.start H2.out.1⟩
          case round =>
            obtain ⟨i, rfl, hi, rfl, hI⟩ := hrel
            clear hst e0 e1 e2 e3 e4 e5 e6 e7 hks
            by_cases h65 : i = 64
            · subst h65
              obtain ⟨W3, hW3⟩ : ∃ W, W = wr := ⟨_, rfl⟩
              rw [← hW3] at hI ⊢
              obtain ⟨V, hV⟩ : ∃ V, V = vS xs hs 64 := ⟨_, rfl⟩
              rw [← hV] at hI
              have H3 := Lib.hid (And.intro hI.out (And.intro hV H2.out.2))
              clear hI hW3 wr hV
              go_wp2_with fail
              go_loopg [17] 8 (fun gk iv wr => ∃ (i : Nat), gk = 8 - i ∧ i ≤ 8 ∧ iv = .int .i64 (i : Int) ∧ Hid (SC w (fun j => if j < i then (hs j + V j) % 4294967296 else hs j) (fun j => if j < 64 then wS xs j else 0) W2.heap.size V wr))
              case atStart => exact ⟨0, rfl, by omega, rfl, H3.out.1.congrH fun j hj => by rw [if_neg (by omega)]⟩
              case round =>
                obtain ⟨i, rfl, hi, rfl, hI⟩ := hrel
                by_cases h8 : i = 8
                · subst h8
                  have hSC := hI.out.congrH (hs' := blkV xs hs) fun j hj => by
                    rw [if_pos hj]; unfold blkV; rw [← H3.out.2.1]
                  obtain ⟨G, hG⟩ : ∃ G, G = blkV xs hs := ⟨_, rfl⟩
                  rw [← hG] at hSC
                  have HG := Lib.hid hG
                  clear hG
                  have H4 := Lib.hid hSC
                  have q0 := hSC.fh 0 (by omega)
                  have q1 := hSC.fh 1 (by omega)
                  have q2 := hSC.fh 2 (by omega)
                  have q3 := hSC.fh 3 (by omega)
                  have q4 := hSC.fh 4 (by omega)
                  have q5 := hSC.fh 5 (by omega)
                  have q6 := hSC.fh 6 (by omega)
                  have q7 := hSC.fh 7 (by omega)
                  have p0 : wr.cell? ⟨w.heap.size + 1, 0, none⟩ = some (.int .u32 0) := hSC.1.2.1.cell (i := 0) (by omega)
                  have p1 : wr.cell? ⟨w.heap.size + 1, 1, none⟩ = some (.int .u32 0) := hSC.1.2.1.cell (i := 1) (by omega)
                  have p2 : wr.cell? ⟨w.heap.size + 1, 2, none⟩ = some (.int .u32 0) := hSC.1.2.1.cell (i := 2) (by omega)
                  have p3 : wr.cell? ⟨w.heap.size + 1, 3, none⟩ = some (.int .u32 0) := hSC.1.2.1.cell (i := 3) (by omega)
                  have p4 : wr.cell? ⟨w.heap.size + 1, 4, none⟩ = some (.int .u32 0) := hSC.1.2.1.cell (i := 4) (by omega)
                  have p5 : wr.cell? ⟨w.heap.size + 1, 5, none⟩ = some (.int .u32 0) := hSC.1.2.1.cell (i := 5) (by omega)
                  have p6 : wr.cell? ⟨w.heap.size + 1, 6, none⟩ = some (.int .u32 0) := hSC.1.2.1.cell (i := 6) (by omega)
                  have p7 : wr.cell? ⟨w.heap.size + 1, 7, none⟩ = some (.int .u32 0) := hSC.1.2.1.cell (i := 7) (by omega)
                  have z0 : wr.frozen? ⟨w.heap.size + 1, 0, none⟩ = false := hSC.1.2.1.frozen 0
                  have z1 : wr.frozen? ⟨w.heap.size + 1, 1, none⟩ = false := hSC.1.2.1.frozen 1
                  have z2 : wr.frozen? ⟨w.heap.size + 1, 2, none⟩ = false := hSC.1.2.1.frozen 2
                  have z3 : wr.frozen? ⟨w.heap.size + 1, 3, none⟩ = false := hSC.1.2.1.frozen 3
                  have z4 : wr.frozen? ⟨w.heap.size + 1, 4, none⟩ = false := hSC.1.2.1.frozen 4
                  have z5 : wr.frozen? ⟨w.heap.size + 1, 5, none⟩ = false := hSC.1.2.1.frozen 5
                  have z6 : wr.frozen? ⟨w.heap.size + 1, 6, none⟩ = false := hSC.1.2.1.frozen 6
                  have z7 : wr.frozen? ⟨w.heap.size + 1, 7, none⟩ = false := hSC.1.2.1.frozen 7
                  clear hSC hI
                  go_wp2_with fail
                  have hst := stored8 (g := G) H4.out.1.2.1
                  exact bodyPost_ret (v := .agg (arr8 G)) (by rw [results_one _ _ 4 134 Tryz.results73 ⟨w.heap.size + 1, 0, none⟩ rfl]; exact loadVar8 hst) rfl ⟨by rw [HG.out], ((((((((H4.out.1.2.2.2.setCell (by simp) _).setCell (by simp) _).setCell (by simp) _).setCell (by simp) _).setCell (by simp) _).setCell (by simp) _).setCell (by simp) _).setCell (by simp) _)⟩
                · have hl2 : decide (i < 8) = true := by rw [decide_eq_true_iff]; omega
                  have hl3 : decide ((i : Int) < 8) = true := by rw [decide_eq_true_iff]; omega
                  have c0 := hI.out.fh i (by omega)
                  rw [if_neg (by omega)] at c0
                  have c1 := hI.out.fv i (by omega)
                  have d1 : wr.frozen? ⟨w.heap.size, i, none⟩ = false := hI.out.1.1.frozen i
                  go_wp2_with fail
                  refine wp_region_quiet_tail 8 (by kernel_rfl) (by kernel_rfl) ?_
                  simp only [List.take_succ_cons, List.take_zero, List.drop_succ_cons, List.drop_zero]
                  repeat (go_big_quiet_step (fail))
                  refine wpQuiet_nil ?_
                  intro _ hw'
                  obtain ⟨nq, hw''⟩ := hw'
                  subst hw''
                  go_wp2_with fail
                  go_roundg (7 - i)
                  case measure => omega
                  case rel =>
                    refine ⟨i + 1, by omega, by omega, by simp, ((hI.out.setH H3.out.2.2 i _).drewN _).congrH fun j hj => ?_⟩
                    show (if j = i then _ else if j < i then _ else hs j) = if j < i + 1 then _ else hs j
                    by_cases hji : j = i
                    · subst hji
                      rw [if_pos rfl, if_pos (by omega)]
                    · rw [if_neg hji]
                      by_cases h : j < i
                      · rw [if_pos h, if_pos (by omega)]
                      · rw [if_neg h, if_neg (by omega)]
            · have hl2 : decide (i < 64) = true := by rw [decide_eq_true_iff]; omega
              have hl3 : decide ((i : Int) < 64) = true := by rw [decide_eq_true_iff]; omega
              obtain ⟨V, hV⟩ : ∃ V, V = vS xs hs i := ⟨_, rfl⟩
              rw [← hV] at hI
              have HN := Lib.hid (And.intro hV H2.out.2)
              clear hV
              have f0 := hI.out.fv 0 (by omega)
              have f4 := hI.out.fv 4 (by omega)
              go_wp2_with fail
              go_quiet (fail)
              have HV := Lib.hid (hI.out.drewN nq)
              clear f0 f4 hI
              generalize wr.drewN nq = w2 at HV ⊢
              clear wr
              have f5 := HV.out.fv 5 (by omega)
              have f6 := HV.out.fv 6 (by omega)
              have f7 := HV.out.fv 7 (by omega)
              have fk := HV.out.fk i (by omega)
              have fw := HV.out.fw i (by omega)
              rw [if_pos (by omega)] at fw
              go_wp2_with fail
              go_quiet (((go_at_call 111; exact Calls.quiet_of (shaTurn _ _ (by omega) (by omega) _))))
              have HV2 := Lib.hid (HV.out.drewN nq)
              clear f5 f6 f7 fk fw HV
              generalize w2.drewN nq = w3 at HV2 ⊢
              clear w2
              have f1 := HV2.out.fv 1 (by omega)
              have f2 := HV2.out.fv 2 (by omega)
              go_wp2_with fail
              go_quiet (((go_at_call 111; exact Calls.quiet_of (shaTurn _ _ (by omega) (by omega) _))))
              have HV := Lib.hid (HV2.out.drewN nq)
              clear f1 f2 HV2
              generalize w3.drewN nq = w4 at HV ⊢
              clear w3
              have f0 := HV.out.fv 0 (by omega)
              have f1 := HV.out.fv 1 (by omega)
              have f2 := HV.out.fv 2 (by omega)
              have f3 := HV.out.fv 3 (by omega)
              have f4 := HV.out.fv 4 (by omega)
              have f5 := HV.out.fv 5 (by omega)
              have f6 := HV.out.fv 6 (by omega)
              have f7 := HV.out.fv 7 (by omega)
              have g0 := HV.out.ff 0
              have g1 := HV.out.ff 1
              have g2 := HV.out.ff 2
              have g3 := HV.out.ff 3
              have g4 := HV.out.ff 4
              have g5 := HV.out.ff 5
              have g6 := HV.out.ff 6
              have g7 := HV.out.ff 7
              go_wp2_with fail
              clear f0 f1 f2 f3 f4 f5 f6 f7 g0 g1 g2 g3 g4 g5 g6 g7
              go_roundg (63 - i)
              case measure => omega
              case rel =>
                refine ⟨i + 1, by omega, by omega, by simp, ?_⟩
                have hN := HN.out.2
                refine ((((((((HV.out.set1 hN 0 _).set1 hN 1 _).set1 hN 2 _).set1 hN 3 _).set1 hN 4 _).set1 hN 5 _).set1 hN 6 _).set1 hN 7 _).congrV fun j hj => ?_
                show _ = stepV (vS xs hs i) (keyI i) (wS xs i) j
                rw [← HN.out.1]
                rcases lt8 hj with rfl | rfl | rfl | rfl | rfl | rfl | rfl | rfl <;> rfl
        · have hl2 : decide (i < 64) = true := by rw [decide_eq_true_iff]; omega
          have hl3 : decide ((i : Int) < 64) = true := by rw [decide_eq_true_iff]; omega
          have hc : ∀ j, j < i → wr.cell? ⟨w.heap.size + 1 + 1, j, none⟩ = some (.int .u32 (wS xs j)) := fun j hj => by
            have h := hI.out.2.2.1.cell (i := j) (by omega)
            rw [h]
            show some (Value.int .u32 (if j < i then wS xs j else 0)) = _
            rw [if_pos hj]
          have c0 := hc (i - 15) (by omega)
          have c1 := hc (i - 2) (by omega)
          have c2 := hc (i - 16) (by omega)
          have c3 := hc (i - 7) (by omega)
          have d0 : wr.cell? ⟨w.heap.size + 1 + 1, i, none⟩ = some (.int .u32 (if i < i then wS xs i else 0)) := hI.out.2.2.1.cell (by omega)
          rw [if_neg (by omega)] at d0
          have d1 : wr.frozen? ⟨w.heap.size + 1 + 1, i, none⟩ = false := hI.out.2.2.1.frozen i
          clear hc
          go_wp2_with fail
          go_quiet (fail)
          replace c2 : (wr.drewN nq).cell? ⟨w.heap.size + 1 + 1, i - 16, none⟩ = some (.int .u32 (wS xs (i - 16))) := c2
          replace c3 : (wr.drewN nq).cell? ⟨w.heap.size + 1 + 1, i - 7, none⟩ = some (.int .u32 (wS xs (i - 7))) := c3
          replace d0 : (wr.drewN nq).cell? ⟨w.heap.size + 1 + 1, i, none⟩ = some (.int .u32 0) := d0
          replace d1 : (wr.drewN nq).frozen? ⟨w.heap.size + 1 + 1, i, none⟩ = false := d1
          have hI2 := Lib.hid (hI.out.drewN nq)
          clear hI c0 c1
          generalize wr.drewN nq = w2 at c2 c3 d0 d1 hI2 ⊢
          go_wp2_with fail
          refine wp_region_quiet_tail 29 (by kernel_rfl) (by kernel_rfl) ?_
          simp only [List.take_succ_cons, List.take_zero, List.drop_succ_cons, List.drop_zero]
          repeat (go_big_quiet_step (((go_at_call 111; exact Calls.quiet_of (shaTurn _ _ (by omega) (by omega) _)))))
          refine wpQuiet_nil ?_
          intro _ hw'
          obtain ⟨nq, hw''⟩ := hw'
          subst hw''
          go_wp2_with fail
          go_roundg (63 - i)
          case measure => omega
          case rel =>
            refine ⟨i + 1, by omega, by omega, by omega, by simp, ((hI2.out.setW i _).drewN _).congr fun j hj => ?_⟩
            show (if j = i then _ else if j < i then wS xs j else 0) = if j < i + 1 then wS xs j else 0
            by_cases hji : j = i
            · subst hji
              rw [if_pos rfl, if_pos (by omega), wS_hi xs j hi0]
              rfl
            · rw [if_neg hji]
              by_cases h : j < i
              · rw [if_pos h, if_pos (by omega)]
              · rw [if_neg h, if_neg (by omega)]
    · have hl2 : decide (i < 16) = true := by rw [decide_eq_true_iff]; omega
      have hl3 : decide ((i : Int) < 16) = true := by rw [decide_eq_true_iff]; omega
      have c0 : wr.cell? ⟨b, o + 4 * i, none⟩ = some (.int .u8 (xs.getD (4 * i) 0)) := cBelow hI.out.2.2.2 (HX.out _ (by omega))
      have c1 : wr.cell? ⟨b, o + (4 * i + 1), none⟩ = some (.int .u8 (xs.getD (4 * i + 1) 0)) := cBelow hI.out.2.2.2 (HX.out _ (by omega))
      have c2 : wr.cell? ⟨b, o + (4 * i + 2), none⟩ = some (.int .u8 (xs.getD (4 * i + 2) 0)) := cBelow hI.out.2.2.2 (HX.out _ (by omega))
      have c3 : wr.cell? ⟨b, o + (4 * i + 3), none⟩ = some (.int .u8 (xs.getD (4 * i + 3) 0)) := cBelow hI.out.2.2.2 (HX.out _ (by omega))
      have d0 : wr.cell? ⟨w.heap.size + 1 + 1, i, none⟩ = some (.int .u32 (if i < i then wS xs i else 0)) := hI.out.2.2.1.cell (by omega)
      rw [if_neg (by omega)] at d0
      have d1 : wr.frozen? ⟨w.heap.size + 1 + 1, i, none⟩ = false := hI.out.2.2.1.frozen i
      go_wp2_with fail
      refine wp_region_quiet_tail 35 (by kernel_rfl) (by kernel_rfl) ?_
      simp only [List.take_succ_cons, List.take_zero, List.drop_succ_cons, List.drop_zero]
      repeat (go_big_quiet_step (fail))
      refine wpQuiet_nil ?_
      intro _ hw'
      obtain ⟨nq, hw''⟩ := hw'
      subst hw''
      go_wp2_with fail
      go_roundg (15 - i)
      case measure => omega
      case rel =>
        refine ⟨i + 1, by omega, by omega, by simp, ((hI.out.setW i _).drewN _).congr fun j hj => ?_⟩
        show (if j = i then _ else if j < i then wS xs j else 0) = if j < i + 1 then wS xs j else 0
        by_cases hji : j = i
        · subst hji
          rw [if_pos rfl, if_pos (by omega), wS_lo xs j (by omega)]
          unfold wordOf
          simp only [List.getD_eq_getElem?_getD]
        · rw [if_neg hji]
          by_cases h : j < i
          · rw [if_pos h, if_pos (by omega)]
          · rw [if_neg h, if_neg (by omega)]
end Go.Proofs.YtapkmoakbfpkeaaGreatDoor
