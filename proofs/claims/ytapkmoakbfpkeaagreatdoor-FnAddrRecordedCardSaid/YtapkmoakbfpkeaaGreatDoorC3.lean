/- validateComponent at an ID. -/
import Derived.Test.YtapkmoakbfpkeaaGreatDoorC2
namespace Go.Proofs.YtapkmoakbfpkeaaGreatDoor
open Go Go.RowKit Go.Proofs Go.Sort

set_option maxHeartbeats 1600000 in
set_option maxRecDepth 100000 in
/-- validateComponent at an ID. -/
theorem validVar (k : Nat) (hk : k < 8) (h6 : k = 6) (vs : List Int) (hv : ValOk k vs) (hu : U8 vs) (r q a : Nat) (w : World) (h : CompAt w r q a (protOf k) (hopB k vs) (hopS k)) (hT : Tab w) :
    Calls Tryz.prog 146 #[.pointer (some ⟨r, 0, none⟩)] w (NoErr w) := by
  obtain ⟨p, hp⟩ : ∃ p, p = protOf k := ⟨_, rfl⟩
  have c0 : w.cell? ⟨r, 0, none⟩ = some (.string (strOfNums (hopB k vs))) := by rw [cell_of_row w r 0 _ _ (0, 0) h.comp]; rfl
  have c1 : w.cell? ⟨r, 1, none⟩ = some (.pointer (some ⟨q, 0, none⟩)) := by rw [cell_of_row w r 1 _ _ (0, 0) h.comp]; rfl
  have c2 : w.cell? ⟨r, 2, none⟩ = some (.int .i64 (hopS k)) := by rw [cell_of_row w r 2 _ _ (0, 0) h.comp]; rfl
  have d2 : w.cell? ⟨q, 2, none⟩ = some (.slice (some ⟨a, 0, none⟩) p.vc.length p.vc.length) := by rw [cell_of_row w q 2 _ _ (0, 0) h.prot, hp]; rfl
  have d3 : w.cell? ⟨q, 3, none⟩ = some (.int .i64 p.size) := by rw [cell_of_row w q 3 _ _ (0, 0) h.prot, hp]; rfl
  have d5 : w.cell? ⟨q, 5, none⟩ = some p.tr := by rw [cell_of_row w q 5 _ _ (0, 0) h.prot, hp]; rfl
  have hv1 : 1 ≤ p.vc.length ∧ p.vc.length ≤ 2 := by rw [hp]; rcases kinds k hk with rfl | rfl | rfl | rfl | rfl | rfl | rfl | rfl <;> decide
  have hz := strOfNums_size (hopB k vs)
  obtain ⟨S, hS⟩ : ∃ S, S = strOfNums (hopB k vs) := ⟨_, rfl⟩
  rw [← hS] at c0 hz
  have hl := hop_len k vs
  obtain ⟨st, hst⟩ : ∃ st, st = hopS k := ⟨_, rfl⟩
  rw [← hst] at c2 hl
  obtain ⟨n, hn⟩ : ∃ n, n = (hopB k vs).length := ⟨_, rfl⟩
  rw [← hn] at hz hl
  have g1 : (st : Int) ≤ (n : Int) := by omega
  have g0 : p.vc.length ≤ st := by rw [hst, hp]; exact Nat.le_add_right _ _
  have g2 : (p.vc.length : Int) ≤ (n : Int) := by omega
  have hzle : (n : Int) ≤ 1000 := by have := valLen k hk vs hv; have := hopS_le k hk; omega
  have hvd : (hopB k vs).take p.vc.length = p.vc := by rw [hp]; unfold hopB; rw [List.append_assoc, List.take_left']; rfl
  have hsl1 := sliceHead (hopB k vs) p.vc.length (by omega)
  have hsl2 := sliceRest (hopB k vs) st (by omega)
  rw [hvd] at hsl1
  rw [hst, hop_drop] at hsl2
  rw [← hst] at hsl2
  obtain ⟨cF1, WF1, hcv1, hW1⟩ := convBytesF p.vc (by rw [hp]; exact vcU8 k hk) (by omega)
  obtain ⟨cF2, WF2, hcv2, hW2⟩ := convBytesF vs hu (by have := valLen k hk vs hv; omega)
  have hz1 := strOfNums_size p.vc
  have hz2 := strOfNums_size vs
  have hvr := h.vcode
  rw [← hp] at hvr
  obtain ⟨S1, hS1⟩ : ∃ S, S = strOfNums p.vc := ⟨_, rfl⟩
  obtain ⟨S2, hS2⟩ : ∃ S, S = strOfNums vs := ⟨_, rfl⟩
  rw [← hS, ← hS1] at hsl1
  rw [← hS, ← hS2] at hsl2
  rw [← hS1] at hcv1 hz1
  rw [← hS2] at hcv2 hz2
  have HW := Lib.hid (And.intro hW1 hW2)
  have HV := Lib.hid hvr
  clear hS1 hS2 hvd hW1 hW2 hvr
  have HE := Lib.hid (And.intro hp (And.intro hS (And.intro hst hn)))
  have hd1 : decide (n < st) = false := decide_eq_false (by omega)
  have hd2 : decide (n < p.vc.length) = false := decide_eq_false (by omega)
  have hd3 : ((p.vc.length : Int) == 0) = false := by rw [beq_eq_false_iff_ne]; omega
  have hsk : p.size = -1 := by rw [hp, h6]; rfl
  have hvl : p.vc.length = 2 := by rw [hp, h6]; rfl
  have hm129 := valLen k hk vs hv
  have hstv : st = 3 := by rw [hst, h6]; rfl
  obtain ⟨m, hm⟩ : ∃ m, m = vs.length := ⟨_, rfl⟩
  rw [← hm] at hz2 hm129 hl hcv2
  have hmn : ((p.vc.length : Int) + 1 + m != n) = false := by simp; omega
  have hds : (hopB k vs).drop p.vc.length = (m : Int) :: vs := by rw [h6, hm]; unfold hopB; rw [if_pos rfl, hp, h6]; rfl
  have hsl3 := sliceRest (hopB k vs) p.vc.length (by omega)
  rw [hds] at hsl3
  have hu3 : U8 ((m : Int) :: vs) := fun x hx => by
    rcases List.mem_cons.1 hx with rfl | h
    · omega
    · exact hu x h
  obtain ⟨cF3, WF3, hcv3, hW3⟩ := convBytesF ((m : Int) :: vs) hu3 (by rw [List.length_cons]; omega)
  rw [List.length_cons, ← hm] at hcv3
  obtain ⟨S3, hS3⟩ : ∃ S, S = strOfNums ((m : Int) :: vs) := ⟨_, rfl⟩
  rw [← hS3] at hsl3 hcv3
  rw [← hS] at hsl3
  have HW3 := Lib.hid hW3
  clear hS3 hW3 hds hu3 hvl
  have HM := Lib.hid (And.intro hm hsk)
  have HC := Lib.hid h
  clear h hp hS hst hn hl g0 hm hstv hsk h6
  go_enter Tryz.func146, Tryz.ntmps146
  go_wp2_with fail
  go_quiet (fail)
  obtain ⟨n1, rfl⟩ : ∃ m, m = nq := ⟨_, rfl⟩
  go_wp2_with fail
  go_quiet (fail)
  obtain ⟨n2, rfl⟩ : ∃ m, m = nq := ⟨_, rfl⟩
  go_wp2_with fail
  go_region_held (fun w' => w'.cell? ⟨r, 0, none⟩ = some (.string S) ∧ w'.cell? ⟨r, 1, none⟩ = some (.pointer (some ⟨q, 0, none⟩)) ∧ w'.cell? ⟨q, 2, none⟩ = some (.slice (some ⟨a, 0, none⟩) p.vc.length p.vc.length))
    (first | exact ⟨c0, c1, d2⟩ | exact ⟨cB (w' := WF1 (w.drewN _)) ((below_drewN (Below.refl _ w) _).trans (HW.out.1 (w.drewN _)).2.2.2) c0, cB (w' := WF1 (w.drewN _)) ((below_drewN (Below.refl _ w) _).trans (HW.out.1 (w.drewN _)).2.2.2) c1, cB (w' := WF1 (w.drewN _)) ((below_drewN (Below.refl _ w) _).trans (HW.out.1 (w.drewN _)).2.2.2) d2⟩)
    (first | (go_at_call 17; refine (eqSame w.heap.size 0 _ a 0 _ _ p.vc _ rfl (by exact (HW.out.1 (w.drewN _)).1) (by exact HV.out.bs.below (w' := WF1 (w.drewN _)) ((below_drewN (Below.refl _ w) _).trans (HW.out.1 (w.drewN _)).2.2.2))).mono ?_; rintro e w1 ⟨rfl, rfl⟩))
  have hB1 : Below w.heap.size w (WF1 (w.drewN (n1 + n2 + 1))) := (below_drewN (Below.refl _ w) _).trans (HW.out.1 (w.drewN _)).2.2.2
  have hC1 := HC.out.below hB1
  generalize WF1 (w.drewN (n1 + n2 + 1)) = w1 at hB1 hC1 ⊢
  clear c0 c1 c2 d2 d3 d5
  have c0 : w1.cell? ⟨r, 0, none⟩ = some (.string S) := by rw [cell_of_row w1 r 0 _ _ (0, 0) hC1.comp, HE.out.2.1]; rfl
  have c1 : w1.cell? ⟨r, 1, none⟩ = some (.pointer (some ⟨q, 0, none⟩)) := by rw [cell_of_row w1 r 1 _ _ (0, 0) hC1.comp]; rfl
  have c2 : w1.cell? ⟨r, 2, none⟩ = some (.int .i64 st) := by rw [cell_of_row w1 r 2 _ _ (0, 0) hC1.comp, HE.out.2.2.1]; rfl
  have d2 : w1.cell? ⟨q, 2, none⟩ = some (.slice (some ⟨a, 0, none⟩) p.vc.length p.vc.length) := by rw [cell_of_row w1 q 2 _ _ (0, 0) hC1.prot, HE.out.1]; rfl
  have d3 : w1.cell? ⟨q, 3, none⟩ = some (.int .i64 (-1)) := by rw [cell_of_row w1 q 3 _ _ (0, 0) hC1.prot, ← HM.out.2, HE.out.1]; rfl
  have HB1 := Lib.hid hB1
  have HC1 := Lib.hid hC1
  clear hB1 hC1
  have hbw : Below w1.heap.size w1 (WF3 w1.drew) := ((Below.refl _ w1).drew).trans (HW3.out w1.drew).2.2.2
  have hrv := readVarintCode_1 w1.heap.size 0 (m + 1) (cF3 w1.drew) (m : Int) (WF3 w1.drew) (by omega) (by omega) (by omega) (by omega) ((HW3.out w1.drew).1 0 (by rw [List.length_cons]; omega))
  have e0 := cB hbw c0
  have e1 := cB hbw c1
  have e2 := cB hbw d2
  have HRV := Lib.hid hrv
  have HBW := Lib.hid hbw
  clear hrv hbw
  go_wp2_with fail
  go_region_held (fun w' => w'.cell? ⟨r, 0, none⟩ = some (.string S) ∧ w'.cell? ⟨r, 1, none⟩ = some (.pointer (some ⟨q, 0, none⟩)) ∧ w'.cell? ⟨q, 2, none⟩ = some (.slice (some ⟨a, 0, none⟩) p.vc.length p.vc.length))
    (first | exact ⟨c0, c1, d2⟩ | exact ⟨e0, e1, e2⟩)
    (first | (go_at_call 150; refine HRV.out.mono ?_; rintro e w3 ⟨rfl, rfl⟩))
  have hB4 : Below w.heap.size w (WF3 w1.drew) := HB1.out.trans (HBW.out.mono HB1.out.size)
  have hC4 := HC.out.below hB4
  generalize WF3 w1.drew = w4 at hB4 hC4 ⊢
  clear c0 c1 c2 d2 d3 e0 e1 e2
  have c0 : w4.cell? ⟨r, 0, none⟩ = some (.string S) := by rw [cell_of_row w4 r 0 _ _ (0, 0) hC4.comp, HE.out.2.1]; rfl
  have c1 : w4.cell? ⟨r, 1, none⟩ = some (.pointer (some ⟨q, 0, none⟩)) := by rw [cell_of_row w4 r 1 _ _ (0, 0) hC4.comp]; rfl
  have c2 : w4.cell? ⟨r, 2, none⟩ = some (.int .i64 st) := by rw [cell_of_row w4 r 2 _ _ (0, 0) hC4.comp, HE.out.2.2.1]; rfl
  have d2 : w4.cell? ⟨q, 2, none⟩ = some (.slice (some ⟨a, 0, none⟩) p.vc.length p.vc.length) := by rw [cell_of_row w4 q 2 _ _ (0, 0) hC4.prot, HE.out.1]; rfl
  have d3 : True := trivial
  have HB4 := Lib.hid hB4
  have HC4 := Lib.hid hC4
  clear hB4 hC4
  go_wp2_with fail
  go_quiet (fail)
  obtain ⟨n3, rfl⟩ : ∃ m, m = nq := ⟨_, rfl⟩
  go_wp2_with fail
  go_quiet (fail)
  obtain ⟨n4, rfl⟩ : ∃ m, m = nq := ⟨_, rfl⟩
  go_wp2_with fail
  refine (valueHop k hk vs hv hu r q a _ (HC4.out.below (below_drewN (Below.refl _ _) _)) ((hT.below HB4.out).drewN _)).mono ?_
  rintro e w2 ⟨sv, rfl, hsv, hB2⟩
  have hB02 : Below w.heap.size w w2 := HB4.out.trans (((below_drewN (Below.refl _ w4) _).trans hB2).mono HB4.out.size)
  have hC2 := HC.out.below hB02
  clear c0 c1 c2 d2 d3 hB2
  have c0 : w2.cell? ⟨r, 0, none⟩ = some (.string S) := by rw [cell_of_row w2 r 0 _ _ (0, 0) hC2.comp, HE.out.2.1]; rfl
  have c1 : w2.cell? ⟨r, 1, none⟩ = some (.pointer (some ⟨q, 0, none⟩)) := by rw [cell_of_row w2 r 1 _ _ (0, 0) hC2.comp]; rfl
  have c2 : w2.cell? ⟨r, 2, none⟩ = some (.int .i64 st) := by rw [cell_of_row w2 r 2 _ _ (0, 0) hC2.comp, HE.out.2.2.1]; rfl
  have d5 : w2.cell? ⟨q, 5, none⟩ = some (protOf k).tr := by rw [cell_of_row w2 q 5 _ _ (0, 0) hC2.prot]; rfl
  have HB2 := Lib.hid hB02
  have HC2 := Lib.hid hC2
  clear hB02 hC2
  rcases protTr k hk with ht | ⟨fs, ht⟩
  · rw [ht] at d5
    go_wp2_with fail
    go_ret
    exact ⟨rfl, HB2.out⟩
  · rw [ht] at d5
    have hbw : Below w2.heap.size w2 (WF2 w2.drew) := ((Below.refl _ w2).drew).trans (HW.out.2 w2.drew).2.2.2
    have hvb := valB k hk fs ht vs hv hu w2.heap.size 0 m (cF2 w2.drew) HM.out.1.symm (by have := (HW.out.2 w2.drew).2.1; have := HM.out.1; omega) (HW.out.2 w2.drew).2.2.1 (WF2 w2.drew) (HW.out.2 w2.drew).1
    have e0 := cB hbw c0
    have e1 := cB hbw c1
    have e2 := cB hbw c2
    have e5 := cB hbw d5
    have HVB := Lib.hid hvb
    have HBW := Lib.hid hbw
    clear ht hvb hbw
    go_wp2_with fail
    go_region_held (fun w' => w'.cell? ⟨r, 0, none⟩ = some (.string S) ∧ w'.cell? ⟨r, 1, none⟩ = some (.pointer (some ⟨q, 0, none⟩)) ∧ w'.cell? ⟨r, 2, none⟩ = some (.int .i64 st) ∧ w'.cell? ⟨q, 5, none⟩ = some (.iface 253 (.agg fs)))
      (first | exact ⟨c0, c1, c2, d5⟩ | exact ⟨e0, e1, e2, e5⟩ | exact ⟨cB hb3 e0, cB hb3 e1, cB hb3 e2, cB hb3 e5⟩)
      (first | (go_at_call 453; refine HVB.out.mono ?_; rintro e w3 ⟨rfl, hb3⟩))
    go_wp2_with fail
    go_ret
    exact ⟨rfl, HB2.out.trans ((HBW.out.trans (hb3.mono HBW.out.size)).mono HB2.out.size)⟩
end Go.Proofs.YtapkmoakbfpkeaaGreatDoor
