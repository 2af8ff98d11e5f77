/- valueAndErr at a part; validateComponent; readComponent. -/
import Derived.Test.YtapkmoakbfpkeaaGreatDoorC1
namespace Go.Proofs.YtapkmoakbfpkeaaGreatDoor
open Go Go.RowKit Go.Proofs Go.Sort

/-- A part's bytes: its code, its value (with a length ahead of an ID). -/
def hopB (k : Nat) (vs : List Int) : List Int := (protOf k).vc ++ (if k = 6 then [(vs.length : Int)] else []) ++ vs
/-- Where its value begins. -/
def hopS (k : Nat) : Nat := (protOf k).vc.length + (if k = 6 then 1 else 0)
theorem hop_drop (k : Nat) (vs : List Int) : (hopB k vs).drop (hopS k) = vs := by
  unfold hopB hopS
  by_cases h : k = 6
  · simp [h]
  · simp [h]
theorem hop_len (k : Nat) (vs : List Int) : (hopB k vs).length = hopS k + vs.length := by
  unfold hopB hopS
  by_cases h : k = 6
  · simp [h]; omega
  · simp [h]
theorem hopS_le (k : Nat) (hk : k < 8) : hopS k ≤ 3 := by
  rcases kinds k hk with rfl | rfl | rfl | rfl | rfl | rfl | rfl | rfl <;> decide
theorem valLen (k : Nat) (hk : k < 8) (vs : List Int) (hv : ValOk k vs) : vs.length ≤ 120 := by
  rcases kinds k hk with rfl | rfl | rfl | rfl | rfl | rfl | rfl | rfl
  · have h : vs.length = 4 := hv; omega
  · have h : vs.length = 2 := hv; omega
  · have h : vs.length = 2 := hv; omega
  · have h : vs.length = 0 := hv; omega
  · have h : vs.length = 0 := hv; omega
  · have h : vs.length = 0 := hv; omega
  · obtain ⟨_, _, h2, h3⟩ := hv; omega
  · have h : vs.length = 16 := hv; omega
theorem vcU8 (k : Nat) (hk : k < 8) : U8 (protOf k).vc := by
  rcases kinds k hk with rfl | rfl | rfl | rfl | rfl | rfl | rfl | rfl <;> (intro x hx; revert x; decide)
theorem hopU8 (k : Nat) (hk : k < 8) (vs : List Int) (hv : ValOk k vs) (hu : U8 vs) : U8 (hopB k vs) := by
  intro x hx
  have hl := valLen k hk vs hv
  unfold hopB at hx
  rcases List.mem_append.1 hx with h | h
  · rcases List.mem_append.1 h with h | h
    · exact vcU8 k hk x h
    · split at h
      · have := List.mem_singleton.1 h; omega
      · cases h
  · exact hu x h

/-- valueAndErr at a part. -/
theorem valueHop (k : Nat) (hk : k < 8) (vs : List Int) (hv : ValOk k vs) (hu : U8 vs) (r q a : Nat) (w : World) (h : CompAt w r q a (protOf k) (hopB k vs) (hopS k)) (hT : Tab w) :
    Calls Tryz.prog 192 #[.pointer (some ⟨r, 0, none⟩)] w (SomeStrNil w) := by
  have hl := valLen k hk vs hv
  have hs := hopS_le k hk
  have hlen := hop_len k vs
  cases ht : (protOf k).tr with
  | nilIface => exact value_none r q a _ _ _ w h ht
  | iface T v =>
    have hTv : T = 253 ∧ ∃ fs, v = .agg fs := by
      rcases kinds k hk with rfl | rfl | rfl | rfl | rfl | rfl | rfl | rfl <;> (first | (cases ht; exact ⟨rfl, _, rfl⟩) | cases ht)
    obtain ⟨rfl, fs, rfl⟩ := hTv
    refine value_some r q a _ _ _ fs w h ht (hopU8 k hk vs hv hu) (by omega) (by omega) fun b o c w' hb hc hcm hw => ?_
    rw [hop_drop] at hb
    exact btS k hk fs ht vs hv hu b o _ c (by omega) hc hcm w' hb (hT.below hw)
  | _ => exfalso; revert ht; rcases kinds k hk with rfl | rfl | rfl | rfl | rfl | rfl | rfl | rfl <;> (intro h; cases h)

theorem protTr (k : Nat) (hk : k < 8) : (protOf k).tr = .nilIface ∨ ∃ fs, (protOf k).tr = .iface 253 (.agg fs) := by
  rcases kinds k hk with rfl | rfl | rfl | rfl | rfl | rfl | rfl | rfl <;> first | exact .inl rfl | exact .inr ⟨_, rfl⟩
theorem eqSame (b o c b2 o2 c2 n : Nat) (xs : List Int) (w : World) (hx : xs.length = n) (h1 : Bs w b o xs) (h2 : Bs w b2 o2 xs) :
    Calls Tryz.prog 17 #[.slice (some ⟨b, o, none⟩) n c, .slice (some ⟨b2, o2, none⟩) n c2] w fun e w' => e = .returned (.bool true) ∧ w = w' := by
  subst hx
  refine (Tryz.bytes_Equal_all _ _ _ c _ c2 xs xs w rfl rfl (fun _ => ⟨b, o, rfl, h1⟩) (fun _ => ⟨b2, o2, rfl, h2⟩)).mono ?_
  rintro e w' ⟨he, hw⟩
  exact ⟨by rw [he]; simp, hw.symm⟩
theorem VRow.bs {w : World} {a : Nat} {vc : List Int} (h : VRow w a vc) : Bs w a 0 vc := fun i hi => by
  rw [Nat.zero_add, cell_of_row w a i _ _ (0, 0) h]
  simp [List.getD, hi]
/-- 's[:i]' of a string of bytes. -/
theorem sliceHead (xs : List Int) (i : Nat) (hi : i ≤ xs.length) (w : World) : (Instr.slice 9 (.string (strOfNums xs)) none (some (.int .i64 (i : Int))) none).run Tryz.prog w = .ok (.string (strOfNums (xs.take i))) w := by
  have hz := strOfNums_size xs
  have h := strOf_extract xs 0 i
  simp only [List.drop_zero, Nat.sub_zero] at h
  rw [← h]
  go_simp

set_option maxHeartbeats 1600000 in
set_option maxRecDepth 100000 in
/-- validateComponent at a part of a fixed size. -/
theorem validFix (k : Nat) (hk : k < 8) (h6 : ¬ k = 6) (vs : List Int) (hv : ValOk k vs) (hu : U8 vs) (r q a : Nat) (w : World) (h : CompAt w r q a (protOf k) (hopB k vs) (hopS k)) (hT : Tab w) :
    Calls Tryz.prog 146 #[.pointer (some ⟨r, 0, none⟩)] w (NoErr w) := by
  obtain ⟨p, hp⟩ : ∃ p, p = protOf k := ⟨_, rfl⟩
  have c0 : w.cell? ⟨r, 0, none⟩ = some (.string (strOfNums (hopB k vs))) := by rw [cell_of_row w r 0 _ _ (0, 0) h.comp]; rfl
  have c1 : w.cell? ⟨r, 1, none⟩ = some (.pointer (some ⟨q, 0, none⟩)) := by rw [cell_of_row w r 1 _ _ (0, 0) h.comp]; rfl
  have c2 : w.cell? ⟨r, 2, none⟩ = some (.int .i64 (hopS k)) := by rw [cell_of_row w r 2 _ _ (0, 0) h.comp]; rfl
  have d2 : w.cell? ⟨q, 2, none⟩ = some (.slice (some ⟨a, 0, none⟩) p.vc.length p.vc.length) := by rw [cell_of_row w q 2 _ _ (0, 0) h.prot, hp]; rfl
  have d3 : w.cell? ⟨q, 3, none⟩ = some (.int .i64 p.size) := by rw [cell_of_row w q 3 _ _ (0, 0) h.prot, hp]; rfl
  have d5 : w.cell? ⟨q, 5, none⟩ = some p.tr := by rw [cell_of_row w q 5 _ _ (0, 0) h.prot, hp]; rfl
  have hv1 : 1 ≤ p.vc.length ∧ p.vc.length ≤ 2 := by rw [hp]; rcases kinds k hk with rfl | rfl | rfl | rfl | rfl | rfl | rfl | rfl <;> decide
  have hz := strOfNums_size (hopB k vs)
  obtain ⟨S, hS⟩ : ∃ S, S = strOfNums (hopB k vs) := ⟨_, rfl⟩
  rw [← hS] at c0 hz
  have hl := hop_len k vs
  obtain ⟨st, hst⟩ : ∃ st, st = hopS k := ⟨_, rfl⟩
  rw [← hst] at c2 hl
  obtain ⟨n, hn⟩ : ∃ n, n = (hopB k vs).length := ⟨_, rfl⟩
  rw [← hn] at hz hl
  have g1 : (st : Int) ≤ (n : Int) := by omega
  have g0 : p.vc.length ≤ st := by rw [hst, hp]; exact Nat.le_add_right _ _
  have g2 : (p.vc.length : Int) ≤ (n : Int) := by omega
  have hzle : (n : Int) ≤ 1000 := by have := valLen k hk vs hv; have := hopS_le k hk; omega
  have hvd : (hopB k vs).take p.vc.length = p.vc := by rw [hp]; unfold hopB; rw [List.append_assoc, List.take_left']; rfl
  have hsl1 := sliceHead (hopB k vs) p.vc.length (by omega)
  have hsl2 := sliceRest (hopB k vs) st (by omega)
  rw [hvd] at hsl1
  rw [hst, hop_drop] at hsl2
  rw [← hst] at hsl2
  obtain ⟨cF1, WF1, hcv1, hW1⟩ := convBytesF p.vc (by rw [hp]; exact vcU8 k hk) (by omega)
  obtain ⟨cF2, WF2, hcv2, hW2⟩ := convBytesF vs hu (by have := valLen k hk vs hv; omega)
  have hz1 := strOfNums_size p.vc
  have hz2 := strOfNums_size vs
  have hvr := h.vcode
  rw [← hp] at hvr
  obtain ⟨S1, hS1⟩ : ∃ S, S = strOfNums p.vc := ⟨_, rfl⟩
  obtain ⟨S2, hS2⟩ : ∃ S, S = strOfNums vs := ⟨_, rfl⟩
  rw [← hS, ← hS1] at hsl1
  rw [← hS, ← hS2] at hsl2
  rw [← hS1] at hcv1 hz1
  rw [← hS2] at hcv2 hz2
  have HW := Lib.hid (And.intro hW1 hW2)
  have HV := Lib.hid hvr
  clear hS1 hS2 hvd hW1 hW2 hvr
  have HE := Lib.hid (And.intro hp (And.intro hS (And.intro hst hn)))
  have hd1 : decide (n < st) = false := decide_eq_false (by omega)
  have hd2 : decide (n < p.vc.length) = false := decide_eq_false (by omega)
  have hd3 : ((p.vc.length : Int) == 0) = false := by rw [beq_eq_false_iff_ne]; omega
  have hsk : p.size = 8 * (vs.length : Int) := by
    rw [hp]
    rcases kinds k hk with rfl | rfl | rfl | rfl | rfl | rfl | rfl | rfl
    · rw [show vs.length = 4 from hv]; rfl
    · rw [show vs.length = 2 from hv]; rfl
    · rw [show vs.length = 2 from hv]; rfl
    · rw [show vs.length = 0 from hv]; rfl
    · rw [show vs.length = 0 from hv]; rfl
    · rw [show vs.length = 0 from hv]; rfl
    · exact absurd rfl h6
    · rw [show vs.length = 16 from hv]; rfl
  have hm129 := valLen k hk vs hv
  have hstv : st = p.vc.length := by rw [hst, hp]; unfold hopS; rw [if_neg h6]; rfl
  obtain ⟨m, hm⟩ : ∃ m, m = vs.length := ⟨_, rfl⟩
  rw [← hm] at hsk hz2 hm129 hl hcv2
  have hdiv : 8 * (m : Int) / 8 = m := by omega
  have hmn : ((p.vc.length : Int) + m != n) = false := by simp; omega
  have HM := Lib.hid (And.intro hm hsk)
  have HC := Lib.hid h
  clear h hp hS hst hn hl g0 hm hstv hsk
  go_enter Tryz.func146, Tryz.ntmps146
  go_wp2_with fail
  go_quiet (fail)
  obtain ⟨n1, rfl⟩ : ∃ m, m = nq := ⟨_, rfl⟩
  go_wp2_with fail
  go_quiet (fail)
  obtain ⟨n2, rfl⟩ : ∃ m, m = nq := ⟨_, rfl⟩
  go_wp2_with fail
  go_region_held (fun w' => w'.cell? ⟨r, 0, none⟩ = some (.string S) ∧ w'.cell? ⟨r, 1, none⟩ = some (.pointer (some ⟨q, 0, none⟩)) ∧ w'.cell? ⟨q, 2, none⟩ = some (.slice (some ⟨a, 0, none⟩) p.vc.length p.vc.length))
    (first | exact ⟨c0, c1, d2⟩ | exact ⟨cB (w' := WF1 (w.drewN _)) ((below_drewN (Below.refl _ w) _).trans (HW.out.1 (w.drewN _)).2.2.2) c0, cB (w' := WF1 (w.drewN _)) ((below_drewN (Below.refl _ w) _).trans (HW.out.1 (w.drewN _)).2.2.2) c1, cB (w' := WF1 (w.drewN _)) ((below_drewN (Below.refl _ w) _).trans (HW.out.1 (w.drewN _)).2.2.2) d2⟩)
    (first | (go_at_call 17; refine (eqSame w.heap.size 0 _ a 0 _ _ p.vc _ rfl (by exact (HW.out.1 (w.drewN _)).1) (by exact HV.out.bs.below (w' := WF1 (w.drewN _)) ((below_drewN (Below.refl _ w) _).trans (HW.out.1 (w.drewN _)).2.2.2))).mono ?_; rintro e w1 ⟨rfl, rfl⟩))
  have hB1 : Below w.heap.size w (WF1 (w.drewN (n1 + n2 + 1))) := (below_drewN (Below.refl _ w) _).trans (HW.out.1 (w.drewN _)).2.2.2
  have hC1 := HC.out.below hB1
  generalize WF1 (w.drewN (n1 + n2 + 1)) = w1 at hB1 hC1 ⊢
  clear c0 c1 c2 d2 d3 d5
  have c0 : w1.cell? ⟨r, 0, none⟩ = some (.string S) := by rw [cell_of_row w1 r 0 _ _ (0, 0) hC1.comp, HE.out.2.1]; rfl
  have c1 : w1.cell? ⟨r, 1, none⟩ = some (.pointer (some ⟨q, 0, none⟩)) := by rw [cell_of_row w1 r 1 _ _ (0, 0) hC1.comp]; rfl
  have c2 : w1.cell? ⟨r, 2, none⟩ = some (.int .i64 st) := by rw [cell_of_row w1 r 2 _ _ (0, 0) hC1.comp, HE.out.2.2.1]; rfl
  have d2 : w1.cell? ⟨q, 2, none⟩ = some (.slice (some ⟨a, 0, none⟩) p.vc.length p.vc.length) := by rw [cell_of_row w1 q 2 _ _ (0, 0) hC1.prot, HE.out.1]; rfl
  have d3 : w1.cell? ⟨q, 3, none⟩ = some (.int .i64 (8 * (m : Int))) := by rw [cell_of_row w1 q 3 _ _ (0, 0) hC1.prot, ← HM.out.2, HE.out.1]; rfl
  have HB1 := Lib.hid hB1
  have HC1 := Lib.hid hC1
  clear hB1 hC1
  go_wp2_with fail
  go_quiet (fail)
  obtain ⟨n3, rfl⟩ : ∃ m, m = nq := ⟨_, rfl⟩
  go_wp2_with fail
  go_quiet (fail)
  obtain ⟨n4, rfl⟩ : ∃ m, m = nq := ⟨_, rfl⟩
  go_wp2_with fail
  refine (valueHop k hk vs hv hu r q a _ (HC1.out.below (below_drewN (Below.refl _ _) _)) ((hT.below HB1.out).drewN _)).mono ?_
  rintro e w2 ⟨sv, rfl, hsv, hB2⟩
  have hB02 : Below w.heap.size w w2 := HB1.out.trans (((below_drewN (Below.refl _ w1) _).trans hB2).mono HB1.out.size)
  have hC2 := HC.out.below hB02
  clear c0 c1 c2 d2 d3 hB2
  have c0 : w2.cell? ⟨r, 0, none⟩ = some (.string S) := by rw [cell_of_row w2 r 0 _ _ (0, 0) hC2.comp, HE.out.2.1]; rfl
  have c1 : w2.cell? ⟨r, 1, none⟩ = some (.pointer (some ⟨q, 0, none⟩)) := by rw [cell_of_row w2 r 1 _ _ (0, 0) hC2.comp]; rfl
  have c2 : w2.cell? ⟨r, 2, none⟩ = some (.int .i64 st) := by rw [cell_of_row w2 r 2 _ _ (0, 0) hC2.comp, HE.out.2.2.1]; rfl
  have d5 : w2.cell? ⟨q, 5, none⟩ = some (protOf k).tr := by rw [cell_of_row w2 q 5 _ _ (0, 0) hC2.prot]; rfl
  have HB2 := Lib.hid hB02
  have HC2 := Lib.hid hC2
  clear hB02 hC2
  rcases protTr k hk with ht | ⟨fs, ht⟩
  · rw [ht] at d5
    go_wp2_with fail
    go_ret
    exact ⟨rfl, HB2.out⟩
  · rw [ht] at d5
    have hbw : Below w2.heap.size w2 (WF2 w2.drew) := ((Below.refl _ w2).drew).trans (HW.out.2 w2.drew).2.2.2
    have hvb := valB k hk fs ht vs hv hu w2.heap.size 0 m (cF2 w2.drew) HM.out.1.symm (by have := (HW.out.2 w2.drew).2.1; have := HM.out.1; omega) (HW.out.2 w2.drew).2.2.1 (WF2 w2.drew) (HW.out.2 w2.drew).1
    have e0 := cB hbw c0
    have e1 := cB hbw c1
    have e2 := cB hbw c2
    have e5 := cB hbw d5
    have HVB := Lib.hid hvb
    have HBW := Lib.hid hbw
    clear ht hvb hbw
    go_wp2_with fail
    go_region_held (fun w' => w'.cell? ⟨r, 0, none⟩ = some (.string S) ∧ w'.cell? ⟨r, 1, none⟩ = some (.pointer (some ⟨q, 0, none⟩)) ∧ w'.cell? ⟨r, 2, none⟩ = some (.int .i64 st) ∧ w'.cell? ⟨q, 5, none⟩ = some (.iface 253 (.agg fs)))
      (first | exact ⟨c0, c1, c2, d5⟩ | exact ⟨e0, e1, e2, e5⟩ | exact ⟨cB hb3 e0, cB hb3 e1, cB hb3 e2, cB hb3 e5⟩)
      (first | (go_at_call 453; refine HVB.out.mono ?_; rintro e w3 ⟨rfl, hb3⟩))
    go_wp2_with fail
    go_ret
    exact ⟨rfl, HB2.out.trans ((HBW.out.trans (hb3.mono HBW.out.size)).mono HB2.out.size)⟩
end Go.Proofs.YtapkmoakbfpkeaaGreatDoor
