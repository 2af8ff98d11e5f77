/- The law FnAddrBack. -/
import Derived.Test.YtapkmoakbfpkeaaGreatDoorZG
namespace Go.Proofs.YtapkmoakbfpkeaaGreatDoor
open Go Go.RowKit Go.Proofs Go.Sort
theorem back_told {id : List Int} {ts : List Adr} (h0 : ∀ t ∈ ts, t ≠ []) {ok : Bool} {I : List (List Int × List Adr)} (h : Told (fullOf (id, ts)) ok I) : ok = true ∧ I = [(id, ts)] := by
  have h1 : Told ([(id, ts)].flatMap fullOf) true [(id, ts)] := full_told (List.pairwise_singleton _ _) (fun x hx => by rw [List.mem_singleton] at hx; rw [hx]; exact h0)
  rw [show [(id, ts)].flatMap fullOf = fullOf (id, ts) by simp] at h1
  exact h1.one h
theorem short_len {f : List Int → List Int} {ls : List LEl} (h : ∀ a ∈ ls, Short a) : ∀ x ∈ adrs f ls, x.length ≤ 900 := fun x hx => by
  obtain ⟨a, ha, rfl⟩ := List.mem_map.1 hx
  have := (h a ha).2.1
  rw [List.length_map]
  omega
set_option maxHeartbeats 4000000 in
set_option maxRecDepth 100000 in
theorem lawBack (f : List Int → List Int) (hf : ShaIs f) (p1 : Option Addr) (m1 c1 : Nat) (xs : List Int) (hm1 : m1 ≤ 9223372036854775807) (p : Option Addr) (c k : Nat) (ls : List LEl) (hk : ls.length = k) (_hkc : k ≤ c) (hcm : c ≤ 9223372036854775807 ∧ (p = none → c = 0)) (w : World) (hok : (Sl.mk p1 m1 c1 xs).Ok w) (hu : U8 xs) (hb : LLIn w p ls) (hT : Tab w) (hE : ErrV w) :
    Calls Tryz.prog 8 #[.slice p1 m1 c1, .slice p k c] w fun e w' => e = .returned (.bool true) ∧ Below w.heap.size w w' := by
  have HB := Lib.hid (And.intro hb (And.intro hf (And.intro hT (And.intro hk (And.intro hE (show k ≤ 9223372036854775807 by omega))))))
  have HX := Lib.hid (And.intro hok hu)
  have awake : ∀ (wx : World), Below w.heap.size w wx → Calls Tryz.prog 13 #[] wx fun e w' => e = .returned (.bool true) ∧ Below w.heap.size w w' := fun wx hx => (addrAwake f hf wx (hT.below hx)).mono fun e w' ⟨he, hB⟩ => ⟨he, hx.trans (hB.mono hx.size)⟩
  have HW := Lib.hid awake
  have HW2 := Lib.hid (fun (w0 wx : World) (h0 : Below w.heap.size w w0) (hx : Below w0.heap.size w0 wx) => (addrAwake f hf wx (hT.below (h0.trans (hx.mono h0.size)))).mono (R' := fun e w' => e = .returned (.bool true) ∧ Below w0.heap.size w0 w') fun e w' ⟨he, hB⟩ => ⟨he, hx.trans (hB.mono hx.size)⟩)
  clear hb hf hT hk hE awake hcm hok hu
  by_cases hz : 2147483647 < m1
  · have hz1 : decide (2147483647 < m1) = true := by rw [decide_eq_true_iff]; exact hz
    have hz2 : decide ((2147483647 : Int) < (m1 : Int)) = true := by rw [decide_eq_true_iff]; omega
    go_enter Tryz.func8, Tryz.ntmps8
    go_wp2_with fail
    go_ret
    exact ⟨rfl, Below.refl _ _⟩
  have hz1 : decide (2147483647 < m1) = false := by rw [decide_eq_false_iff_not]; exact hz
  have hz2 : decide ((2147483647 : Int) < (m1 : Int)) = false := by rw [decide_eq_false_iff_not]; omega
  go_enter Tryz.func8, Tryz.ntmps8
  go_wp2_with fail
  refine (zzFits3 p c k ls HB.out.2.2.2.1 w HB.out.1).mono ?_
  rintro e w1 ⟨r, rfl, hB1⟩
  have H1 := Lib.hid hB1
  clear hB1
  cases r with
  | false =>
    go_wp2_with fail
    go_ret
    exact ⟨rfl, H1.out⟩
  | true =>
    go_wp2_with fail
    refine (addrShortL p c k ls HB.out.2.2.2.1 HB.out.2.2.2.2.2 w1 (HB.out.1.below H1.out)).mono ?_
    rintro e w2 ⟨r, rfl, hB2, hr⟩
    have H2 := Lib.hid (And.intro (H1.out.trans (hB2.mono H1.out.size)) hr)
    clear hB2 hr hz1 hz2
    cases r with
    | false =>
      go_wp2_with fail
      refine (HW.out _ H2.out.1).mono ?_
      rintro e w3 ⟨rfl, hB3⟩
      go_wp2_with fail
      go_ret
      exact ⟨rfl, hB3⟩
    | true =>
      by_cases hs : 100 < m1
      · have hs1 : decide (100 < m1) = true := by rw [decide_eq_true_iff]; exact hs
        have hs2 : decide ((100 : Int) < (m1 : Int)) = true := by rw [decide_eq_true_iff]; omega
        go_wp2_with fail
        refine (HW.out _ H2.out.1).mono ?_
        rintro e w3 ⟨rfl, hB3⟩
        go_wp2_with fail
        go_ret
        exact ⟨rfl, hB3⟩
      have hs1 : decide (100 < m1) = false := by rw [decide_eq_false_iff_not]; exact hs
      have hs2 : decide ((100 : Int) < (m1 : Int)) = false := by rw [decide_eq_false_iff_not]; omega
      obtain ⟨hk60, hsh⟩ := H2.out.2 rfl
      have HS := Lib.hid hsh
      clear hsh
      by_cases hk0 : k = 0
      · subst hk0
        go_wp2_with fail
        refine (HW.out _ H2.out.1).mono ?_
        rintro e w3 ⟨rfl, hB3⟩
        go_wp2_with fail
        go_ret
        exact ⟨rfl, hB3⟩
      have hk1 : ((k : Int) == 0) = false := by rw [beq_eq_false_iff_ne]; omega
      go_wp2_with fail
      refine (addrID f HB.out.2.1 p1 m1 c1 xs w2 (HX.out.1.below H2.out.1) HX.out.2 (by omega)).mono ?_
      rintro e w3 ⟨v3, rfl, hown3, hB3⟩
      have hid2 := idB_len f HB.out.2.1 xs
      have hbv3 : BV w3 w2.heap.size v3 (idB f xs) := BV.own hown3 (fun e => by rw [e] at hid2; simp at hid2)
      obtain ⟨g3, c3, cs3, rfl, _, _, hbs3⟩ := hbv3
      have hw3 := H2.out.1.trans (hB3.mono H2.out.1.size)
      obtain ⟨M, hM⟩ : ∃ M, M = (idB f xs).length := ⟨_, rfl⟩
      have H3 := Lib.hid (And.intro hbs3 (And.intro hw3 hM))
      rw [← hM]
      clear hown3 hB3 hid2 hbs3 hw3 hM
      go_wp2_with fail
      refine (addrList f HB.out.2.1 p c k ls HB.out.2.2.2.1 (by omega) HS.out w3 (HB.out.1.below H3.out.2.1)).mono ?_
      rintro e w4 ⟨v, rfl, hrow, hB4⟩
      obtain ⟨p4, c4, rfl, _⟩ := RowP.slice hrow
      have hal : (adrs f ls).length = k := by unfold adrs; rw [List.length_map]; exact HB.out.2.2.2.1
      rw [hal] at hrow ⊢
      have hw4 := H3.out.2.1.trans (hB4.mono H3.out.2.1.size)
      have hokA : ∀ x ∈ adrs f ls, AdrOk x := adrs_ok HB.out.2.1 HB.out.1 HS.out
      have hbs4 := H3.out.1.below hB4
      obtain ⟨W5, hW5⟩ : ∃ W, W = w4.alloc (.cells #[.slice (some ⟨g3, 0, none⟩) M c3, .slice p4 k c4] 32) := ⟨_, rfl⟩
      have hb5 : Below w4.heap.size w4 W5 := by rw [hW5]; exact (Below.refl _ _).alloc (Nat.le_refl _) _
      have x0 : W5.cell? ⟨w4.heap.size, 0, none⟩ = some (.slice (some ⟨g3, 0, none⟩) M c3) := by rw [hW5]; exact World.cell?_alloc_mark w4 _ _ _ 0
      have x1 : W5.cell? ⟨w4.heap.size, 1, none⟩ = some (.slice p4 k c4) := by rw [hW5]; exact World.cell?_alloc_mark w4 _ _ _ 1
      have hw5 := hw4.trans (hb5.mono hw4.size)
      have hab := addrBytes (idB f xs) (idB_ok f HB.out.2.1 xs) (idB_u8 f HB.out.2.1 HX.out.2) (adrs f ls) g3 0 M c3 H3.out.2.2.symm p4 k c4 hal (by omega) hokA (short_len HS.out) W5 (hbs4.below hb5) ((BRow.list hrow).below hb5) (HB.out.2.2.1.below hw5)
      have hfo := full_adr (idB f xs) (idB_ok f HB.out.2.1 xs) (idB_u8 f HB.out.2.1 HX.out.2) (adrs f ls) hokA (short_len HS.out)
      have H5 := Lib.hid (And.intro hab (And.intro hfo (And.intro hw5 (And.intro (hbs4.below hb5) (And.intro ((BRow.list hrow).below hb5) (And.intro hal hokA))))))
      clear hab hfo hw5 hbs4 hrow hal hokA hw4 hb5 hB4
      go_upto_region 6 with fail
      rw [← hW5]
      obtain ⟨X, hX⟩ : ∃ X, X = w4.heap.size := ⟨_, rfl⟩
      rw [← hX] at x0 x1 ⊢
      clear hX hW5
      go_wp2_with fail
      refine H5.out.1.mono ?_
      rintro e w6 ⟨v6, rfl, hrow6, hB6⟩
      obtain ⟨p6, c6, rfl, _⟩ := RowP.slice hrow6
      have hw6 := H5.out.2.2.1.trans (hB6.mono H5.out.2.2.1.size)
      have hin := implTold (fullOf (idB f xs, adrs f ls)) H5.out.2.1 p6 (fullOf (idB f xs, adrs f ls)).length c6 w6 rfl (by rw [full_len, H5.out.2.2.2.2.2.1]; omega) (BRow.list hrow6) (HB.out.2.2.1.below hw6) (HB.out.2.2.2.2.1.below hw6)
      have H6 := Lib.hid (And.intro hin (And.intro hB6 hw6))
      obtain ⟨N, hN⟩ : ∃ N, N = (fullOf (idB f xs, adrs f ls)).length := ⟨_, rfl⟩
      rw [← hN] at H6 ⊢
      clear hin hB6 hw6 hrow6 hN
      go_wp2_with fail
      refine H6.out.1.mono ?_
      rintro e w7 ⟨va, ok, I, rfl, hrI, htI, hB7⟩
      obtain ⟨rfl, rfl⟩ := back_told (fun t ht => (H5.out.2.2.2.2.2.2 t ht).1) htI
      obtain ⟨pa, ca, rfl, _⟩ := RowQ.slice hrI
      obtain ⟨ga, rfl⟩ : ∃ g, pa = some ⟨g, 0, none⟩ := by
        rcases RowQ.form hrI with ⟨_, e⟩ | ⟨g, c', e, _⟩
        · simp at e
        · injection e with e; exact ⟨g, e⟩
      obtain ⟨⟨a1, a2⟩, ⟨ha0, ha1⟩, hpa⟩ := RowQ.at hrI 0 (idB f xs, adrs f ls) rfl
      have hb57 := H6.out.2.1.trans (hB7.mono H6.out.2.1.size)
      have y0 := cB hb57 x0
      have y1 := cB hb57 x1
      obtain ⟨q1, q2, q3, q4, q5, hqa, hqb⟩ := id hpa.same
      injection hqa with hq1 hq2
      subst hq1 hq2
      have hsame : ∀ wx, Below w7.heap.size w7 wx → Calls Tryz.prog 29 #[.agg #[.slice (some ⟨q1, q2, none⟩) (idB f xs).length q3, .slice q4 (adrs f ls).length q5], .agg #[.slice (some ⟨g3, 0, none⟩) (idB f xs).length c3, .slice p4 (adrs f ls).length c4]] wx fun e w' => e = .returned (.bool true) ∧ Below w7.heap.size w7 w' := fun wx hx =>
        (addrSame wx (.slice (some ⟨q1, q2, none⟩) (idB f xs).length q3, .slice q4 (adrs f ls).length q5) (.slice (some ⟨g3, 0, none⟩) (idB f xs).length c3, .slice p4 (adrs f ls).length c4) (idB f xs, adrs f ls) (hpa.same.below hx) ⟨g3, 0, c3, p4, c4, rfl, (H5.out.2.2.2.1.below hb57).below hx, (H5.out.2.2.2.2.1.below hb57).below hx⟩ (by show (adrs f ls).length ≤ _; rw [H5.out.2.2.2.2.2.1]; omega)).mono fun e w' ⟨h1, h2⟩ => ⟨h1, hx.trans (h2.mono hx.size)⟩
      replace ha0 : w7.cell? ⟨ga, 0, none⟩ = some (.slice (some ⟨q1, q2, none⟩) (idB f xs).length q3) := ha0
      replace ha1 : w7.cell? ⟨ga, 1, none⟩ = some (.slice q4 (adrs f ls).length q5) := ha1
      rw [H5.out.2.2.2.2.2.1] at ha1 hsame
      rw [← H3.out.2.2] at ha0 hsame
      have H7 := Lib.hid (And.intro hsame (H5.out.2.2.1.trans (hb57.mono H5.out.2.2.1.size)))
      rw [show [(idB f xs, adrs f ls)].length = 1 from rfl]
      clear hsame hb57 hrI htI hB7 hpa hqb x0 x1
      go_wp2_with fail
      go_region_held_law (fun w' => w'.cell? ⟨X, 0, none⟩ = some (.slice (some ⟨g3, 0, none⟩) M c3) ∧ w'.cell? ⟨X, 1, none⟩ = some (.slice p4 k c4) ∧ w'.cell? ⟨ga, 0, none⟩ = some (.slice (some ⟨q1, q2, none⟩) M q3) ∧ w'.cell? ⟨ga, 1, none⟩ = some (.slice q4 k q5))
        (first | exact ⟨y0, y1, ha0, ha1⟩ | exact ⟨cB hbX y0, cB hbX y1, cB hbX ha0, cB hbX ha1⟩ | exact ⟨cB hbD y0, cB hbD y1, cB hbD ha0, cB hbD ha1⟩)
        (first
          | (go_at_call 29; refine (H7.out.1 _ (by first | exact Below.refl _ _ | exact (Below.refl _ _).drew | exact below_drewN (Below.refl _ _) _)).mono ?_; rintro e wx ⟨rfl, hbX⟩)
          | (go_at_call 13; refine (HW2.out w7 _ H7.out.2 hbX).mono ?_; rintro e wd ⟨rfl, hbD⟩))
      all_goals
        go_wp2_with fail
        go_ret
        exact ⟨rfl, H7.out.2.trans (hbD.mono H7.out.2.size)⟩
end Go.Proofs.YtapkmoakbfpkeaaGreatDoor
