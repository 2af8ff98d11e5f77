/- The law FnAddrInfos. -/
import Derived.Test.YtapkmoakbfpkeaaGreatDoorZD
namespace Go.Proofs.YtapkmoakbfpkeaaGreatDoor
open Go Go.RowKit Go.Proofs Go.Sort
set_option maxHeartbeats 1600000 in
set_option maxRecDepth 100000 in
theorem equalInfos (B1 B2 : Nat) (p1 p2 : Option Addr) (n c1 c2 : Nat) (I : List (List Int × List Adr)) (w : World) (hn : I.length = n) (hn1 : n ≤ 1000) (hts : ∀ x ∈ I, x.2.length ≤ 1000)
    (h1 : RowQ 32 (PlainI B1) w B1 (.slice p1 n c1) I) (h2 : RowQ 32 (PlainI B2) w B2 (.slice p2 n c2) I) :
    Calls Tryz.prog 31 #[.slice p1 n c1, .slice p2 n c2, .func (.func 29) #[] #[]] w fun e w' => e = .returned (.bool true) ∧ Below w.heap.size w w' := by
  have HB := Lib.hid (And.intro hn (And.intro h1 (And.intro h2 hts)))
  clear hn h1 h2 hts
  go_enter Tryz.func31, Tryz.ntmps31
  go_wp2_with fail
  go_loopg [17] n (fun gk iv wr => ∃ (ds rs : List (List Int × List Adr)), I = ds ++ rs ∧ gk = rs.length ∧ iv = .int .i64 (ds.length : Int) ∧ Hid (Below w.heap.size w wr))
  case atStart => exact ⟨[], I, rfl, HB.out.1.symm, rfl, Below.refl _ _⟩
  case round =>
    obtain ⟨ds, rs, hds, rfl, rfl, hJ⟩ := hrel
    cases rs with
    | nil =>
      have hlt : ds.length = n := by rw [← HB.out.1, hds, List.append_nil]
      have hl2 : decide (ds.length < n) = false := by rw [decide_eq_false_iff_not, hlt]; omega
      clear hds hlt
      go_wp2_with fail
      go_ret
      exact ⟨rfl, hJ.out⟩
    | cons r rs =>
      have hlt : ds.length < n := by rw [← HB.out.1, hds]; simp
      have hl2 : decide (ds.length < n) = true := by rw [decide_eq_true_iff]; omega
      obtain ⟨ga, rfl⟩ : ∃ g, p1 = some ⟨g, 0, none⟩ := by
        rcases RowQ.form HB.out.2.1 with ⟨_, e⟩ | ⟨g, c', e, _⟩
        · rw [hds] at e; simp at e
        · injection e with e; exact ⟨g, e⟩
      obtain ⟨gb, rfl⟩ : ∃ g, p2 = some ⟨g, 0, none⟩ := by
        rcases RowQ.form HB.out.2.2.1 with ⟨_, e⟩ | ⟨g, c', e, _⟩
        · rw [hds] at e; simp at e
        · injection e with e; exact ⟨g, e⟩
      obtain ⟨⟨a1, a2⟩, ⟨ha0, ha1⟩, hpa⟩ := RowQ.at HB.out.2.1 ds.length r (by rw [hds]; simp)
      obtain ⟨⟨b1, b2⟩, ⟨hb0, hb1⟩, hpb⟩ := RowQ.at HB.out.2.2.1 ds.length r (by rw [hds]; simp)
      obtain ⟨g1, o1, e1, q1, f1, hqa, _⟩ := id hpa.same
      obtain ⟨g2, o2, e2, q2, f2, hqb, _⟩ := id hpb.same
      injection hqa with hq1 hq2
      injection hqb with hq3 hq4
      subst hq1 hq2 hq3 hq4
      replace ha0 := cB hJ.out ha0
      replace ha1 := cB hJ.out ha1
      replace hb0 := cB hJ.out hb0
      replace hb1 := cB hJ.out hb1
      obtain ⟨K, hK⟩ : ∃ K, K = r.1.length := ⟨_, rfl⟩
      obtain ⟨N, hN⟩ : ∃ N, N = r.2.length := ⟨_, rfl⟩
      obtain ⟨W1, hW1⟩ : ∃ W, W = wr.alloc (.cells #[.slice (some ⟨g1, o1, none⟩) r.1.length e1, .slice q1 r.2.length f1] 32) := ⟨_, rfl⟩
      have hbr : Below wr.heap.size wr W1 := by rw [hW1]; exact (Below.refl _ _).alloc (Nat.le_refl _) _
      obtain ⟨W2, hW2⟩ : ∃ W, W = W1.alloc (.cells #[.slice (some ⟨g2, o2, none⟩) r.1.length e2, .slice q2 r.2.length f2] 32) := ⟨_, rfl⟩
      have hbs : Below W1.heap.size W1 W2 := by rw [hW2]; exact (Below.refl _ _).alloc (Nat.le_refl _) _
      have y0 := cB hbr hb0
      have y1 := cB hbr hb1
      have hwr2 : Below wr.heap.size wr W2 := hbr.trans (hbs.mono hbr.size)
      have hw2 : Below w.heap.size w W2 := hJ.out.trans (hwr2.mono hJ.out.size)
      have x0 : W2.cell? ⟨wr.heap.size, 0, none⟩ = some (.slice (some ⟨g1, o1, none⟩) r.1.length e1) := cB hbs (by rw [hW1]; exact World.cell?_alloc_mark wr _ _ _ 0)
      have x1 : W2.cell? ⟨wr.heap.size, 1, none⟩ = some (.slice q1 r.2.length f1) := cB hbs (by rw [hW1]; exact World.cell?_alloc_mark wr _ _ _ 1)
      have hsame := addrSame W2 _ _ r (hpa.same.below hw2) (hpb.same.below hw2) (by have := HB.out.2.2.2 r (by rw [hds]; simp); omega)
      have HE := Lib.hid (And.intro hsame (And.intro hw2 hds))
      rw [← hK] at ha0 hb0 x0 y0 hW1 hW2 HE
      rw [← hN] at ha1 hb1 x1 y1 hW1 hW2 HE
      clear hsame hds hwr2 hbs hbr hpa hpb hK hN hw2
      go_upto_region 6 with fail
      rw [← hW1]
      obtain ⟨X, hX⟩ : ∃ X, X = wr.heap.size := ⟨_, rfl⟩
      rw [← hX] at x0 x1 ⊢
      clear hX hW1
      go_upto_region 7 with fail
      rw [← hW2]
      obtain ⟨Y, hY⟩ : ∃ Y, Y = W1.heap.size := ⟨_, rfl⟩
      have z0 : W2.cell? ⟨Y, 0, none⟩ = some (.slice (some ⟨g2, o2, none⟩) K e2) := by rw [hW2, hY]; exact World.cell?_alloc_mark W1 _ _ _ 0
      have z1 : W2.cell? ⟨Y, 1, none⟩ = some (.slice q2 N f2) := by rw [hW2, hY]; exact World.cell?_alloc_mark W1 _ _ _ 1
      rw [← hY]
      clear hY hW2
      go_wp2_with (go_at_call 29; refine HE.out.1.mono ?_; rintro e w' ⟨rfl, hBy⟩)
      go_roundg rs.length
      case measure => simp
      case rel => exact ⟨ds ++ [r], rs, by rw [HE.out.2.2, List.append_assoc]; rfl, rfl, by simp, HE.out.2.1.trans (hBy.mono HE.out.2.1.size)⟩
set_option maxHeartbeats 4000000 in
set_option maxRecDepth 100000 in
theorem lawInfos (f : List Int → List Int) (hf : ShaIs f) (p : Option Addr) (c k : Nat) (ls : List LEl) (hk : ls.length = k) (_hkc : k ≤ c) (hcm : c ≤ 9223372036854775807 ∧ (p = none → c = 0)) (w : World) (hb : LLIn w p ls) (hT : Tab w) (hE : ErrV w) :
    Calls Tryz.prog 6 #[.slice p k c] w fun e w' => e = .returned (.bool true) ∧ Below w.heap.size w w' := by
  have HB := Lib.hid (And.intro hb (And.intro hf (And.intro hT (And.intro hk (And.intro hE (show k ≤ 9223372036854775807 by omega))))))
  have awake : ∀ (wx : World), Below w.heap.size w wx → Calls Tryz.prog 13 #[] wx fun e w' => e = .returned (.bool true) ∧ Below w.heap.size w w' := fun wx hx => (addrAwake f hf wx (hT.below hx)).mono fun e w' ⟨he, hB⟩ => ⟨he, hx.trans (hB.mono hx.size)⟩
  have HW := Lib.hid awake
  clear hb hf hT hk hE awake hcm
  go_enter Tryz.func6, Tryz.ntmps6
  go_wp2_with fail
  refine (zzFits3 p c k ls HB.out.2.2.2.1 w HB.out.1).mono ?_
  rintro e w1 ⟨r, rfl, hB1⟩
  have H1 := Lib.hid hB1
  clear hB1
  cases r with
  | false =>
    go_wp2_with fail
    go_ret
    exact ⟨rfl, H1.out⟩
  | true =>
    go_wp2_with fail
    refine (addrShortL p c k ls HB.out.2.2.2.1 HB.out.2.2.2.2.2 w1 (HB.out.1.below H1.out)).mono ?_
    rintro e w2 ⟨r, rfl, hB2, hr⟩
    have H2 := Lib.hid (And.intro (H1.out.trans (hB2.mono H1.out.size)) hr)
    clear hB2 hr
    cases r with
    | false =>
      go_wp2_with fail
      refine (HW.out _ H2.out.1).mono ?_
      rintro e w3 ⟨rfl, hB3⟩
      go_wp2_with fail
      go_ret
      exact ⟨rfl, hB3⟩
    | true =>
      obtain ⟨hk60, hsh⟩ := H2.out.2 rfl
      have HS := Lib.hid hsh
      clear hsh
      go_wp2_with fail
      refine (addrList f HB.out.2.1 p c k ls HB.out.2.2.2.1 (by omega) HS.out w2 (HB.out.1.below H2.out.1)).mono ?_
      rintro e w3 ⟨v, rfl, hrow, hB3⟩
      obtain ⟨p3, c3, rfl, _⟩ := RowP.slice hrow
      have hal : (adrs f ls).length = k := by unfold adrs; rw [List.length_map]; exact HB.out.2.2.2.1
      rw [hal] at hrow ⊢
      have hw3 := H2.out.1.trans (hB3.mono H2.out.1.size)
      have hok : ∀ x ∈ adrs f ls, AdrOk x := adrs_ok HB.out.2.1 HB.out.1 HS.out
      have hin := implTold (adrs f ls) hok p3 k c3 w3 hal (by omega) (BRow.list hrow) (HB.out.2.2.1.below hw3) (HB.out.2.2.2.2.1.below hw3)
      have H3 := Lib.hid (And.intro hin (And.intro hw3 hal))
      clear hin hw3 hok hal hrow hB3
      go_wp2_with fail
      refine H3.out.1.mono ?_
      rintro e w4 ⟨va, ok, I, rfl, hrI, htI, hB4⟩
      have hw4 := H3.out.2.1.trans (hB4.mono H3.out.2.1.size)
      obtain ⟨pa, ca, rfl, _⟩ := RowQ.slice hrI
      have H4 := Lib.hid (And.intro hrI (And.intro htI hw4))
      clear hrI htI hw4 hB4
      go_wp2_with fail
      refine (specInfos f HB.out.2.1 p c k ls HB.out.2.2.2.1 (by omega) HS.out w4 (HB.out.1.below H4.out.2.2)).mono ?_
      rintro e w5 ⟨pb, nb, cb, ok', J, hJn, rfl, hrJ, htJ, hB5⟩
      obtain ⟨rfl, rfl⟩ := H4.out.2.1.one htJ
      have hw5 := H4.out.2.2.trans (hB5.mono H4.out.2.2.size)
      have hrI := RowQ.below H4.out.1 hB5 (fun _ _ h => h.below hB5)
      obtain ⟨hIl, hIt⟩ := H4.out.2.1.len
      rw [H3.out.2.2] at hIl hIt
      rw [hJn] at hrI ⊢
      have heq := equalInfos w3.heap.size w4.heap.size pa pb nb ca cb J w5 hJn (by omega) (fun x hx => by have := hIt x hx; omega) hrI hrJ
      have H5 := Lib.hid (And.intro heq hw5)
      clear heq hw5 hrI hrJ htJ hB5 hIl hIt
      cases ok' <;> go_wp2_with (first
        | (go_at_call 31; refine H5.out.1.mono ?_; rintro e w6 ⟨rfl, hb6⟩)
        | (go_at_call 13; refine (HW.out _ (H5.out.2.trans (hb6.mono H5.out.2.size))).mono ?_; rintro e wd ⟨rfl, hbD⟩)
        | (go_at_call 13; refine (HW.out _ H5.out.2).mono ?_; rintro e wd ⟨rfl, hbD⟩))
      all_goals
        go_ret
        exact ⟨rfl, hbD⟩
end Go.Proofs.YtapkmoakbfpkeaaGreatDoor
