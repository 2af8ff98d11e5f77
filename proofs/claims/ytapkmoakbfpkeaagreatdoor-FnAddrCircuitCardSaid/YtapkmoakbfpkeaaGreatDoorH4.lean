/- The law FnAddrCircuit. -/
import Derived.Test.YtapkmoakbfpkeaaGreatDoorZC
namespace Go.Proofs.YtapkmoakbfpkeaaGreatDoor
open Go Go.RowKit Go.Proofs Go.Sort
set_option maxRecDepth 100000 in
theorem sliceUp (g n k c : Nat) (hk : k ≤ c) (w : World) : (Instr.slice 23 (.slice (some ⟨g, 0, none⟩) n c) none (some (.int .i64 (k : Int))) none).run Tryz.prog w = .ok (.slice (some ⟨g, 0, none⟩) k c) w := by
  unfold Instr.slice
  simp [run_underlying Tryz.underlying23, go_sem]
  intro h
  omega
set_option maxHeartbeats 16000000 in
set_option maxRecDepth 100000 in
theorem lawCircuit (f : List Int → List Int) (hf : ShaIs f) (p : Option Addr) (c k : Nat) (l : List HIn) (hk : l.length = k) (p1 : Option Addr) (m1 c1 : Nat) (xs : List Int) (hm1 : m1 ≤ 9223372036854775807) (p2 : Option Addr) (m2 c2 : Nat) (ys : List Int) (hm2 : m2 ≤ 9223372036854775807) (w : World) (hb : LIn w p l) (hok : (Sl.mk p1 m1 c1 xs).Ok w) (hu : U8 xs) (hok2 : (Sl.mk p2 m2 c2 ys).Ok w) (hu2 : U8 ys) (hT : Tab w) (hE : ErrV w) :
    Calls Tryz.prog 3 #[.slice p k c, .slice p1 m1 c1, .slice p2 m2 c2] w fun e w' => e = .returned (.bool true) ∧ Below w.heap.size w w' := by
  have HB := Lib.hid (And.intro hb (And.intro hf (And.intro hT (And.intro hk (And.intro hok (And.intro hu (And.intro hok2 (And.intro hu2 hE))))))))
  have awake : ∀ (wx : World), Below w.heap.size w wx → Calls Tryz.prog 13 #[] wx fun e w' => e = .returned (.bool true) ∧ Below w.heap.size w w' := fun wx hx => (addrAwake f hf wx (hT.below hx)).mono fun e w' ⟨he, hB⟩ => ⟨he, hx.trans (hB.mono hx.size)⟩
  have HW := Lib.hid awake
  clear hb hf hT hk hok hu hok2 hu2 hE awake
  go_enter Tryz.func3, Tryz.ntmps3
  go_wp2_with fail
  refine (zzFits1 p c k l HB.out.2.2.2.1 w HB.out.1).mono ?_
  rintro e w1 ⟨r, rfl, hB1⟩
  have H1 := Lib.hid hB1
  clear hB1
  cases r with
  | false =>
    go_wp2_with fail
    go_ret
    exact ⟨rfl, H1.out⟩
  | true =>
  by_cases hz : 2147483647 < m1
  · have hz1 : decide (2147483647 < m1) = true := by rw [decide_eq_true_iff]; exact hz
    have hz2 : decide ((2147483647 : Int) < (m1 : Int)) = true := by rw [decide_eq_true_iff]; omega
    go_wp2_with fail
    go_ret
    exact ⟨rfl, H1.out⟩
  have hz1 : decide (2147483647 < m1) = false := by rw [decide_eq_false_iff_not]; exact hz
  have hz2 : decide ((2147483647 : Int) < (m1 : Int)) = false := by rw [decide_eq_false_iff_not]; omega
  by_cases hy : 2147483647 < m2
  · have hy1 : decide (2147483647 < m2) = true := by rw [decide_eq_true_iff]; exact hy
    have hy2 : decide ((2147483647 : Int) < (m2 : Int)) = true := by rw [decide_eq_true_iff]; omega
    go_wp2_with fail
    go_ret
    exact ⟨rfl, H1.out⟩
  have hy1 : decide (2147483647 < m2) = false := by rw [decide_eq_false_iff_not]; exact hy
  have hy2 : decide ((2147483647 : Int) < (m2 : Int)) = false := by rw [decide_eq_false_iff_not]; omega
  go_wp2_with fail
  refine (addrShort p c k l HB.out.2.2.2.1 w1.heap.size _ ((HB.out.1.below H1.out).below ((Below.refl _ _).alloc (Nat.le_refl _) _)) (World.cell?_alloc_mark w1 _ _ _ 0)).mono ?_
  rintro e w2 ⟨r, rfl, hB2, hr⟩
  have H2 := Lib.hid (And.intro ((H1.out.alloc H1.out.size _).trans (hB2.mono (by have := H1.out.size; simp; omega))) hr)
  clear hB2 hr hz1 hz2 hy1 hy2
  cases r with
  | false =>
    go_wp2_with fail
    refine (HW.out _ H2.out.1).mono ?_
    rintro e w3 ⟨rfl, hB3⟩
    go_wp2_with fail
    go_ret
    exact ⟨rfl, hB3⟩
  | true =>
  by_cases hs : 100 < m1
  · have hs1 : decide (100 < m1) = true := by rw [decide_eq_true_iff]; exact hs
    have hs2 : decide ((100 : Int) < (m1 : Int)) = true := by rw [decide_eq_true_iff]; omega
    go_wp2_with fail
    refine (HW.out _ H2.out.1).mono ?_
    rintro e w3 ⟨rfl, hB3⟩
    go_wp2_with fail
    go_ret
    exact ⟨rfl, hB3⟩
  have hs1 : decide (100 < m1) = false := by rw [decide_eq_false_iff_not]; exact hs
  have hs2 : decide ((100 : Int) < (m1 : Int)) = false := by rw [decide_eq_false_iff_not]; omega
  by_cases ht : 100 < m2
  · have ht1 : decide (100 < m2) = true := by rw [decide_eq_true_iff]; exact ht
    have ht2 : decide ((100 : Int) < (m2 : Int)) = true := by rw [decide_eq_true_iff]; omega
    go_wp2_with fail
    refine (HW.out _ H2.out.1).mono ?_
    rintro e w3 ⟨rfl, hB3⟩
    go_wp2_with fail
    go_ret
    exact ⟨rfl, hB3⟩
  have ht1 : decide (100 < m2) = false := by rw [decide_eq_false_iff_not]; exact ht
  have ht2 : decide ((100 : Int) < (m2 : Int)) = false := by rw [decide_eq_false_iff_not]; omega
  obtain ⟨hk0, hk20, hn⟩ := H2.out.2 rfl
  have HN := Lib.hid hn
  clear hn
  obtain ⟨b, o, rfl, hat⟩ := HB.out.1 (by rw [HB.out.2.2.2.1]; exact hk0)
  have hAt : HAt w b o l := fun i h hi => ⟨(hat i h hi).1, (hat i h hi).2.1, (hat i h hi).2.2.1, (hat i h hi).2.2.2.1, (hat i h hi).2.2.2.2, HN.out h (List.mem_of_getElem? hi)⟩
  have HA := Lib.hid hAt
  clear hat hAt
  have hokx : HIn.Ok ⟨6, ⟨p1, m1, c1, xs⟩⟩ w := ⟨show (0 : Int) ≤ 6 ∧ (6 : Int) < 256 by decide, HB.out.2.2.2.2.1, HB.out.2.2.2.2.2.1, by show m1 ≤ 100; omega⟩
  have hoky : HIn.Ok ⟨6, ⟨p2, m2, c2, ys⟩⟩ w := ⟨show (0 : Int) ≤ 6 ∧ (6 : Int) < 256 by decide, HB.out.2.2.2.2.2.2.1, HB.out.2.2.2.2.2.2.2.1, by show m2 ≤ 100; omega⟩
  have hok5 : HIn.Ok ⟨5, ⟨none, 0, 0, []⟩⟩ w := ⟨show (0 : Int) ≤ 5 ∧ (5 : Int) < 256 by decide, ⟨rfl, Lib.BytesIn.nil _ _ _, fun _ => ⟨rfl, rfl⟩⟩, (fun x hx => by cases hx), Nat.zero_le _⟩
  obtain ⟨way, hway⟩ : ∃ v, v = l ++ [(⟨6, ⟨p1, m1, c1, xs⟩⟩ : HIn)] := ⟨_, rfl⟩
  obtain ⟨cir, hcir⟩ : ∃ v, v = way ++ [(⟨5, ⟨none, 0, 0, []⟩⟩ : HIn)] := ⟨_, rfl⟩
  obtain ⟨full, hfull⟩ : ∃ v, v = cir ++ [(⟨6, ⟨p2, m2, c2, ys⟩⟩ : HIn)] := ⟨_, rfl⟩
  have hoks0 : ∀ x ∈ l, HIn.Ok x w := HA.out.ok
  have hoks1 : ∀ x ∈ way, HIn.Ok x w := fun x hx => by
    rw [hway] at hx
    rcases List.mem_append.1 hx with h | h
    · exact hoks0 x h
    · obtain rfl := List.mem_singleton.1 h
      exact hokx
  have hoks2 : ∀ x ∈ cir, HIn.Ok x w := fun x hx => by
    rw [hcir] at hx
    rcases List.mem_append.1 hx with h | h
    · exact hoks1 x h
    · obtain rfl := List.mem_singleton.1 h
      exact hok5
  have hoks3 : ∀ x ∈ full, HIn.Ok x w := fun x hx => by
    rw [hfull] at hx
    rcases List.mem_append.1 hx with h | h
    · exact hoks2 x h
    · obtain rfl := List.mem_singleton.1 h
      exact hoky
  have hl1 : way.length = k + 1 := by rw [hway, List.length_append, HB.out.2.2.2.1]; rfl
  have hl2 : cir.length = k + 2 := by rw [hcir, List.length_append, hl1]; rfl
  have hl3 : full.length = k + 3 := by rw [hfull, List.length_append, hl2]; rfl
  have he1 : way.map (hopOf f) = l.map (hopOf f) ++ [(6, idB f xs)] := by rw [hway, List.map_append, List.map_cons, List.map_nil, hopOf6 f 6 _ (by decide)]
  have he2 : cir.map (hopOf f) = way.map (hopOf f) ++ [(5, [])] := by rw [hcir, List.map_append, List.map_cons, List.map_nil, hopOf5 f 5 _ (by decide)]
  have he3 : full.map (hopOf f) = cir.map (hopOf f) ++ [(6, idB f ys)] := by rw [hfull, List.map_append, List.map_cons, List.map_nil, hopOf6 f 6 _ (by decide)]
  have hops : ∀ x ∈ full.map (hopOf f), HopOk x := fun x hx => by
    obtain ⟨y, hy, rfl⟩ := List.mem_map.1 hx
    exact hopOf_ok f HB.out.2.1 y (hoks3 y hy).2.2.1
  have HL := Lib.hid (And.intro hl1 (And.intro hl2 hl3))
  have HE := Lib.hid (And.intro he1 (And.intro he2 he3))
  have HO := Lib.hid (And.intro hoks1 (And.intro hoks2 (And.intro hoks3 hops)))
  have HC := Lib.hid (And.intro hway (And.intro hcir hfull))
  have H0 := Lib.hid (show Below w.heap.size w w2 from H2.out.1)
  have HA0 := Lib.hid (HA.out.below H2.out.1)
  clear hokx hoky hok5 hoks0 hoks1 hoks2 hoks3 hl1 hl2 hl3 he1 he2 he3 hops hway hcir hfull
  have Hw2 := Lib.hid (And.intro H0.out HA0.out)
  go_wp2_with fail
  refine (cloneHops l (k) HB.out.2.2.2.1 (by omega) b o c _ Hw2.out.2).mono ?_
  rintro e x2 ⟨v, rfl, hown, hBc⟩
  rw [HB.out.2.2.2.1] at hown
  have HX2 := Lib.hid (And.intro hown hBc)
  clear hown hBc
  go_wp2_with (at_builtin; refine wpAppH rfl _ _ rfl w2.heap.size _ (k) l rfl (HX2.out.1.alloc _) ⟨x2.heap.size, 0, none⟩ 1 1 [⟨6, ⟨p1, m1, c1, xs⟩⟩] rfl rfl (hop_new x2 6 p1 m1 c1 xs) (by omega) (by have := HX2.out.2.size; simp; omega) ?_)
  intro v w3 hown4 hgrow4
  have hb4 : Below w2.heap.size w2 w3 := grown_below (HX2.out.2.alloc HX2.out.2.size _) (HX2.out.1.alloc _) hgrow4 (by have := HX2.out.2.size; simp; omega)
  rw [← HC.out.1] at hown4
  have hw3 : Below w.heap.size w w3 := Hw2.out.1.trans (hb4.mono Hw2.out.1.size)
  obtain ⟨g3, d3, rfl, _, _, hat3⟩ := own_HAt hown4 HL.out.1 (by omega) (HIn.Ok.belowAll HO.out.1 hw3)
  have Hw3 := Lib.hid (And.intro hw3 (And.intro hat3 hb4))
  clear hown4 hgrow4 hb4 hw3 hat3
  go_wp2_with fail
  refine (cloneHops way (k + 1) HL.out.1 (by omega) g3 0 d3 _ Hw3.out.2.1).mono ?_
  rintro e x3 ⟨v, rfl, hown, hBc⟩
  rw [HL.out.1] at hown
  have HX3 := Lib.hid (And.intro hown hBc)
  clear hown hBc
  go_wp2_with (at_builtin; refine wpAppH rfl _ _ rfl w3.heap.size _ (k + 1) way rfl (HX3.out.1.alloc _) ⟨x3.heap.size, 0, none⟩ 1 1 [⟨5, ⟨none, 0, 0, []⟩⟩] rfl rfl (hop_new x3 5 none 0 0 []) (by omega) (by have := HX3.out.2.size; simp; omega) ?_)
  intro v w4 hown4 hgrow4
  have hb4 : Below w3.heap.size w3 w4 := grown_below (HX3.out.2.alloc HX3.out.2.size _) (HX3.out.1.alloc _) hgrow4 (by have := HX3.out.2.size; simp; omega)
  rw [← HC.out.2.1] at hown4
  have hw4 : Below w.heap.size w w4 := Hw3.out.1.trans (hb4.mono Hw3.out.1.size)
  obtain ⟨g4, d4, rfl, _, _, hat4⟩ := own_HAt hown4 HL.out.2.1 (by omega) (HIn.Ok.belowAll HO.out.2.1 hw4)
  have Hw4 := Lib.hid (And.intro hw4 (And.intro hat4 hb4))
  clear hown4 hgrow4 hb4 hw4 hat4
  go_wp2_with fail
  refine (cloneHops cir (k + 2) HL.out.2.1 (by omega) g4 0 d4 _ Hw4.out.2.1).mono ?_
  rintro e x4 ⟨v, rfl, hown, hBc⟩
  rw [HL.out.2.1] at hown
  have HX4 := Lib.hid (And.intro hown hBc)
  clear hown hBc
  go_wp2_with (at_builtin; refine wpAppH rfl _ _ rfl w4.heap.size _ (k + 2) cir rfl (HX4.out.1.alloc _) ⟨x4.heap.size, 0, none⟩ 1 1 [⟨6, ⟨p2, m2, c2, ys⟩⟩] rfl rfl (hop_new x4 6 p2 m2 c2 ys) (by omega) (by have := HX4.out.2.size; simp; omega) ?_)
  intro v w5 hown4 hgrow4
  have hb4 : Below w4.heap.size w4 w5 := grown_below (HX4.out.2.alloc HX4.out.2.size _) (HX4.out.1.alloc _) hgrow4 (by have := HX4.out.2.size; simp; omega)
  rw [← HC.out.2.2] at hown4
  have hw5 : Below w.heap.size w w5 := Hw4.out.1.trans (hb4.mono Hw4.out.1.size)
  obtain ⟨g5, d5, rfl, _, _, hat5⟩ := own_HAt hown4 HL.out.2.2 (by omega) (HIn.Ok.belowAll HO.out.2.2.1 hw5)
  have Hw5 := Lib.hid (And.intro hw5 (And.intro hat5 hb4))
  clear hown4 hgrow4 hb4 hw5 hat5
  go_wp2_with fail
  refine (addrOfB f HB.out.2.1 full (k + 3) HL.out.2.2 (by omega) g5 0 d5 _ Hw5.out.2.1).mono ?_
  rintro e w6 ⟨v, rfl, hown6, hB6⟩
  have hpos := addrB_pos _ HO.out.2.2.2 (by rw [HE.out.2.2]; simp)
  obtain ⟨N6, hN6⟩ : ∃ N, N = (addrB (full.map (hopOf f))).length := ⟨_, rfl⟩
  rw [← hN6] at hpos hown6
  obtain ⟨g6, d6, rfl, hbs6⟩ := ownsRow_bs hown6 hpos
  have hw6 : Below w.heap.size w w6 := Hw5.out.1.trans (hB6.mono Hw5.out.1.size)
  have hops := HO.out.2.2.2
  rw [HE.out.2.2] at hbs6 hN6 hops
  have hopsc : ∀ x ∈ cir.map (hopOf f), HopOk x := fun x hx => hops x (List.mem_append_left _ hx)
  have hlc : (cir.map (hopOf f) ++ [(6, idB f ys)]).length ≤ 1000 := by rw [List.length_append, List.length_map, HL.out.2.1]; simp; omega
  have hidy := idB_len f HB.out.2.1 ys
  have hidx := idB_len f HB.out.2.1 xs
  have hnec : cir.map (hopOf f) ≠ [] := by rw [HE.out.2.1]; simp
  have hin := implInfo6 (cir.map (hopOf f)) (6, idB f ys) hnec hops rfl (fun e => by rw [show idB f ys = [] from e] at hidy; simp at hidy) hlc g6 0 N6 d6 w6 hN6.symm hbs6 (HB.out.2.2.1.below hw6)
  have hposc := addrB_pos _ hopsc hnec
  have hb46 : Below w4.heap.size w4 w6 := Hw5.out.2.2.trans (hB6.mono Hw5.out.2.2.size)
  have HI := Lib.hid (And.intro hin (And.intro hw6 (And.intro hopsc (And.intro hnec hb46))))
  obtain ⟨M1, hM1⟩ : ∃ N, N = (idB f xs).length := ⟨_, rfl⟩
  obtain ⟨M2, hM2⟩ : ∃ N, N = (idB f ys).length := ⟨_, rfl⟩
  obtain ⟨N4, hN4⟩ : ∃ N, N = (addrB (way.map (hopOf f))).length := ⟨_, rfl⟩
  have hN5 : N4 + 2 = (addrB (cir.map (hopOf f))).length := by rw [HE.out.2.1, addrB_append, List.length_append, ← hN4]; rfl
  rw [← hM1] at hidx
  rw [← hM2] at hidy
  rw [← hN5] at hposc
  have HM := Lib.hid (And.intro hM1 (And.intro hM2 (And.intro hN5 hN4)))
  clear hown6 hB6 hbs6 hw6 hops hopsc hlc hnec hin hb46 hM1 hM2 hN5 hN6 hN4
  go_wp2_with fail
  refine HI.out.1.mono ?_
  rintro e w7 ⟨v, rfl, ⟨r1, e1, r2, r3, e3, e2, rfl, hrB, hb1, hc2, hb3⟩, hB7⟩
  have hb1' : Bs w7 r1 0 (idB f ys) := hb1
  have hN5 := HM.out.2.2.1
  have hM2 := HM.out.2.1
  rw [← hN5] at hc2 hrB
  rw [show ((6, idB f ys) : Hop).2.length = M2 from hM2.symm]
  have hcc : N4 + 2 ≤ e3 ∧ e3 ≤ 9223372036854775807 := ⟨hrB.2.2.2.1, hrB.2.2.2.2⟩
  have H7 := Lib.hid (And.intro (HI.out.2.1.trans (hB7.mono HI.out.2.1.size)) (And.intro hb1' (And.intro hc2 (And.intro hb3 (HI.out.2.2.2.2.trans (hB7.mono HI.out.2.2.2.2.size))))))
  clear hb1 hb1' hN5 hM2 hrB hc2 hb3 hB7 HN
  go_upto_region 8 with fail
  obtain ⟨W8, hW8⟩ : ∃ W, W = w7.alloc (.cells #[.slice (some ⟨r1, 0, none⟩) M2 e1, .slice (some ⟨r2, 0, none⟩) 1 e2] 32) := ⟨_, rfl⟩
  have hb78 : Below w7.heap.size w7 W8 := by rw [hW8]; exact (Below.refl _ _).alloc (Nat.le_refl _) _
  have f0 : W8.cell? ⟨w7.heap.size, 0, none⟩ = some (.slice (some ⟨r1, 0, none⟩) M2 e1) := by rw [hW8]; exact World.cell?_alloc_mark w7 _ _ _ 0
  have f1 : W8.cell? ⟨w7.heap.size, 1, none⟩ = some (.slice (some ⟨r2, 0, none⟩) 1 e2) := by rw [hW8]; exact World.cell?_alloc_mark w7 _ _ _ 1
  have fq := cB hb78 H7.out.2.2.1
  have hw8 : Below w.heap.size w W8 := H7.out.1.trans (hb78.mono H7.out.1.size)
  rw [← hW8]
  have H8 := Lib.hid (And.intro hw8 (And.intro (H7.out.2.1.below hb78) (And.intro (H7.out.2.2.2.1.below hb78) (HA.out.below hw8))))
  have hcir8 := Hw4.out.2.1
  have hb48 : Below w4.heap.size w4 W8 := H7.out.2.2.2.2.trans (hb78.mono H7.out.2.2.2.2.size)
  have HC8 := Lib.hid (hcir8.below hb48)
  obtain ⟨R, hR⟩ : ∃ R, R = w7.heap.size := ⟨_, rfl⟩
  rw [← hR] at f0 f1 ⊢
  have f0' := f0
  clear hcir8 hb48 hb78 hw8 hW8 hR f0'
  go_cut [91] (fun t91 wx => t91 = .bool false ∧ Hid (Below W8.heap.size W8 wx))
  case first =>
    go_region_held_law (fun w' => w'.cell? ⟨R, 0, none⟩ = some (.slice (some ⟨r1, 0, none⟩) M2 e1) ∧ w'.cell? ⟨R, 1, none⟩ = some (.slice (some ⟨r2, 0, none⟩) 1 e2) ∧ w'.cell? ⟨r2, 0, none⟩ = some (.slice (some ⟨r3, 0, none⟩) (N4 + 2) e3))
      (first | exact ⟨f0, f1, fq⟩ | exact ⟨cB hbX f0, cB hbX f1, cB hbX fq⟩)
      (first
        | (go_at_call 18; refine (addrID f HB.out.2.1 p2 m2 c2 ys _ (HB.out.2.2.2.2.2.2.1.below ((H8.out.1).drew)) HB.out.2.2.2.2.2.2.2.1 (by omega)).mono ?_; rintro e wa ⟨va, rfl, hownA, hBA⟩; rw [← HM.out.2.1] at hownA; have hbA : Below W8.heap.size W8 wa := ((Below.refl W8.heap.size W8).drew).trans hBA; have hbX := hbA; obtain ⟨ga, ca, rfl, hbsA⟩ := ownsRow_bs hownA (by omega))
        | (go_at_call 17; refine (equalSame r1 e1 M2 ga ca (idB f ys) wa HM.out.2.1.symm (H8.out.2.1.below hbA) hbsA).mono ?_; rintro e wy ⟨rfl, rfl⟩; have hbX := hbA)
        | (go_at_call 16; refine (addrOfB f HB.out.2.1 cir (k + 1 + 1) HL.out.2.1 (by omega) g4 0 d4 _ (HC8.out.below hbX)).mono ?_; rintro e wb ⟨vb, rfl, hownB, hBB⟩; rw [← HM.out.2.2.1] at hownB; have hbB : Below W8.heap.size W8 wb := hbX.trans (hBB.mono hbX.size); have hbX := hbB; obtain ⟨gb, cb, rfl, hbsB⟩ := ownsRow_bs hownB (by omega))
        | (go_at_call 17; refine (equalSame r3 e3 (N4 + 2) gb cb (addrB (cir.map (hopOf f))) wb HM.out.2.2.1.symm (H8.out.2.2.1.below hbB) hbsB).mono ?_; rintro e wy ⟨rfl, rfl⟩; have hbX := hbB))
    all_goals
      go_wp2_with fail
      go_meet
      case rel => exact ⟨rfl, hbX⟩
  case rest =>
    obtain ⟨rfl, hI⟩ := hcut
    obtain ⟨W9, hW9⟩ : ∃ W, W = wc := ⟨_, rfl⟩
    rw [← hW9] at hI ⊢
    clear hW9 wc
    have hb89 := hI.out
    have k0 := cB hb89 f0
    have k1 := cB hb89 f1
    have kq := cB hb89 fq
    have hw9 : Below w.heap.size w W9 := H8.out.1.trans (hb89.mono H8.out.1.size)
    have H9 := Lib.hid (And.intro hw9 (H8.out.2.2.1.below hb89))
    clear hb89 hw9 hI f0 f1 fq
    go_wp2_with fail
    have hpe := implPeerN (way.map (hopOf f)) (5, []) (by rw [← HE.out.2.1]; exact HI.out.2.2.1) (by decide) (by rw [List.length_append, List.length_map, HL.out.1]; simp; omega) r3 0 (N4 + 2) e3 W9 (by rw [← HE.out.2.1]; exact HM.out.2.2.1.symm) (by rw [← HE.out.2.1]; exact H9.out.2) (HB.out.2.2.1.below H9.out.1) (HB.out.2.2.2.2.2.2.2.2.below H9.out.1)
    refine hpe.mono ?_
    rintro e w10 ⟨rfl, hB10⟩
    have Hw10 := Lib.hid (And.intro (H9.out.1.trans (hB10.mono H9.out.1.size)) (H9.out.2.below hB10))
    replace k0 := cB hB10 k0
    replace k1 := cB hB10 k1
    replace kq := cB hB10 kq
    clear hpe hB10
    go_wp2_with fail
    refine (hopBytes5 5 (by decide) (by decide) (by decide) none 0 0 _).mono ?_
    rintro e w11 ⟨v, rfl, hown11, hB11⟩
    obtain ⟨gt, ct, rfl, _⟩ := ownsRow_bs (show w11.ownsRow _ _ 1 v 2 _ from hown11) (by decide)
    have Hw11 := Lib.hid (And.intro (Hw10.out.1.trans (hB11.mono Hw10.out.1.size)) (Hw10.out.2.below hB11))
    replace k0 := cB hB11 k0
    replace k1 := cB hB11 k1
    replace kq := cB hB11 kq
    clear hown11 hB11
    go_upto_region 14 with fail
    obtain ⟨N3, hN3⟩ : ∃ N, N = (addrB (l.map (hopOf f))).length := ⟨_, rfl⟩
    have HN3 := Lib.hid hN3
    have t2 : wrap64 (((N4 + 2 : Nat) : Int) - 2) = (N4 : Int) := by rw [IntWalk.wrap64_in _ (by omega)]; omega
    have hle : N4 ≤ e3 := by omega
    have hp4 : 0 < N4 := by rw [HM.out.2.2.2]; exact addrB_pos _ (fun x hx => HI.out.2.2.1 x (by rw [HE.out.2.1]; exact List.mem_append_left _ hx)) (by rw [HE.out.1]; simp)
    have hwr : IntKind.i64.wrap (N4 : Int) = (N4 : Int) := IntWalk.i64_in _ (by omega)
    have hN4u : N4 ≤ 123000 := by
      have h := addrB_le (way.map (hopOf f)) (fun x hx => HI.out.2.2.1 x (by rw [HE.out.2.1]; exact List.mem_append_left _ hx))
      rw [← HM.out.2.2.2, List.length_map, HL.out.1] at h
      omega
    have hsl := fun w => sliceUp r3 (N4 + 2) N4 e3 hle w
    have hnl : (e3 < N4) = False := eq_false (by omega)
    have hdl : decide (e3 < N4) = false := by rw [decide_eq_false_iff_not]; omega
    have q0 : (w11.alloc (.cells #[.slice none 0 0, .slice none 0 0] 32)).cell? ⟨R, 0, none⟩ = some (.slice (some ⟨r1, 0, none⟩) M2 e1) := cB ((Below.refl w11.heap.size w11).alloc (Nat.le_refl _) _) k0
    have q1 : (w11.alloc (.cells #[.slice none 0 0, .slice none 0 0] 32)).cell? ⟨R, 1, none⟩ = some (.slice (some ⟨r2, 0, none⟩) 1 e2) := cB ((Below.refl w11.heap.size w11).alloc (Nat.le_refl _) _) k1
    have qq : (w11.alloc (.cells #[.slice none 0 0, .slice none 0 0] 32)).cell? ⟨r2, 0, none⟩ = some (.slice (some ⟨r3, 0, none⟩) (N4 + 2) e3) := cB ((Below.refl w11.heap.size w11).alloc (Nat.le_refl _) _) kq
    have hbw : Bs w11 r3 0 (addrB (way.map (hopOf f))) := fun j hj => by
      have h := Hw11.out.2 j (by rw [HE.out.2.1, addrB_append, List.length_append]; omega)
      rw [h, HE.out.2.1, addrB_append]
      simp [List.getD, List.getElem?_append_left hj]
    have HBW := Lib.hid hbw
    have hinfo : ∀ (g d : Nat) (wz : World), Below w.heap.size w wz → Bs wz g 0 (addrB (way.map (hopOf f))) → Calls Tryz.prog 15 #[.slice (some ⟨g, 0, none⟩) N4 d] wz fun e w' => ∃ v, e = .returned (.tuple #[v, .bool true]) ∧ PlainV w' wz.heap.size v (idB f xs) (addrB (l.map (hopOf f))) ∧ Below wz.heap.size wz w' := fun g d wz hz hbz => by
      rw [HE.out.1] at hbz
      exact implInfo6 (l.map (hopOf f)) (6, idB f xs) (fun e => by have h1 := congrArg List.length e; rw [List.length_map, HB.out.2.2.2.1] at h1; simp at h1; omega) (fun x hx => HI.out.2.2.1 x (by rw [HE.out.2.1, HE.out.1]; exact List.mem_append_left _ hx)) rfl (fun e => by have h1 := HM.out.1; rw [show idB f xs = [] from e] at h1; simp at h1; omega) (by rw [List.length_append, List.length_map, HB.out.2.2.2.1]; simp; omega) g 0 N4 d wz (by rw [← HE.out.1]; exact HM.out.2.2.2.symm) hbz (HB.out.2.2.1.below hz)
    have HIN := Lib.hid hinfo
    have hRl : R < w11.heap.size := World.block_lt_of_cell? w11 _ k1
    have hrl : r2 < w11.heap.size := World.block_lt_of_cell? w11 _ kq
    clear hN3 hbw hinfo
    go_cut [14, 15] (fun t14 t15 wx => ∃ (r14 s1 E1 s2 E2 s3 E3 : Nat), t14 = .pointer (some ⟨r14, 0, none⟩) ∧ t15 = .bool true ∧ Hid (wx.cell? ⟨r14, 0, none⟩ = some (.slice (some ⟨s1, 0, none⟩) M1 E1) ∧ wx.cell? ⟨r14, 1, none⟩ = some (.slice (some ⟨s2, 0, none⟩) 1 E2) ∧ wx.cell? ⟨s2, 0, none⟩ = some (.slice (some ⟨s3, 0, none⟩) N3 E3) ∧ Bs wx s1 0 (idB f xs) ∧ Bs wx s3 0 (addrB (l.map (hopOf f))) ∧ Below w.heap.size w wx))
    case first =>
      go_region_held_law (fun w' => w'.cell? ⟨R, 1, none⟩ = some (.slice (some ⟨r2, 0, none⟩) 1 e2) ∧ w'.cell? ⟨r2, 0, none⟩ = some (.slice (some ⟨r3, 0, none⟩) (N4 + 2) e3))
        (first | exact ⟨k1, kq⟩ | exact ⟨q1, qq⟩ | exact ⟨cB hbA k1, cB hbA kq⟩ | exact ⟨cB (hbA.alloc hbA.size _) k1, cB (hbA.alloc hbA.size _) kq⟩ | exact ⟨cB hbB k1, cB hbB kq⟩ | exact ⟨cB (hbB.alloc hbB.size _) k1, cB (hbB.alloc hbB.size _) kq⟩ | exact ⟨(cell_set (by omega) _).trans ((cell_set (by omega) _).trans (cB hbB k1)), (cell_set (by omega) _).trans ((cell_set (by omega) _).trans (cB hbB kq))⟩)
        (first
        | (go_at_call 21; refine (Tryz.bytes_Clone_at ⟨r3, 0, none⟩ N4 e3 (addrB (way.map (hopOf f))) w11.drew HM.out.2.2.2.symm (by omega) (fun i hi => by rw [Lib.add_plain]; exact HBW.out i (by rw [← HM.out.2.2.2]; exact hi))).mono ?_; rintro e wa ⟨va, rfl, hownA, hvnA, hBA⟩; have hbA : Below w11.heap.size w11 wa := ((Below.refl w11.heap.size w11).drew).trans hBA; have hzA := hbA.size; obtain ⟨ga, ca, rfl, hbsA⟩ := ownsRow_bs hownA hp4)
        | (go_at_call 21; refine (Tryz.bytes_Clone_at ⟨r3, 0, none⟩ N4 e3 (addrB (way.map (hopOf f))) (w11.drew.alloc (.cells #[.slice none 0 0, .slice none 0 0] 32)) HM.out.2.2.2.symm (by omega) (fun i hi => by rw [Lib.add_plain]; exact HBW.out.below (((Below.refl w11.heap.size w11).drew).alloc (Nat.le_refl _) _) i (by rw [← HM.out.2.2.2]; exact hi))).mono ?_; rintro e wa ⟨va, rfl, hownA, hvnA, hBA⟩; have hPA := (hBA.block w11.heap.size (by simp)).trans (heap_alloc_new w11.drew (.cells #[.slice none 0 0, .slice none 0 0] 32)); have hbA : Below w11.heap.size w11 wa := (((Below.refl w11.heap.size w11).drew).alloc (Nat.le_refl _) _).trans (hBA.mono (by simp)); have hzA := hbA.size; obtain ⟨ga, ca, rfl, hbsA⟩ := ownsRow_bs hownA hp4)
        | (go_at_call 15; refine (HIN.out ga ca wa (Hw11.out.1.trans (hbA.mono Hw11.out.1.size)) hbsA).mono ?_; rintro e wb ⟨v, rfl, ⟨s1, E1, s2, s3, E3, E2, rfl, hsB, u1, u2, u3⟩, hBB⟩; rw [← HN3.out] at u2; rw [← HM.out.1]; have hPB := (hBB.block _ (Array.getElem?_eq_some_iff.1 hPA).1).trans hPA; obtain ⟨⟨y0, y1⟩, z0, z1⟩ := two_cells hPB; have hlt := (Array.getElem?_eq_some_iff.1 hPA).1; have hbB : Below w11.heap.size w11 wb := hbA.trans (hBB.mono hbA.size))
        | (go_at_call 15; refine (HIN.out ga ca wa (Hw11.out.1.trans (hbA.mono Hw11.out.1.size)) hbsA).mono ?_; rintro e wb ⟨v, rfl, ⟨s1, E1, s2, s3, E3, E2, rfl, hsB, u1, u2, u3⟩, hBB⟩; rw [← HN3.out] at u2; rw [← HM.out.1]; have hbB : Below w11.heap.size w11 wb := hbA.trans (hBB.mono hbA.size))
        | (go_at_call 15; have hbA2 := hbA.alloc hbA.size (.cells #[.slice none 0 0, .slice none 0 0] 32); refine (HIN.out ga ca (wa.alloc (.cells #[.slice none 0 0, .slice none 0 0] 32)) (Hw11.out.1.trans (hbA2.mono Hw11.out.1.size)) (hbsA.below ((Below.refl _ _).alloc (Nat.le_refl _) _))).mono ?_; rintro e wb ⟨v, rfl, ⟨s1, E1, s2, s3, E3, E2, rfl, hsB, u1, u2, u3⟩, hBB⟩; rw [← HN3.out] at u2; rw [← HM.out.1]; have hPA := heap_alloc_new wa (.cells #[.slice none 0 0, .slice none 0 0] 32); have hPB := (hBB.block _ (Array.getElem?_eq_some_iff.1 hPA).1).trans hPA; obtain ⟨⟨y0, y1⟩, z0, z1⟩ := two_cells hPB; have hlt := (Array.getElem?_eq_some_iff.1 hPA).1; have hbB : Below w11.heap.size w11 wb := hbA2.trans (hBB.mono hbA2.size)))
      all_goals
        have hwB : Below w.heap.size w wb := Hw11.out.1.trans (hbB.mono Hw11.out.1.size)
        have hal := fun o => (Below.refl wb.heap.size wb).alloc (Nat.le_refl _) o
        go_wp2_with fail
        go_meet
        case rel => first | exact ⟨wb.heap.size, s1, E1, s2, E2, s3, E3, rfl, rfl, World.cell?_alloc_mark wb _ _ _ 0, World.cell?_alloc_mark wb _ _ _ 1, cB (hal _) u2, u1.below (hal _), u3.below (hal _), hwB.alloc hwB.size _⟩ | exact ⟨w11.heap.size, s1, E1, s2, E2, s3, E3, rfl, rfl, (two_cells (two_set01 hPB _ _)).1.1, (two_cells (two_set01 hPB _ _)).1.2, (cell_set (by omega) _).trans ((cell_set (by omega) _).trans u2), bs_set (by omega) _ (bs_set (by omega) _ u1), bs_set (by omega) _ (bs_set (by omega) _ u3), ((hwB.setCell Hw11.out.1.size _).setCell Hw11.out.1.size _)⟩ | exact ⟨wa.heap.size, s1, E1, s2, E2, s3, E3, rfl, rfl, (two_cells (two_set01 hPB _ _)).1.1, (two_cells (two_set01 hPB _ _)).1.2, (cell_set (by omega) _).trans ((cell_set (by omega) _).trans u2), bs_set (by omega) _ (bs_set (by omega) _ u1), bs_set (by omega) _ (bs_set (by omega) _ u3), ((hwB.setCell (Nat.le_trans Hw11.out.1.size hbA.size) _).setCell (Nat.le_trans Hw11.out.1.size hbA.size) _)⟩
    case rest =>
      obtain ⟨r14, s1, E1, s2, E2, s3, E3, rfl, rfl, hJ⟩ := hcut
      obtain ⟨W15, hW15⟩ : ∃ W, W = wc := ⟨_, rfl⟩
      rw [← hW15] at hJ ⊢
      clear hW15 wc k0 k1 kq q0 q1 qq
      have j0 := hJ.out.1
      have j1 := hJ.out.2.1
      have jq := hJ.out.2.2.1
      have HJ := Lib.hid (And.intro hJ.out.2.2.2.1 (And.intro hJ.out.2.2.2.2.1 (And.intro hJ.out.2.2.2.2.2 (HA.out.below hJ.out.2.2.2.2.2))))
      have hp3 : 0 < N3 := by rw [HN3.out]; exact addrB_pos _ (fun x hx => HI.out.2.2.1 x (by rw [HE.out.2.1, HE.out.1]; exact List.mem_append_left _ (List.mem_append_left _ hx))) (fun e => by have h1 := congrArg List.length e; rw [List.length_map, HB.out.2.2.2.1] at h1; simp at h1; omega)
      have hN3u : N3 ≤ 123000 := by
        have h := addrB_le (l.map (hopOf f)) (fun x hx => HI.out.2.2.1 x (by rw [HE.out.2.1, HE.out.1]; exact List.mem_append_left _ (List.mem_append_left _ hx)))
        rw [← HN3.out, List.length_map, HB.out.2.2.2.1] at h
        omega
      clear hJ
      go_upto_region 15 with fail
      go_cut [6] (fun t6 wx => t6 = .bool true ∧ Hid (Below w.heap.size w wx))
      case first =>
        go_region_held_law (fun w' => w'.cell? ⟨r14, 0, none⟩ = some (.slice (some ⟨s1, 0, none⟩) M1 E1) ∧ w'.cell? ⟨r14, 1, none⟩ = some (.slice (some ⟨s2, 0, none⟩) 1 E2) ∧ w'.cell? ⟨s2, 0, none⟩ = some (.slice (some ⟨s3, 0, none⟩) N3 E3))
          (first | exact ⟨j0, j1, jq⟩ | exact ⟨cB hbX j0, cB hbX j1, cB hbX jq⟩)
          (first
            | (go_at_call 18; refine (addrID f HB.out.2.1 p1 m1 c1 xs _ (HB.out.2.2.2.2.1.below ((HJ.out.2.2.1).drew)) HB.out.2.2.2.2.2.1 (by omega)).mono ?_; rintro e wa ⟨va, rfl, hownA, hBA⟩; rw [← HM.out.1] at hownA; have hbA : Below W15.heap.size W15 wa := ((Below.refl W15.heap.size W15).drew).trans hBA; have hbX := hbA; obtain ⟨ga, ca, rfl, hbsA⟩ := ownsRow_bs hownA (by omega))
            | (go_at_call 17; refine (equalSame s1 E1 M1 ga ca (idB f xs) wa HM.out.1.symm (HJ.out.1.below hbA) hbsA).mono ?_; rintro e wy ⟨rfl, rfl⟩; have hbX := hbA)
            | (go_at_call 16; refine (addrOfB f HB.out.2.1 l k HB.out.2.2.2.1 (by omega) b o c _ (HJ.out.2.2.2.below hbX)).mono ?_; rintro e wb ⟨vb, rfl, hownB, hBB⟩; rw [← HN3.out] at hownB; have hbB : Below W15.heap.size W15 wb := hbX.trans (hBB.mono hbX.size); have hbX := hbB; obtain ⟨gb, cb, rfl, hbsB⟩ := ownsRow_bs hownB hp3)
            | (go_at_call 17; refine (equalSame s3 E3 N3 gb cb (addrB (l.map (hopOf f))) wb HN3.out.symm (HJ.out.2.1.below hbB) hbsB).mono ?_; rintro e wy ⟨rfl, rfl⟩; have hbX := hbB)
            | (go_at_call 13; refine (addrAwake f HB.out.2.1 _ (HB.out.2.2.1.below (HJ.out.2.2.1.trans (hbX.mono HJ.out.2.2.1.size)))).mono ?_; rintro e wd ⟨rfl, hBD⟩; have hbD : Below W15.heap.size W15 wd := hbX.trans (hBD.mono hbX.size); have hbX := hbD))
        all_goals
          go_wp2_with fail
          go_meet
          case rel => exact ⟨rfl, HJ.out.2.2.1.trans (hbX.mono HJ.out.2.2.1.size)⟩
      case rest =>
        obtain ⟨rfl, hK⟩ := hcut
        go_wp2_with fail
        go_ret
        exact ⟨rfl, hK.out⟩
end Go.Proofs.YtapkmoakbfpkeaaGreatDoor
