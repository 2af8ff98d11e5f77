/- The law FnAddrJoined. -/
import Derived.Test.YtkfiacolgkocfaaGreatDoorG5
namespace Go.Proofs.YtkfiacolgkocfaaGreatDoor
open Go Go.RowKit Go.Proofs Go.Sort
theorem hop_new (w : World) (K : Int) (p1 : Option Addr) (m1 c1 : Nat) (xs : List Int) (j : Nat) (u : Value) (hj : (hopCells [⟨K, ⟨p1, m1, c1, xs⟩⟩])[j]? = some u) :
    (w.alloc (.cells #[.int .u8 K, .slice p1 m1 c1] 37)).cell? ((⟨w.heap.size, 0, none⟩ : Addr).add j) = some u := by
  rw [Lib.add_plain, Nat.zero_add]
  refine (World.cell?_alloc_mark w _ _ _ j).trans ?_
  match j, hj with
  | 0, hj => exact hj
  | 1, hj => exact hj
theorem HIn.Ok.belowAll {l : List HIn} {w w' : World} (h : ∀ x ∈ l, HIn.Ok x w) (hb : Below w.heap.size w w') : ∀ x ∈ l, HIn.Ok x w' := fun x hx => (h x hx).below hb
theorem HAt.ok {w : World} {b o : Nat} {l : List HIn} (h : HAt w b o l) : ∀ x ∈ l, HIn.Ok x w := fun x hx => by
  obtain ⟨i, hi⟩ := List.getElem?_of_mem hx
  exact (h i x hi).2.2
set_option maxHeartbeats 1600000 in
set_option maxRecDepth 100000 in
theorem lawJoined (f : List Int → List Int) (hf : ShaIs f) (p : Option Addr) (c k : Nat) (l : List HIn) (hk : l.length = k) (_hkc : k ≤ c) (p1 : Option Addr) (m1 c1 : Nat) (xs : List Int) (hm1 : m1 ≤ 9223372036854775807) (w : World) (hb : LIn w p l) (hok : (Sl.mk p1 m1 c1 xs).Ok w) (hu : U8 xs) (hT : Tab w) :
    Calls Tryz.prog 5 #[.slice p k c, .slice p1 m1 c1] w fun e w' => e = .returned (.bool true) ∧ Below w.heap.size w w' := by
  have HB := Lib.hid (And.intro hb (And.intro hf (And.intro hT (And.intro hk (And.intro hok hu)))))
  clear hb hf hT hk hok hu
  go_enter Tryz.func5, Tryz.ntmps5
  go_wp2_with fail
  refine (zzFits1 p c k l HB.out.2.2.2.1 w HB.out.1).mono ?_
  rintro e w1 ⟨r, rfl, hB1⟩
  have H1 := Lib.hid hB1
  clear hB1
  cases r with
  | false =>
    go_wp2_with fail
    go_ret
    exact ⟨rfl, H1.out⟩
  | true =>
    by_cases hz : 2147483647 < m1
    · have hz1 : decide (2147483647 < m1) = true := by rw [decide_eq_true_iff]; exact hz
      have hz2 : decide ((2147483647 : Int) < (m1 : Int)) = true := by rw [decide_eq_true_iff]; omega
      go_wp2_with fail
      go_ret
      exact ⟨rfl, H1.out⟩
    · have hz1 : decide (2147483647 < m1) = false := by rw [decide_eq_false_iff_not]; exact hz
      have hz2 : decide ((2147483647 : Int) < (m1 : Int)) = false := by rw [decide_eq_false_iff_not]; omega
      go_wp2_with fail
      refine (addrShort p c k l HB.out.2.2.2.1 w1.heap.size _ ((HB.out.1.below H1.out).below ((Below.refl _ _).alloc (Nat.le_refl _) _)) (World.cell?_alloc_mark w1 _ _ _ 0)).mono ?_
      rintro e w2 ⟨r, rfl, hB2, hr⟩
      have H2 := Lib.hid (And.intro ((H1.out.alloc H1.out.size _).trans (hB2.mono (by have := H1.out.size; simp; omega))) hr)
      clear hB2 hr hz1 hz2
      have awake : ∀ (wx : World), Below w.heap.size w wx → Calls Tryz.prog 10 #[] wx fun e w' => e = .returned (.bool true) ∧ Below w.heap.size w w' := fun wx hx => (addrAwake f HB.out.2.1 wx (HB.out.2.2.1.below hx)).mono fun e w' ⟨he, hB⟩ => ⟨he, hx.trans (hB.mono hx.size)⟩
      have HW := Lib.hid awake
      clear awake
      cases r with
      | false =>
        go_wp2_with fail
        refine (HW.out _ H2.out.1).mono ?_
        rintro e w3 ⟨rfl, hB3⟩
        go_wp2_with fail
        go_ret
        exact ⟨rfl, hB3⟩
      | true =>
        by_cases hs : 100 < m1
        · have hs1 : decide (100 < m1) = true := by rw [decide_eq_true_iff]; exact hs
          have hs2 : decide ((100 : Int) < (m1 : Int)) = true := by rw [decide_eq_true_iff]; omega
          go_wp2_with fail
          refine (HW.out _ H2.out.1).mono ?_
          rintro e w3 ⟨rfl, hB3⟩
          go_wp2_with fail
          go_ret
          exact ⟨rfl, hB3⟩
        · have hs1 : decide (100 < m1) = false := by rw [decide_eq_false_iff_not]; exact hs
          have hs2 : decide ((100 : Int) < (m1 : Int)) = false := by rw [decide_eq_false_iff_not]; omega
          obtain ⟨hk0, hk20, hn⟩ := H2.out.2 rfl
          have HN := Lib.hid hn
          clear hn
          obtain ⟨b, o, rfl, hat⟩ := HB.out.1 (by rw [HB.out.2.2.2.1]; exact hk0)
          have hAt : HAt w b o l := fun i h hi => ⟨(hat i h hi).1, (hat i h hi).2.1, (hat i h hi).2.2.1, (hat i h hi).2.2.2.1, (hat i h hi).2.2.2.2, HN.out h (List.mem_of_getElem? hi)⟩
          have HA := Lib.hid hAt
          clear hat hAt
          go_upto_region 6 with fail
          obtain ⟨w3, hw3⟩ : ∃ w3, w3 = w2.alloc (.cells #[.int .u8 6, .slice p1 m1 c1] 37) := ⟨_, rfl⟩
          have c50 : w3.cell? ⟨w2.heap.size, 0, none⟩ = some (.int .u8 6) := by rw [hw3]; exact World.cell?_alloc_mark w2 _ _ _ 0
          have c51 : w3.cell? ⟨w2.heap.size, 1, none⟩ = some (.slice p1 m1 c1) := by rw [hw3]; exact World.cell?_alloc_mark w2 _ _ _ 1
          have hb3 : Below w.heap.size w w3 := by rw [hw3]; exact H2.out.1.alloc H2.out.1.size _
          rw [← hw3]
          have hat3 := HA.out.below hb3
          have hokx : HIn.Ok ⟨6, ⟨p1, m1, c1, xs⟩⟩ w3 := ⟨show (0 : Int) ≤ 6 ∧ (6 : Int) < 256 by decide, HB.out.2.2.2.2.1.below hb3, HB.out.2.2.2.2.2, by show m1 ≤ 100; omega⟩
          have hoks : ∀ x ∈ l ++ [(⟨6, ⟨p1, m1, c1, xs⟩⟩ : HIn)], HIn.Ok x w3 := fun x hx => by
            rcases List.mem_append.1 hx with h | h
            · exact hat3.ok x h
            · obtain rfl := List.mem_singleton.1 h
              exact hokx
          have hhop : (l ++ [(⟨6, ⟨p1, m1, c1, xs⟩⟩ : HIn)]).map (hopOf f) = l.map (hopOf f) ++ [(6, idB f xs)] := by rw [List.map_append, List.map_cons, List.map_nil, hopOf6 f 6 _ (by decide)]
          have hlen : l.map (hopOf f) ≠ [] := fun e => by have h1 := congrArg List.length e; rw [List.length_map, HB.out.2.2.2.1] at h1; simp at h1; omega
          have hops : ∀ x ∈ l.map (hopOf f) ++ [(6, idB f xs)], HopOk x := fun x hx => by
            rw [← hhop] at hx
            obtain ⟨y, hy, rfl⟩ := List.mem_map.1 hx
            exact hopOf_ok f HB.out.2.1 y (hoks y hy).2.2.1
          have hpos := addrB_pos _ hops (by simp)
          obtain ⟨N6, hN6⟩ : ∃ N, N = (addrB (l.map (hopOf f) ++ [(6, idB f xs)])).length := ⟨_, rfl⟩
          rw [← hN6] at hpos
          have HS := Lib.hid (And.intro hlen (And.intro hops (And.intro hN6 (show (l.map (hopOf f) ++ [(6, idB f xs)]).length ≤ 1000 by rw [List.length_append, List.length_map, HB.out.2.2.2.1]; simp; omega))))
          clear hlen hops hN6
          have H3 := Lib.hid (And.intro hat3 (And.intro hoks (And.intro hhop hb3)))
          have HC5 := Lib.hid (And.intro c50 c51)
          clear hw3 hat3 hokx hoks hhop hb3
          go_cut [6, 7, 8] (fun t6 t7 t8 wx => ∃ (g1 q1 g2 q2 N M : Nat), t6 = .slice (some ⟨g1, 0, none⟩) N q1 ∧ t7 = .slice (some ⟨g2, 0, none⟩) M q2 ∧ t8 = .bool true ∧ Hid (N = (addrB (l.map (hopOf f))).length ∧ M = (idB f xs).length ∧ Bs wx g1 0 (addrB (l.map (hopOf f))) ∧ Bs wx g2 0 (idB f xs) ∧ Below w3.heap.size w3 wx))
          case first =>
            go_region_held_law (fun w' => w'.cell? ⟨w2.heap.size, 0, none⟩ = some (.int .u8 6) ∧ w'.cell? ⟨w2.heap.size, 1, none⟩ = some (.slice p1 m1 c1))
              (first | exact ⟨c50, c51⟩ | exact ⟨cB hbX c50, cB hbX c51⟩ | exact ⟨cB (hbX.alloc hbX.size _) c50, cB (hbX.alloc hbX.size _) c51⟩ | exact ⟨cB (((Below.refl w3.heap.size w3).drew).alloc (Nat.le_refl _) _) c50, cB (((Below.refl w3.heap.size w3).drew).alloc (Nat.le_refl _) _) c51⟩)
              (first
                | (go_at_call 18; refine (cloneHops l k HB.out.2.2.2.1 (by omega) b o c _ (H3.out.1.below ((Below.refl w3.heap.size w3).drew))).mono ?_; rintro e w4 ⟨v, rfl, hown, hBc⟩; have hbX : Below w3.heap.size w3 w4 := ((Below.refl w3.heap.size w3).drew).trans (hBc.mono (Nat.le_refl _)); rw [HB.out.2.2.2.1] at hown; have hownX : w4.ownsRow w3.heap.size 37 2 v k (hopCells l) := hown.mono (Nat.le_refl _); clear hown)
                | (go_at_call 18; refine (cloneHops l k HB.out.2.2.2.1 (by omega) b o c _ (H3.out.1.below (((Below.refl w3.heap.size w3).drew).alloc (Nat.le_refl _) _))).mono ?_; rintro e w4 ⟨v, rfl, hown, hBc⟩; have hbX : Below w3.heap.size w3 w4 := (((Below.refl w3.heap.size w3).drew).alloc (Nat.le_refl _) _).trans (hBc.mono (by simp)); rw [HB.out.2.2.2.1] at hown; have hownX : w4.ownsRow w3.heap.size 37 2 v k (hopCells l) := hown.mono (by simp); clear hown)
                | (refine stepAppH rfl 36 rfl _ _ rfl w3.heap.size _ k l rfl (hownX.alloc _) ⟨w4.heap.size, 0, none⟩ 1 1 [⟨6, ⟨p1, m1, c1, xs⟩⟩] rfl rfl (hop_new w4 6 p1 m1 c1 xs) (by omega) (by have := hbX.size; simp; omega) ?_; intro v5 w5 hown5 hgrow5; have hb5 : Below w3.heap.size w3 w5 := grown_below (hbX.alloc hbX.size _) (hownX.alloc _) hgrow5 (by have := hbX.size; simp; omega); have hbX := hb5; obtain ⟨g5, q5, rfl, _, _, hat5⟩ := own_HAt hown5 (by rw [List.length_append, HB.out.2.2.2.1]; rfl) (by omega) (HIn.Ok.belowAll H3.out.2.1 hb5))
                | (refine stepAppH rfl 36 rfl _ _ rfl w3.heap.size _ k l rfl hownX ⟨w3.heap.size, 0, none⟩ 1 1 [⟨6, ⟨p1, m1, c1, xs⟩⟩] rfl rfl (fun j u hj => cB hBc (hop_new w3.drew 6 p1 m1 c1 xs j u hj)) (by omega) hbX.size ?_; intro v5 w5 hown5 hgrow5; have hb5 : Below w3.heap.size w3 w5 := grown_below hbX hownX hgrow5 hbX.size; have hbX := hb5; obtain ⟨g5, q5, rfl, _, _, hat5⟩ := own_HAt hown5 (by rw [List.length_append, HB.out.2.2.2.1]; rfl) (by omega) (HIn.Ok.belowAll H3.out.2.1 hb5))
                | (go_at_call 11; refine (addrOfB f HB.out.2.1 _ (k + 1) (by rw [List.length_append, HB.out.2.2.2.1]; rfl) (by omega) g5 0 q5 _ hat5).mono ?_; rintro e w6 ⟨v6, rfl, hown6, hB6⟩; rw [H3.out.2.2.1, ← HS.out.2.2.1] at hown6; have hb6 : Below w3.heap.size w3 w6 := hb5.trans (hB6.mono hb5.size); have hbX := hb6; obtain ⟨g6, q6, rfl, hbs6⟩ := ownsRow_bs hown6 hpos)
                | (go_at_call 17; refine (implSplit6 (l.map (hopOf f)) (6, idB f xs) HS.out.1 HS.out.2.1 rfl HS.out.2.2.2 g6 0 N6 q6 w6 HS.out.2.2.1.symm hbs6 (HB.out.2.2.1.below (H3.out.2.2.2.trans (hb6.mono H3.out.2.2.2.size)))).mono ?_; rintro e w7 ⟨g1, q1, g2, q2, rfl, hbs71, hbs72, hB7⟩; have hb7 : Below w3.heap.size w3 w7 := hb6.trans (hB7.mono hb6.size); have hbX := hb7))
            all_goals
              go_wp2_with fail
              go_meet
              case rel => exact ⟨g1, q1, g2, q2, _, _, rfl, rfl, rfl, rfl, rfl, hbs71, hbs72, hb7⟩
          case rest =>
            obtain ⟨g1, q1, g2, q2, N, M, rfl, rfl, rfl, hI⟩ := hcut
            obtain ⟨W4, hW4⟩ : ∃ W, W = wc := ⟨_, rfl⟩
            rw [← hW4] at hI ⊢
            clear hW4 wc
            have hb34 := hI.out.2.2.2.2
            have d50 := cB hb34 c50
            have d51 := cB hb34 c51
            have hW4 : Below w.heap.size w W4 := H3.out.2.2.2.trans (hb34.mono H3.out.2.2.2.size)
            have H4 := Lib.hid (And.intro (H3.out.1.below hb34) (And.intro (HIn.Ok.belowAll H3.out.2.1 hb34) hW4))
            have HI := Lib.hid (And.intro hI.out.1 (And.intro hI.out.2.1 (And.intro hI.out.2.2.1 hI.out.2.2.2.1)))
            clear hb34 hW4 hI c50 c51 HC5
            go_upto_region 7 with fail
            go_cut [9, 10] (fun t9 t10 wx => ∃ (g3 q3 : Nat), t9 = .slice (some ⟨g3, 0, none⟩) M q3 ∧ t10 = .bool true ∧ Hid (Bs wx g3 0 (idB f xs) ∧ Below W4.heap.size W4 wx))
            case first =>
              go_region_held_law (fun w' => w'.cell? ⟨w2.heap.size, 0, none⟩ = some (.int .u8 6) ∧ w'.cell? ⟨w2.heap.size, 1, none⟩ = some (.slice p1 m1 c1))
                (first | exact ⟨d50, d51⟩ | exact ⟨cB hbX d50, cB hbX d51⟩ | exact ⟨cB (hbX.alloc hbX.size _) d50, cB (hbX.alloc hbX.size _) d51⟩ | exact ⟨cB (((Below.refl W4.heap.size W4).drew).alloc (Nat.le_refl _) _) d50, cB (((Below.refl W4.heap.size W4).drew).alloc (Nat.le_refl _) _) d51⟩)
                (first
                  | (go_at_call 18; refine (cloneHops l k HB.out.2.2.2.1 (by omega) b o c _ (H4.out.1.below ((Below.refl W4.heap.size W4).drew))).mono ?_; rintro e w4 ⟨v, rfl, hown, hBc⟩; have hbX : Below W4.heap.size W4 w4 := ((Below.refl W4.heap.size W4).drew).trans (hBc.mono (Nat.le_refl _)); rw [HB.out.2.2.2.1] at hown; have hownX : w4.ownsRow W4.heap.size 37 2 v k (hopCells l) := hown.mono (Nat.le_refl _); clear hown)
                  | (go_at_call 18; refine (cloneHops l k HB.out.2.2.2.1 (by omega) b o c _ (H4.out.1.below (((Below.refl W4.heap.size W4).drew).alloc (Nat.le_refl _) _))).mono ?_; rintro e w4 ⟨v, rfl, hown, hBc⟩; have hbX : Below W4.heap.size W4 w4 := (((Below.refl W4.heap.size W4).drew).alloc (Nat.le_refl _) _).trans (hBc.mono (by simp)); rw [HB.out.2.2.2.1] at hown; have hownX : w4.ownsRow W4.heap.size 37 2 v k (hopCells l) := hown.mono (by simp); clear hown)
                  | (refine stepAppH rfl 47 rfl _ _ rfl W4.heap.size _ k l rfl (hownX.alloc _) ⟨w4.heap.size, 0, none⟩ 1 1 [⟨6, ⟨p1, m1, c1, xs⟩⟩] rfl rfl (hop_new w4 6 p1 m1 c1 xs) (by omega) (by have := hbX.size; simp; omega) ?_; intro v5 w5 hown5 hgrow5; have hb5 : Below W4.heap.size W4 w5 := grown_below (hbX.alloc hbX.size _) (hownX.alloc _) hgrow5 (by have := hbX.size; simp; omega); have hbX := hb5; obtain ⟨g5, q5, rfl, _, _, hat5⟩ := own_HAt hown5 (by rw [List.length_append, HB.out.2.2.2.1]; rfl) (by omega) (HIn.Ok.belowAll H4.out.2.1 hb5))
                  | (refine stepAppH rfl 47 rfl _ _ rfl W4.heap.size _ k l rfl hownX ⟨W4.heap.size, 0, none⟩ 1 1 [⟨6, ⟨p1, m1, c1, xs⟩⟩] rfl rfl (fun j u hj => cB hBc (hop_new W4.drew 6 p1 m1 c1 xs j u hj)) (by omega) hbX.size ?_; intro v5 w5 hown5 hgrow5; have hb5 : Below W4.heap.size W4 w5 := grown_below hbX hownX hgrow5 hbX.size; have hbX := hb5; obtain ⟨g5, q5, rfl, _, _, hat5⟩ := own_HAt hown5 (by rw [List.length_append, HB.out.2.2.2.1]; rfl) (by omega) (HIn.Ok.belowAll H4.out.2.1 hb5))
                  | (go_at_call 11; refine (addrOfB f HB.out.2.1 _ (k + 1) (by rw [List.length_append, HB.out.2.2.2.1]; rfl) (by omega) g5 0 q5 _ hat5).mono ?_; rintro e w6 ⟨v6, rfl, hown6, hB6⟩; rw [H3.out.2.2.1, ← HS.out.2.2.1] at hown6; have hb6 : Below W4.heap.size W4 w6 := hb5.trans (hB6.mono hb5.size); have hbX := hb6; obtain ⟨g6, q6, rfl, hbs6⟩ := ownsRow_bs hown6 hpos)
                  | (go_at_call 14; refine (implPeer6 (l.map (hopOf f)) (6, idB f xs) HS.out.2.1 rfl HS.out.2.2.2 g6 0 N6 q6 w6 HS.out.2.2.1.symm hbs6 (HB.out.2.2.1.below (H4.out.2.2.trans (hb6.mono H4.out.2.2.size)))).mono ?_; rintro e w7 ⟨g3, q3, rfl, hbs73, hB7⟩; have hb7 : Below W4.heap.size W4 w7 := hb6.trans (hB7.mono hb6.size); have hbX := hb7))
              all_goals
                go_wp2_with fail
                go_meet
                case rel => exact ⟨g3, q3, by rw [HI.out.2.1], rfl, hbs73, hb7⟩
            case rest =>
              obtain ⟨g3, q3, rfl, rfl, hI5⟩ := hcut
              obtain ⟨W5, hW5⟩ : ∃ W, W = wc := ⟨_, rfl⟩
              rw [← hW5] at hI5 ⊢
              clear hW5 wc d50 d51
              have hb5 := hI5.out.2
              have hat5 := H4.out.1.below hb5
              have H5 := Lib.hid (And.intro hat5 (And.intro (H4.out.2.2.trans (hb5.mono H4.out.2.2.size)) (And.intro (HI.out.2.2.1.below hb5) (And.intro (HI.out.2.2.2.below hb5) hI5.out.1))))
              have hid := idB_len f HB.out.2.1 xs
              rw [← HI.out.2.1] at hid
              clear hb5 hat5 hI5
              go_wp2_with fail
              refine (addrOfB f HB.out.2.1 l k HB.out.2.2.2.1 (by omega) b o c _ H5.out.1).mono ?_
              rintro e w6 ⟨v6, rfl, hown6, hB6⟩
              have hLN : 0 < (addrB (l.map (hopOf f))).length := addrB_pos _ (fun x hx => HS.out.2.1 x (by simp [hx])) HS.out.1
              rw [← HI.out.1] at hown6 hLN
              obtain ⟨g6, q6, rfl, hbs6⟩ := ownsRow_bs hown6 hLN
              have H6 := Lib.hid (And.intro (H5.out.2.1.trans (hB6.mono H5.out.2.1.size)) (And.intro (equalSame g1 q1 N g6 q6 (addrB (l.map (hopOf f))) w6 HI.out.1.symm (H5.out.2.2.1.below hB6) hbs6) (And.intro (H5.out.2.2.2.1.below hB6) (H5.out.2.2.2.2.below hB6))))
              clear hown6 hB6 hbs6
              go_wp2_with fail
              refine H6.out.2.1.mono ?_
              rintro e w6' ⟨rfl, rfl⟩
              go_wp2_with fail
              refine (addrID f HB.out.2.1 p1 m1 c1 xs _ (HB.out.2.2.2.2.1.below H6.out.1) HB.out.2.2.2.2.2 (by omega)).mono ?_
              rintro e w7 ⟨v7, rfl, hown7, hB7⟩
              rw [← HI.out.2.1] at hown7
              obtain ⟨g7, q7, rfl, hbs7⟩ := ownsRow_bs hown7 (by omega)
              have H7 := Lib.hid (And.intro (H6.out.1.trans (hB7.mono H6.out.1.size)) (And.intro (equalSame g2 q2 M g7 q7 (idB f xs) w7 HI.out.2.1.symm (H6.out.2.2.1.below hB7) hbs7) (equalSame g3 q3 M g2 q2 (idB f xs) w7 HI.out.2.1.symm (H6.out.2.2.2.below hB7) (H6.out.2.2.1.below hB7))))
              clear hown7 hB7 hbs7
              go_wp2_with fail
              refine H7.out.2.1.mono ?_
              rintro e w7' ⟨rfl, rfl⟩
              go_wp2_with fail
              refine H7.out.2.2.mono ?_
              rintro e w7' ⟨rfl, rfl⟩
              go_wp2_with fail
              refine (HW.out _ H7.out.1).mono ?_
              rintro e w8 ⟨rfl, hB8⟩
              go_wp2_with fail
              go_ret
              exact ⟨rfl, hB8⟩
end Go.Proofs.YtkfiacolgkocfaaGreatDoor
