/- The law FnAddrDoors. -/
import Derived.Test.YtapkmoakbfpkeaaGreatDoorZC
namespace Go.Proofs.YtapkmoakbfpkeaaGreatDoor
open Go Go.RowKit Go.Proofs Go.Sort
theorem cloneBs (gb N cb : Nat) (xs : List Int) (hN : xs.length = N) (h0 : 0 < N) (hm : N ≤ 1000000) (w : World) (hb : Bs w gb 0 xs) : Calls Tryz.prog 21 #[.slice (some ⟨gb, 0, none⟩) N cb] w fun e w' => ∃ g c, e = .returned (.slice (some ⟨g, 0, none⟩) N c) ∧ Bs w' g 0 xs ∧ Below w.heap.size w w' := by
  refine (Tryz.bytes_Clone_at ⟨gb, 0, none⟩ N cb xs w hN (by omega) (fun i hi => by rw [Lib.add_plain]; exact hb i (by rw [hN]; exact hi))).mono ?_
  rintro e w' ⟨v, rfl, hown, _, hB⟩
  obtain ⟨g, c, rfl, hbs⟩ := ownsRow_bs hown h0
  exact ⟨g, c, rfl, hbs, hB⟩
/-- A transport: nothing, or bytes. -/
def TrV (w : World) (ini : List Hop) (pt : Option Addr) : Prop := ini ≠ [] → ∃ g, pt = some ⟨g, 0, none⟩ ∧ Bs w g 0 (addrB ini)
theorem TrV.below {w w' : World} {ini : List Hop} {pt : Option Addr} (h : TrV w ini pt) (hb : Below w.heap.size w w') : TrV w' ini pt := fun hi => by
  obtain ⟨g, h1, h2⟩ := h hi
  exact ⟨g, h1, h2.below hb⟩
theorem addrB_nil : addrB [] = [] := rfl
theorem split6 (ini : List Hop) (h : Hop) (hh : ∀ x ∈ ini ++ [h], HopOk x) (h6 : h.1 = 6) (hl : (ini ++ [h]).length ≤ 1000) (b N c : Nat) (w : World) (hN : (addrB (ini ++ [h])).length = N) (hb : Bs w b 0 (addrB (ini ++ [h]))) (hT : Tab w) :
    Calls Tryz.prog 28 #[.slice (some ⟨b, 0, none⟩) N c] w fun e w' => ∃ pt ct g2 c2, e = .returned (.tuple #[.slice pt (addrB ini).length ct, .slice (some ⟨g2, 0, none⟩) h.2.length c2, .bool true]) ∧ TrV w' ini pt ∧ Bs w' g2 0 h.2 ∧ Below w.heap.size w w' := by
  by_cases hi : ini = []
  · subst hi
    refine (implSplit6e h (hh h (by simp)) h6 b 0 N c w hN hb hT).mono ?_
    rintro e w' ⟨g2, c2, rfl, h1, h2⟩
    exact ⟨none, 0, g2, c2, rfl, fun h => absurd rfl h, h1, h2⟩
  · refine (implSplit6 ini h hi hh h6 hl b 0 N c w hN hb hT).mono ?_
    rintro e w' ⟨g1, c1, g2, c2, rfl, h0, h1, h2⟩
    exact ⟨_, c1, g2, c2, rfl, fun _ => ⟨g1, rfl, h0⟩, h1, h2⟩
theorem info6 (ini : List Hop) (h : Hop) (hh : ∀ x ∈ ini ++ [h], HopOk x) (h6 : h.1 = 6) (hl : (ini ++ [h]).length ≤ 1000) (b N c : Nat) (w : World) (hN : (addrB (ini ++ [h])).length = N) (hb : Bs w b 0 (addrB (ini ++ [h]))) (hT : Tab w) :
    Calls Tryz.prog 15 #[.slice (some ⟨b, 0, none⟩) N c] w fun e w' => ∃ g1 c1 p2 c2, e = .returned (.tuple #[.agg #[.slice (some ⟨g1, 0, none⟩) h.2.length c1, .slice p2 (wayOf (ini ++ [h])).length c2], .bool true]) ∧ SameI w' (.slice (some ⟨g1, 0, none⟩) h.2.length c1, .slice p2 (wayOf (ini ++ [h])).length c2) (h.2, wayOf (ini ++ [h])) ∧ Below w.heap.size w w' := by
  have hd := (id6_ne (hh h (by simp)) h6).1
  by_cases hi : ini = []
  · subst hi
    refine (implInfo6e h (hh h (by simp)) h6 hd b 0 N c w hN hb hT).mono ?_
    rintro e w' ⟨g1, c1, p2, c2, rfl, h1, h2⟩
    rw [wayOf_snoc, if_pos rfl]
    exact ⟨g1, c1, p2, c2, rfl, ⟨g1, 0, c1, p2, c2, rfl, h1, fun i hs h => by simp at h⟩, h2⟩
  · refine (implInfo6 ini h hi hh h6 hd hl b 0 N c w hN hb hT).mono ?_
    rintro e w' ⟨v, rfl, ⟨g1, c1, q, g2, c2, cq, rfl, _, h1, h3, h4⟩, h2⟩
    rw [wayOf_snoc, if_neg hi]
    refine ⟨g1, c1, _, cq, rfl, ⟨g1, 0, c1, _, cq, rfl, h1, fun i hs h => ?_⟩, h2⟩
    match i, h with
    | 0, h =>
      obtain rfl : ini = hs := by simpa using h
      exact ⟨q, g2, 0, c2, rfl, h3, h4⟩
theorem SameI.bs {w : World} {g o n c : Nat} {v : Value} {x : List Int × List Adr} (h : SameI w (.slice (some ⟨g, o, none⟩) n c, v) x) : Bs w g o x.1 := by
  obtain ⟨g', o', c', p, c2, e, hb, _⟩ := h
  injection e with e _
  injection e with e _ _
  have e2 := Option.some.inj e
  injection e2 with e3 e4
  subst e3 e4
  exact hb
theorem SameI.list {w : World} {n c : Nat} {p : Option Addr} {v : Value} {x : List Int × List Adr} (h : SameI w (v, .slice p n c) x) : ListIn w p x.2 := by
  obtain ⟨g', o', c', p', c2, e, _, hl⟩ := h
  injection e with _ e
  injection e with e _ _
  subst e
  exact hl
set_option maxHeartbeats 16000000 in
set_option maxRecDepth 100000 in
theorem lawDoors (f : List Int → List Int) (hf : ShaIs f) (p : Option Addr) (c k : Nat) (l : List HIn) (hk : l.length = k) (_hkc : k ≤ c) (w : World) (hb : LIn w p l) (hT : Tab w) (hE : ErrV w) :
    Calls Tryz.prog 5 #[.slice p k c] w fun e w' => e = .returned (.bool true) ∧ Below w.heap.size w w' := by
  have HB := Lib.hid (And.intro hb (And.intro hf (And.intro hT (And.intro hk hE))))
  have awake : ∀ (wx : World), Below w.heap.size w wx → Calls Tryz.prog 13 #[] wx fun e w' => e = .returned (.bool true) ∧ Below w.heap.size w w' := fun wx hx => (addrAwake f hf wx (hT.below hx)).mono fun e w' ⟨he, hB⟩ => ⟨he, hx.trans (hB.mono hx.size)⟩
  have HW := Lib.hid awake
  clear hb hf hT hk hE awake
  go_enter Tryz.func5, Tryz.ntmps5
  go_wp2_with fail
  refine (zzFits1 p c k l HB.out.2.2.2.1 w HB.out.1).mono ?_
  rintro e w1 ⟨r, rfl, hB1⟩
  have H1 := Lib.hid hB1
  clear hB1
  cases r with
  | false =>
    go_wp2_with fail
    go_ret
    exact ⟨rfl, H1.out⟩
  | true =>
    go_wp2_with fail
    refine (addrShort p c k l HB.out.2.2.2.1 w1.heap.size _ ((HB.out.1.below H1.out).below ((Below.refl _ _).alloc (Nat.le_refl _) _)) (World.cell?_alloc_mark w1 _ _ _ 0)).mono ?_
    rintro e w2 ⟨r, rfl, hB2, hr⟩
    have H2 := Lib.hid (And.intro ((H1.out.alloc H1.out.size _).trans (hB2.mono (by have := H1.out.size; simp; omega))) hr)
    clear hB2 hr
    cases r with
    | false =>
      go_wp2_with fail
      refine (HW.out _ H2.out.1).mono ?_
      rintro e w3 ⟨rfl, hB3⟩
      go_wp2_with fail
      go_ret
      exact ⟨rfl, hB3⟩
    | true =>
      obtain ⟨hk0, hk20, hn⟩ := H2.out.2 rfl
      have HN := Lib.hid hn
      clear hn
      obtain ⟨b, o, rfl, hat⟩ := HB.out.1 (by rw [HB.out.2.2.2.1]; exact hk0)
      have hAt : HAt w b o l := fun i h hi => ⟨(hat i h hi).1, (hat i h hi).2.1, (hat i h hi).2.2.1, (hat i h hi).2.2.2.1, (hat i h hi).2.2.2.2, HN.out h (List.mem_of_getElem? hi)⟩
      have HA := Lib.hid hAt
      clear hat hAt
      go_wp2_with fail
      refine (addrOfB f HB.out.2.1 l k HB.out.2.2.2.1 (by omega) b o c _ (HA.out.below H2.out.1)).mono ?_
      rintro e w3 ⟨v, rfl, hown, hB3⟩
      have hoks := HA.out.oks f HB.out.2.1
      have hll : (l.map (hopOf f)).length = k := by rw [List.length_map]; exact HB.out.2.2.2.1
      have hne : l.map (hopOf f) ≠ [] := fun e => by rw [e] at hll; simp at hll; omega
      have hpos := addrB_pos _ hoks hne
      obtain ⟨gb, cb, rfl, hbs⟩ := ownsRow_bs hown hpos
      have hw3 : Below w.heap.size w w3 := H2.out.1.trans (hB3.mono H2.out.1.size)
      obtain ⟨ini, hx, hmap⟩ : ∃ ini hx, l.map (hopOf f) = ini ++ [hx] := by
        rcases List.eq_nil_or_concat (l.map (hopOf f)) with h0 | ⟨i, x, hx⟩
        · exact absurd h0 hne
        · exact ⟨i, x, by rw [hx, List.concat_eq_append]⟩
      rw [hmap] at hoks hbs hll hpos ⊢
      obtain ⟨N, hN⟩ : ∃ N, N = (addrB (ini ++ [hx])).length := ⟨_, rfl⟩
      have hNle : N ≤ 1000000 := by have := addrB_le _ hoks; omega
      rw [← hN] at hpos ⊢
      have hl1 : (ini ++ [hx]).length ≤ 1000 := by omega
      have hcl : ∀ wx, Below w3.heap.size w3 wx → Calls Tryz.prog 21 #[.slice (some ⟨gb, 0, none⟩) N cb] wx fun e w' => ∃ g c, e = .returned (.slice (some ⟨g, 0, none⟩) N c) ∧ Bs w' g 0 (addrB (ini ++ [hx])) ∧ Below wx.heap.size wx w' := fun wx hwx => cloneBs gb N cb _ hN.symm hpos hNle wx (hbs.below hwx)
      have HR := Lib.hid (And.intro hw3 (And.intro hoks (And.intro hbs (And.intro hl1 (And.intro hN hcl)))))
      clear hB3 hown hne hbs hw3 hoks hll hl1 hmap hcl hN
      have hadr : AdrOk (ini ++ [hx]) := ⟨by simp, HR.out.2.1, HR.out.2.2.2.1⟩
      have hinf : ∀ (p : Option Addr) (c : Nat) (wx : World), Below w.heap.size w wx → ListIn wx p [ini ++ [hx]] → Calls Tryz.prog 23 #[.slice p 1 c] wx (IInf [ini ++ [hx]] wx) := fun p c wx hwx hli =>
        implInfos [ini ++ [hx]] (fun hs hh => by rw [List.mem_singleton] at hh; subst hh; exact hadr) p 1 c wx rfl (by decide) hli (HB.out.2.2.1.below hwx) (HB.out.2.2.2.2.below hwx)
      have HIN := Lib.hid hinf
      clear hadr hinf
      by_cases h6 : hx.1 = 6
      · obtain ⟨hne, hMle⟩ := id6_ne (HR.out.2.1 hx (by simp)) h6
        have hM0 : 0 < hx.2.length := List.length_pos_iff.2 hne
        obtain ⟨M, hM⟩ : ∃ M, M = hx.2.length := ⟨_, rfl⟩
        obtain ⟨T, hTl⟩ : ∃ M, M = (addrB ini).length := ⟨_, rfl⟩
        obtain ⟨Q, hQ⟩ : ∃ M, M = (wayOf (ini ++ [hx])).length := ⟨_, rfl⟩
        have hsp : ∀ g c wx, Below w.heap.size w wx → Bs wx g 0 (addrB (ini ++ [hx])) → Calls Tryz.prog 28 #[.slice (some ⟨g, 0, none⟩) N c] wx fun e w' => ∃ pt ct g2 c2, e = .returned (.tuple #[.slice pt T ct, .slice (some ⟨g2, 0, none⟩) M c2, .bool true]) ∧ TrV w' ini pt ∧ Bs w' g2 0 hx.2 ∧ Below wx.heap.size wx w' := fun g c wx h1 h2 => by
          rw [hM, hTl]; exact split6 ini hx HR.out.2.1 h6 HR.out.2.2.2.1 g N c wx HR.out.2.2.2.2.1.symm h2 (HB.out.2.2.1.below h1)
        have hpe : ∀ g c wx, Below w.heap.size w wx → Bs wx g 0 (addrB (ini ++ [hx])) → Calls Tryz.prog 19 #[.slice (some ⟨g, 0, none⟩) N c] wx fun e w' => ∃ g2 c2, e = .returned (.tuple #[.slice (some ⟨g2, 0, none⟩) M c2, .bool true]) ∧ Bs w' g2 0 hx.2 ∧ Below wx.heap.size wx w' := fun g c wx h1 h2 => by
          rw [hM]; exact implPeer6 ini hx HR.out.2.1 h6 HR.out.2.2.2.1 g 0 N c wx HR.out.2.2.2.2.1.symm h2 (HB.out.2.2.1.below h1)
        have hio : ∀ g c wx, Below w.heap.size w wx → Bs wx g 0 (addrB (ini ++ [hx])) → Calls Tryz.prog 15 #[.slice (some ⟨g, 0, none⟩) N c] wx fun e w' => ∃ g1 c1 p2 c2, e = .returned (.tuple #[.agg #[.slice (some ⟨g1, 0, none⟩) M c1, .slice p2 Q c2], .bool true]) ∧ SameI w' (.slice (some ⟨g1, 0, none⟩) M c1, .slice p2 Q c2) (hx.2, wayOf (ini ++ [hx])) ∧ Below wx.heap.size wx w' := fun g c wx h1 h2 => by
          rw [hM, hQ]; exact info6 ini hx HR.out.2.1 h6 HR.out.2.2.2.1 g N c wx HR.out.2.2.2.2.1.symm h2 (HB.out.2.2.1.below h1)
        have HC := Lib.hid (And.intro hsp (And.intro hpe (And.intro hio (And.intro hM (And.intro hTl (And.intro hQ h6))))))
        rw [← hM] at hM0 hMle
        have hM1 : decide (0 < M) = true := by rw [decide_eq_true_iff]; exact hM0
        have hM2 : decide ((0 : Int) < (M : Int)) = true := by rw [decide_eq_true_iff]; omega
        clear hsp hpe hio hne hM hTl hQ h6
        go_wp2_with fail
        refine (HR.out.2.2.2.2.2 _ (Below.refl _ _)).mono ?_
        rintro e w4 ⟨g4, c4, rfl, hb4, hB4⟩
        have H4 := Lib.hid (And.intro hb4 (And.intro (HR.out.1.trans (hB4.mono HR.out.1.size)) hB4))
        clear hb4 hB4
        go_wp2_with fail
        refine (HC.out.1 g4 c4 w4 H4.out.2.1 H4.out.1).mono ?_
        rintro e w5 ⟨pt, ct, g5, c5, rfl, ht5, hb5, hB5⟩
        have H5 := Lib.hid (And.intro ht5 (And.intro hb5 (And.intro (H4.out.2.1.trans (hB5.mono H4.out.2.1.size)) (H4.out.2.2.trans (hB5.mono H4.out.2.2.size)))))
        clear ht5 hb5 hB5
        go_wp2_with fail
        refine (HR.out.2.2.2.2.2 _ H5.out.2.2.2).mono ?_
        rintro e w6 ⟨g6, c6, rfl, hb6, hB6⟩
        have H6 := Lib.hid (And.intro hb6 (And.intro (H5.out.2.2.1.trans (hB6.mono H5.out.2.2.1.size)) (And.intro (H5.out.2.2.2.trans (hB6.mono H5.out.2.2.2.size)) hB6)))
        clear hb6 hB6
        go_wp2_with fail
        refine (HC.out.2.1 g6 c6 w6 H6.out.2.1 H6.out.1).mono ?_
        rintro e w7 ⟨g7, c7, rfl, hb7, hB7⟩
        have H7 := Lib.hid (And.intro hb7 (And.intro (H6.out.2.1.trans (hB7.mono H6.out.2.1.size)) (And.intro (H6.out.2.2.1.trans (hB7.mono H6.out.2.2.1.size)) (H6.out.2.2.2.trans (hB7.mono H6.out.2.2.2.size)))))
        clear hb7 hB7
        go_wp2_with fail
        refine (HR.out.2.2.2.2.2 _ H7.out.2.2.1).mono ?_
        rintro e w8 ⟨g8, c8, rfl, hb8, hB8⟩
        have H8 := Lib.hid (And.intro hb8 (And.intro (H7.out.2.1.trans (hB8.mono H7.out.2.1.size)) (And.intro (H7.out.2.2.1.trans (hB8.mono H7.out.2.2.1.size)) hB8)))
        clear hb8 hB8
        go_wp2_with fail
        refine (HC.out.2.2.1 g8 c8 w8 H8.out.2.1 H8.out.1).mono ?_
        rintro e w9 ⟨g9, c9, p9, d9, rfl, hs9, hB9⟩
        have h89 := H8.out.2.2.2.trans (hB9.mono H8.out.2.2.2.size)
        have h59 := H7.out.2.2.2.trans (h89.mono H7.out.2.2.2.size)
        have H9 := Lib.hid (And.intro hs9 (And.intro (H8.out.2.1.trans (hB9.mono H8.out.2.1.size)) (And.intro (H8.out.2.2.1.trans (hB9.mono H8.out.2.2.1.size)) (And.intro h89 h59))))
        clear hs9 hB9 h89 h59
        go_wp2_with fail
        obtain ⟨X, hX⟩ : ∃ X, X = w9.heap.size := ⟨_, rfl⟩
        obtain ⟨W10, hW10⟩ : ∃ W, W = (w9.alloc (.cells #[.slice (some ⟨g9, 0, none⟩) M c9, .slice p9 Q d9] 32)).alloc (.cells #[.slice (some ⟨gb, 0, none⟩) N cb] 23) := ⟨_, rfl⟩
        have hb10 : Below w9.heap.size w9 W10 := by rw [hW10]; exact ((Below.refl _ _).alloc (Nat.le_refl _) _).alloc (by simp) _
        have x0 : W10.cell? ⟨X, 0, none⟩ = some (.slice (some ⟨g9, 0, none⟩) M c9) := by rw [hW10, hX]; exact (cB ((Below.refl _ _).alloc (Nat.le_refl _) _) (World.cell?_alloc_mark w9 _ _ _ 0)).trans rfl
        have x1 : W10.cell? ⟨X, 1, none⟩ = some (.slice p9 Q d9) := by rw [hW10, hX]; exact (cB ((Below.refl _ _).alloc (Nat.le_refl _) _) (World.cell?_alloc_mark w9 _ _ _ 1)).trans rfl
        have xl : W10.cell? ⟨w9.heap.size + 1, 0, none⟩ = some (.slice (some ⟨gb, 0, none⟩) N cb) := by
          rw [hW10]
          have h := World.cell?_alloc_mark (w9.alloc (.cells #[.slice (some ⟨g9, 0, none⟩) M c9, .slice p9 Q d9] 32)) #[.slice (some ⟨gb, 0, none⟩) N cb] 23 (0, 0) 0
          rw [show (w9.alloc (.cells #[.slice (some ⟨g9, 0, none⟩) M c9, .slice p9 Q d9] 32)).heap.size = w9.heap.size + 1 by simp] at h
          exact h
        rw [← hW10, ← hX]
        rw [← hX] at xl
        have h910 : Below w9.heap.size w9 W10 := hb10
        have hw10 := H9.out.2.1.trans (hb10.mono H9.out.2.1.size)
        have h310 := H9.out.2.2.1.trans (hb10.mono H9.out.2.2.1.size)
        have hli : ListIn W10 (some ⟨X + 1, 0, none⟩) [ini ++ [hx]] := fun i hs hi => by
          match i, hi with
          | 0, hi =>
            obtain rfl : ini ++ [hx] = hs := by simpa using hi
            exact ⟨X + 1, gb, 0, cb, rfl, by rw [← HR.out.2.2.2.2.1]; exact xl, HR.out.2.2.1.below h310⟩
        have HL := Lib.hid (And.intro (HIN.out _ 1 W10 hw10 hli) (And.intro hw10 hb10))
        clear hli hb10 hw10 h310 h910 xl hX hW10
        refine HL.out.1.mono ?_
        rintro e w11 ⟨hB11, ⟨h6', v, I, rfl, hI, hrow⟩ | ⟨⟨hs, hm, hne⟩, _⟩⟩
        rotate_left
        · rw [List.mem_singleton] at hm
          subst hm
          exact absurd ((ends6_snoc ini hx).2 HC.out.2.2.2.2.2.2) hne
        have hIe := infos_eq hI (infos_one (ini ++ [hx]))
        rw [lastId_snoc] at hIe
        subst hIe
        clear hI h6'
        rcases RowQ.form hrow with ⟨_, e⟩ | ⟨ga, ca, rfl, hca, hBa⟩
        · cases e
        obtain ⟨⟨a1, a2⟩, ⟨hc0, hc1⟩, hpl⟩ := RowQ.at hrow 0 _ rfl
        obtain ⟨go, oo, co, po, do_, ea, hao, hal⟩ := hpl.same
        injection ea with ea1 ea2
        subst ea1 ea2
        clear hpl hrow
        replace hc0 : w11.cell? ⟨ga, 0, none⟩ = some (.slice (some ⟨go, oo, none⟩) M co) := by rw [HC.out.2.2.2.1]; exact hc0
        replace hc1 : w11.cell? ⟨ga, 1, none⟩ = some (.slice po Q do_) := by rw [HC.out.2.2.2.2.2.1]; exact hc1
        replace x0 := cB hB11 x0
        replace x1 := cB hB11 x1
        have hsX : SameI w11 (.slice (some ⟨g9, 0, none⟩) M c9, .slice p9 Q d9) (hx.2, wayOf (ini ++ [hx])) := H9.out.1.below (HL.out.2.2.trans (hB11.mono HL.out.2.2.size))
        have hsA : SameI w11 (.slice (some ⟨go, oo, none⟩) M co, .slice po Q do_) (hx.2, wayOf (ini ++ [hx])) := ⟨go, oo, co, po, do_, by rw [HC.out.2.2.2.1, HC.out.2.2.2.2.2.1], hao, hal⟩
        have h911 := HL.out.2.2.trans (hB11.mono HL.out.2.2.size)
        have h711 := H9.out.2.2.2.1.trans (h911.mono H9.out.2.2.2.1.size)
        have h511 := H9.out.2.2.2.2.trans (h911.mono H9.out.2.2.2.2.size)
        have H11 := Lib.hid (And.intro hsX (And.intro hsA (And.intro (H5.out.1.below h511) (And.intro (H5.out.2.1.below h511) (And.intro (H7.out.1.below h711) (HL.out.2.1.trans (hB11.mono HL.out.2.1.size)))))))
        clear hao hal hsX hsA h911 h711 h511 hB11 hca hBa
        have hQ9 : (wayOf (ini ++ [hx])).length ≤ 100000 := by rw [wayOf_snoc]; split <;> simp
        go_upto_region 14 with fail
        go_cut [93] (fun t93 wx => t93 = .bool false ∧ Hid (Below w11.heap.size w11 wx))
        case first =>
          go_region_held_law (fun w' => w'.cell? ⟨X, 0, none⟩ = some (.slice (some ⟨g9, 0, none⟩) M c9) ∧ w'.cell? ⟨X, 1, none⟩ = some (.slice p9 Q d9) ∧ w'.cell? ⟨ga, 0, none⟩ = some (.slice (some ⟨go, oo, none⟩) M co) ∧ w'.cell? ⟨ga, 1, none⟩ = some (.slice po Q do_))
            (first | exact ⟨x0, x1, hc0, hc1⟩ | exact ⟨cB hbX x0, cB hbX x1, cB hbX hc0, cB hbX hc1⟩)
            (first
              | (go_at_call 17; refine (equalSame g7 c7 M g5 c5 hx.2 w11.drew HC.out.2.2.2.1.symm (H11.out.2.2.2.2.1.below ((Below.refl w11.heap.size w11).drew)) (H11.out.2.2.2.1.below ((Below.refl w11.heap.size w11).drew))).mono ?_; rintro e wy ⟨rfl, rfl⟩; have hbX := (Below.refl w11.heap.size w11).drew)
              | (go_at_call 29; refine (addrSame w11.drew (.slice (some ⟨g9, 0, none⟩) M c9, .slice p9 Q d9) (.slice (some ⟨go, oo, none⟩) M co, .slice po Q do_) (hx.2, wayOf (ini ++ [hx])) (H11.out.1.below ((Below.refl w11.heap.size w11).drew)) (H11.out.2.1.below ((Below.refl w11.heap.size w11).drew)) hQ9).mono ?_; rintro e wz ⟨rfl, hBz⟩; have hbZ : Below w11.heap.size w11 wz := ((Below.refl w11.heap.size w11).drew).trans hBz; have hbX := hbZ)
              | (go_at_call 17; refine (equalSame g9 c9 M g5 c5 hx.2 wz HC.out.2.2.2.1.symm (H11.out.1.bs.below hbZ) (H11.out.2.2.2.1.below hbZ)).mono ?_; rintro e wy ⟨rfl, rfl⟩; have hbX := hbZ))
          all_goals
            go_wp2_with fail
            go_meet
            case rel => exact ⟨rfl, hbX⟩
        case rest =>
          obtain ⟨rfl, hI⟩ := hcut
          obtain ⟨W12, hW12⟩ : ∃ W, W = wc := ⟨_, rfl⟩
          rw [← hW12] at hI ⊢
          clear hW12 wc
          have hb12 := hI.out
          replace x1 := cB hb12 x1
          have H12 := Lib.hid (And.intro (H11.out.2.2.2.2.2.trans (hb12.mono H11.out.2.2.2.2.2.size)) (And.intro (H11.out.1.list.below hb12) (H11.out.2.2.1.below hb12)))
          clear hb12 hI x0 hc0 hc1
          by_cases hi : ini = []
          · have hT0 : T = 0 := by rw [HC.out.2.2.2.2.1, hi]; rfl
            have hQ0 : Q = 0 := by rw [HC.out.2.2.2.2.2.1, wayOf_snoc, if_pos hi]; rfl
            rw [hQ0] at x1
            rw [hT0]
            go_wp2_with (go_at_call 13; refine (HW.out _ H12.out.1).mono ?_; rintro e wd ⟨rfl, hbD⟩)
            go_ret
            exact ⟨rfl, hbD⟩
          · obtain ⟨gt, rfl, htb⟩ := H12.out.2.2 hi
            have hQ1 : Q = 1 := by rw [HC.out.2.2.2.2.2.1, wayOf_snoc, if_neg hi]; rfl
            obtain ⟨q, qb, qo, qc, rfl, hq0, hqb⟩ := H12.out.2.1 0 ini (by rw [wayOf_snoc, if_neg hi]; rfl)
            rw [← HC.out.2.2.2.2.1] at hq0
            rw [hQ1] at x1
            have hTp : 0 < T := by rw [HC.out.2.2.2.2.1]; exact addrB_pos ini (fun x hx => HR.out.2.1 x (by simp [hx])) hi
            have hT1 : ((T : Int) == 0) = false := by rw [beq_eq_false_iff_ne]; omega
            have hTn : ¬ T = 0 := by omega
            have HQ := Lib.hid (And.intro htb hqb)
            clear htb hqb
            go_wp2_with (first | (go_at_call 17; refine (eqSame qb qo qc gt 0 ct T (addrB ini) _ HC.out.2.2.2.2.1.symm HQ.out.2 HQ.out.1).mono ?_; rintro e wy ⟨rfl, rfl⟩) | (go_at_call 13; refine (HW.out _ H12.out.1).mono ?_; rintro e wd ⟨rfl, hbD⟩))
            go_ret
            exact ⟨rfl, hbD⟩
      · have hsp := fun g c wx (h1 : Below w.heap.size w wx) h2 => implSplitN ini hx HR.out.2.1 h6 HR.out.2.2.2.1 g 0 N c wx HR.out.2.2.2.2.1.symm h2 (HB.out.2.2.1.below h1)
        have hpe := fun g c wx (h1 : Below w.heap.size w wx) h2 => implPeerN ini hx HR.out.2.1 h6 HR.out.2.2.2.1 g 0 N c wx HR.out.2.2.2.2.1.symm h2 (HB.out.2.2.1.below h1) (HB.out.2.2.2.2.below h1)
        have hio := fun g c wx (h1 : Below w.heap.size w wx) h2 => implInfoN ini hx HR.out.2.1 h6 HR.out.2.2.2.1 g 0 N c wx HR.out.2.2.2.2.1.symm h2 (HB.out.2.2.1.below h1) (HB.out.2.2.2.2.below h1)
        have HC := Lib.hid (And.intro hsp (And.intro hpe (And.intro hio h6)))
        clear hsp hpe hio h6
        go_wp2_with fail
        refine (HR.out.2.2.2.2.2 _ (Below.refl _ _)).mono ?_
        rintro e w4 ⟨g4, c4, rfl, hb4, hB4⟩
        have H4 := Lib.hid (And.intro hb4 (And.intro (HR.out.1.trans (hB4.mono HR.out.1.size)) hB4))
        clear hb4 hB4
        go_wp2_with fail
        refine (HC.out.1 g4 c4 w4 H4.out.2.1 H4.out.1).mono ?_
        rintro e w5 ⟨g1, c1, g5, c5, rfl, _, hB5⟩
        have H5 := Lib.hid (And.intro (H4.out.2.1.trans (hB5.mono H4.out.2.1.size)) (H4.out.2.2.trans (hB5.mono H4.out.2.2.size)))
        clear hB5
        go_wp2_with fail
        refine (HR.out.2.2.2.2.2 _ H5.out.2).mono ?_
        rintro e w6 ⟨g6, c6, rfl, hb6, hB6⟩
        have H6 := Lib.hid (And.intro hb6 (And.intro (H5.out.1.trans (hB6.mono H5.out.1.size)) (H5.out.2.trans (hB6.mono H5.out.2.size))))
        clear hb6 hB6
        go_wp2_with fail
        refine (HC.out.2.1 g6 c6 w6 H6.out.2.1 H6.out.1).mono ?_
        rintro e w7 ⟨rfl, hB7⟩
        have H7 := Lib.hid (And.intro (H6.out.2.1.trans (hB7.mono H6.out.2.1.size)) (H6.out.2.2.trans (hB7.mono H6.out.2.2.size)))
        clear hB7
        go_wp2_with fail
        refine (HR.out.2.2.2.2.2 _ H7.out.2).mono ?_
        rintro e w8 ⟨g8, c8, rfl, hb8, hB8⟩
        have H8 := Lib.hid (And.intro hb8 (And.intro (H7.out.1.trans (hB8.mono H7.out.1.size)) (H7.out.2.trans (hB8.mono H7.out.2.size))))
        clear hb8 hB8
        go_wp2_with fail
        refine (HC.out.2.2.1 g8 c8 w8 H8.out.2.1 H8.out.1).mono ?_
        rintro e w9 ⟨rfl, hB9⟩
        have H9 := Lib.hid (And.intro (H8.out.2.1.trans (hB9.mono H8.out.2.1.size)) (H8.out.2.2.trans (hB9.mono H8.out.2.2.size)))
        clear hB9
        go_wp2_with fail
        obtain ⟨X, hX⟩ : ∃ X, X = w9.heap.size := ⟨_, rfl⟩
        obtain ⟨W10, hW10⟩ : ∃ W, W = (w9.alloc (.cells #[.slice none 0 0, .slice none 0 0] 32)).alloc (.cells #[.slice (some ⟨gb, 0, none⟩) N cb] 23) := ⟨_, rfl⟩
        have hb10 : Below w9.heap.size w9 W10 := by rw [hW10]; exact ((Below.refl _ _).alloc (Nat.le_refl _) _).alloc (by simp) _
        have xl : W10.cell? ⟨w9.heap.size + 1, 0, none⟩ = some (.slice (some ⟨gb, 0, none⟩) N cb) := by
          rw [hW10]
          have h := World.cell?_alloc_mark (w9.alloc (.cells #[.slice none 0 0, .slice none 0 0] 32)) #[.slice (some ⟨gb, 0, none⟩) N cb] 23 (0, 0) 0
          rw [show (w9.alloc (.cells #[.slice none 0 0, .slice none 0 0] 32)).heap.size = w9.heap.size + 1 by simp] at h
          exact h
        rw [← hW10, ← hX]
        rw [← hX] at xl
        have hw10 := H9.out.1.trans (hb10.mono H9.out.1.size)
        have h310 := H9.out.2.trans (hb10.mono H9.out.2.size)
        have hli : ListIn W10 (some ⟨X + 1, 0, none⟩) [ini ++ [hx]] := fun i hs hi => by
          match i, hi with
          | 0, hi =>
            obtain rfl : ini ++ [hx] = hs := by simpa using hi
            exact ⟨X + 1, gb, 0, cb, rfl, by rw [← HR.out.2.2.2.2.1]; exact xl, HR.out.2.2.1.below h310⟩
        have HL := Lib.hid (And.intro (HIN.out _ 1 W10 hw10 hli) hw10)
        clear hli hb10 hw10 h310 xl hX hW10
        refine HL.out.1.mono ?_
        rintro e w11 ⟨hB11, ⟨h6', _⟩ | ⟨_, rfl⟩⟩
        · exact absurd ((ends6_snoc ini hx).1 (h6' _ (by simp))) HC.out.2.2.2
        have H11 := Lib.hid (HL.out.2.trans (hB11.mono HL.out.2.size))
        clear hB11
        go_wp2_with (go_at_call 13; refine (HW.out _ H11.out).mono ?_; rintro e wd ⟨rfl, hbD⟩)
        go_ret
        exact ⟨rfl, hbD⟩
end Go.Proofs.YtapkmoakbfpkeaaGreatDoor
