/- readComponent at a part's bytes. -/
import Derived.Test.YtapkmoakbfpkeaaGreatDoorC3
namespace Go.Proofs.YtapkmoakbfpkeaaGreatDoor
open Go Go.RowKit Go.Proofs Go.Sort

theorem Bs.left {w : World} {b o : Nat} {xs ys : List Int} (h : Bs w b o (xs ++ ys)) : Bs w b o xs := fun i hi => by
  have := h i (by rw [List.length_append]; omega)
  rw [this]; simp [List.getD, List.getElem?_append_left hi]
theorem Bs.right {w : World} {b o : Nat} {xs ys : List Int} (h : Bs w b o (xs ++ ys)) : Bs w b (o + xs.length) ys := fun i hi => by
  have := h (xs.length + i) (by rw [List.length_append]; omega)
  rw [Nat.add_assoc, this]; simp [List.getD, List.getElem?_append_right]
theorem readCode (k : Nat) (hk : k < 8) (b o N c : Nat) (rest : List Int) (w : World) (hN : (protOf k).vc.length ≤ N) (hM : N ≤ 140737488355328) (hb : Bs w b o ((protOf k).vc ++ rest)) :
    Calls Tryz.prog 150 #[.slice (some ⟨b, o, none⟩) N c] w fun e w' => e = .returned (.tuple #[.int .i64 (protOf k).code, .int .i64 (protOf k).vc.length, .nilIface]) ∧ w = w' := by
  have one : ∀ x, (protOf k).vc = [x] → 0 ≤ x → x < 128 → (protOf k).code = x → Calls Tryz.prog 150 #[.slice (some ⟨b, o, none⟩) N c] w fun e w' => e = .returned (.tuple #[.int .i64 (protOf k).code, .int .i64 (protOf k).vc.length, .nilIface]) ∧ w = w' := fun x e h0 h1 e2 => by
    rw [e] at hN hb ⊢
    rw [e2]
    exact (readVarintCode_1 b o N c x w hN hM h0 h1 (by have := hb 0 (by simp); simpa using this)).mono fun e w' ⟨h, h'⟩ => ⟨h, h'.symm⟩
  have two : ∀ x y, (protOf k).vc = [x, y] → 128 ≤ x → x < 256 → 1 ≤ y → y < 128 → (protOf k).code = x - 128 + y * 128 → Calls Tryz.prog 150 #[.slice (some ⟨b, o, none⟩) N c] w fun e w' => e = .returned (.tuple #[.int .i64 (protOf k).code, .int .i64 (protOf k).vc.length, .nilIface]) ∧ w = w' := fun x y e h0 h1 h2 h3 e2 => by
    rw [e] at hN hb ⊢
    rw [e2]
    exact (readVarintCode_2 b o N c x y w hN hM h0 h1 h2 h3 (by have := hb 0 (by simp); simpa using this) (by have := hb 1 (by simp); simpa using this)).mono fun e w' ⟨h, h'⟩ => ⟨h, h'.symm⟩
  rcases kinds k hk with rfl | rfl | rfl | rfl | rfl | rfl | rfl | rfl
  · exact one 4 rfl (by decide) (by decide) rfl
  · exact one 6 rfl (by decide) (by decide) rfl
  · exact two 145 2 rfl (by decide) (by decide) (by decide) (by decide) rfl
  · exact two 205 3 rfl (by decide) (by decide) (by decide) (by decide) rfl
  · exact two 221 3 rfl (by decide) (by decide) (by decide) (by decide) rfl
  · exact two 162 2 rfl (by decide) (by decide) (by decide) (by decide) rfl
  · exact two 165 3 rfl (by decide) (by decide) (by decide) (by decide) rfl
  · exact one 41 rfl (by decide) (by decide) rfl
/-- A component comes back, and the number of bytes that were read. -/
def RC (p : Prot) (xs : List Int) (st : Nat) (w : World) (e : Ending) (w' : World) : Prop :=
  ∃ r q a, e = .returned (.tuple #[.int .i64 xs.length, .pointer (some ⟨r, 0, none⟩), .nilIface]) ∧ CompAt w' r q a p xs st ∧ w.heap.size ≤ r ∧ w.heap.size ≤ q ∧ w.heap.size ≤ a ∧ Below w.heap.size w w'
theorem validHop (k : Nat) (hk : k < 8) (vs : List Int) (hv : ValOk k vs) (hu : U8 vs) (r q a : Nat) (w : World) (h : CompAt w r q a (protOf k) (hopB k vs) (hopS k)) (hT : Tab w) :
    Calls Tryz.prog 146 #[.pointer (some ⟨r, 0, none⟩)] w (NoErr w) := by
  by_cases h6 : k = 6
  · exact validVar k hk h6 vs hv hu r q a w h hT
  · exact validFix k hk h6 vs hv hu r q a w h hT
theorem convStr (b o n c : Nat) (xs : List Int) (w : World) (hx : xs.length = n) (hb : Bs w b o xs) : (convert 23 9 (.slice (some ⟨b, o, none⟩) n c)).run Tryz.prog w = .ok (.string (strOfNums xs)) w :=
  run_convert_bytes_arg (P := Tryz.prog) (w := w) 23 5 Tryz.underlying23 Tryz.underlying5 b o n c xs hx (fun i hi => hb i (by omega)) 9 Tryz.underlying9

set_option maxHeartbeats 1600000 in
set_option maxRecDepth 100000 in
theorem readComp0 (k : Nat) (hk : k < 8) (hs0 : (protOf k).size = 0) (vs : List Int) (hv : ValOk k vs) (hu : U8 vs) (rest : List Int) (b o N c : Nat) (w : World) (hN : N = (hopB k vs).length + rest.length) (hNc : N ≤ c) (hM : N ≤ 140737488355328) (_hcm : c ≤ 9223372036854775807) (hb : Bs w b o (hopB k vs ++ rest)) (hT : Tab w) :
    Calls Tryz.prog 136 #[.slice (some ⟨b, o, none⟩) N c] w (RC (protOf k) (hopB k vs) (hopS k) w) := by
  have hvs : vs = [] := by
    rcases kinds k hk with rfl | rfl | rfl | rfl | rfl | rfl | rfl | rfl
    · cases hs0
    · cases hs0
    · cases hs0
    · exact List.eq_nil_of_length_eq_zero hv
    · exact List.eq_nil_of_length_eq_zero hv
    · exact List.eq_nil_of_length_eq_zero hv
    · cases hs0
    · cases hs0
  have h6 : ¬ k = 6 := by rintro rfl; cases hs0
  have hhb : hopB k vs = (protOf k).vc := by unfold hopB; rw [if_neg h6, hvs]; simp
  have hhs : hopS k = (protOf k).vc.length := by unfold hopS; rw [if_neg h6]; rfl
  have hrc := readCode k hk b o N c rest w (by rw [hhb] at hN; omega) hM (by rw [hhb] at hb; exact hb)
  have hpw := pwc k hk
  have hptr := ptr k hk
  have hvh := validHop k hk vs hv hu
  rw [hhb, hhs] at hvh
  have hbs : Bs w b o (protOf k).vc := by rw [hhb] at hb; exact hb.left
  have htr : (protOf k).tr = .nilIface := by
    rcases kinds k hk with rfl | rfl | rfl | rfl | rfl | rfl | rfl | rfl <;> first | rfl | cases hs0
  have hcode : ((protOf k).code == 0) = false := by rcases kinds k hk with rfl | rfl | rfl | rfl | rfl | rfl | rfl | rfl <;> rfl
  have hNl : (protOf k).vc.length ≤ N := by rw [hhb] at hN; omega
  have hl2 : (protOf k).vc.length ≤ 2 := by rcases kinds k hk with rfl | rfl | rfl | rfl | rfl | rfl | rfl | rfl <;> decide
  rw [hhb, hhs]
  obtain ⟨p, hp⟩ : ∃ p, p = protOf k := ⟨_, rfl⟩
  rw [← hp] at hrc hpw hptr hvh hbs hcode hs0 hNl hl2 htr ⊢
  have HTR := Lib.hid htr
  clear htr
  obtain ⟨m, hm⟩ : ∃ m, m = p.vc.length := ⟨_, rfl⟩
  rw [← hm] at hrc hNl hl2
  have HR := Lib.hid (And.intro hrc (And.intro hpw (And.intro hptr (And.intro hvh hbs))))
  have HM := Lib.hid hm
  have g1 : (m : Int) ≤ (N : Int) := by omega
  have g2 : (0 : Int) ≤ (m : Int) := by omega
  clear hrc hpw hptr hvh hbs hhb hhs hvs hp hm hN hb
  go_enter Tryz.func136, Tryz.ntmps136
  go_wp2_with fail
  refine HR.out.1.mono ?_
  rintro e w' ⟨rfl, rfl⟩
  go_wp2_with fail
  refine (HR.out.2.1 _).mono ?_
  rintro e w1 ⟨a1, rfl, hv1, ha1, hb1⟩
  unfold Prot.cells
  rw [HTR.out]
  have HB1 := Lib.hid hb1
  clear hv1 ha1 hb1
  go_wp2_with fail
  refine (HR.out.2.2.1 _).mono ?_
  rintro e w2 ⟨q, a, rfl, hq, hv2, ha2, hq2, hb2⟩
  have hB2 : Below w.heap.size w w2 := HB1.out.trans ((((Below.refl w1.heap.size w1).alloc (Nat.le_refl _) _).trans (hb2.mono (by simp))).mono HB1.out.size)
  have csz : w2.cell? ⟨w1.heap.size, 3, none⟩ = some (.int .i64 0) := (hb2.cell (p := ⟨w1.heap.size, 3, none⟩) (by simp)).trans (by go_simp)
  have hs1 := HB1.out.size
  simp only [World.size_alloc] at ha2 hq2
  have hcv := convStr b o m c p.vc w2 HM.out.symm (HR.out.2.2.2.2.below hB2)
  have HQ := Lib.hid (And.intro hq (And.intro hv2 (And.intro (show w.heap.size ≤ a by omega) (And.intro (show w.heap.size ≤ q by omega) hB2))))
  clear hq hv2 ha2 hq2 hb2 hB2 hs1
  go_wp2_with fail
  have hS2 := HQ.out.2.2.2.2.size
  refine (HR.out.2.2.2.1 w2.heap.size q a _ ⟨by rw [HM.out]; exact heap_alloc_new _ _, (Below.heap_alloc _ _ _ (Array.getElem?_eq_some_iff.1 HQ.out.1).1).trans HQ.out.1, HQ.out.2.1.alloc _⟩ ((hT.below HQ.out.2.2.2.2).alloc _)).mono ?_
  rintro e w3 ⟨rfl, hb3⟩
  have HB3 := Lib.hid hb3
  clear hb3
  go_wp2_with fail
  go_ret3
  refine ⟨w2.heap.size, q, a, ret3 (int_eq (by rw [HM.out])) rfl rfl, CompAt.below ⟨by rw [HM.out]; exact heap_alloc_new _ _, (Below.heap_alloc _ _ _ (Array.getElem?_eq_some_iff.1 HQ.out.1).1).trans HQ.out.1, HQ.out.2.1.alloc _⟩ HB3.out, hS2, HQ.out.2.2.2.1, HQ.out.2.2.1, ?_⟩
  exact HQ.out.2.2.2.2.trans ((((Below.refl w2.heap.size w2).alloc (Nat.le_refl _) _).trans (HB3.out.mono (by simp))).mono hS2)

set_option maxHeartbeats 1600000 in
set_option maxRecDepth 100000 in
theorem readComp1 (k : Nat) (hk : k < 8) (hs0 : 0 < (protOf k).size) (vs : List Int) (hv : ValOk k vs) (hu : U8 vs) (rest : List Int) (b o N c : Nat) (w : World) (hN : N = (hopB k vs).length + rest.length) (hNc : N ≤ c) (hM : N ≤ 140737488355328) (_hcm : c ≤ 9223372036854775807) (hb : Bs w b o (hopB k vs ++ rest)) (hT : Tab w) :
    Calls Tryz.prog 136 #[.slice (some ⟨b, o, none⟩) N c] w (RC (protOf k) (hopB k vs) (hopS k) w) := by
  have hsk : (protOf k).size = 8 * (vs.length : Int) ∧ 0 < vs.length := by
    rcases kinds k hk with rfl | rfl | rfl | rfl | rfl | rfl | rfl | rfl
    · rw [show vs.length = 4 from hv]; exact ⟨rfl, by decide⟩
    · rw [show vs.length = 2 from hv]; exact ⟨rfl, by decide⟩
    · rw [show vs.length = 2 from hv]; exact ⟨rfl, by decide⟩
    · exact absurd hs0 (by decide)
    · exact absurd hs0 (by decide)
    · exact absurd hs0 (by decide)
    · exact absurd hs0 (by decide)
    · rw [show vs.length = 16 from hv]; exact ⟨rfl, by decide⟩
  have h6 : ¬ k = 6 := by rintro rfl; exact absurd hs0 (by decide)
  have hhb : hopB k vs = (protOf k).vc ++ vs := by unfold hopB; rw [if_neg h6, List.append_nil]
  have hhs : hopS k = (protOf k).vc.length := by unfold hopS; rw [if_neg h6]; rfl
  have hrc := readCode k hk b o N c (vs ++ rest) w (by rw [hhb, List.length_append] at hN; omega) hM (by rw [hhb, List.append_assoc] at hb; exact hb)
  have hpw := pwc k hk
  have hptr := ptr k hk
  have hvh := validHop k hk vs hv hu
  rw [hhb, hhs] at hvh
  have hbs : Bs w b o ((protOf k).vc ++ vs) := by rw [hhb] at hb; exact hb.left
  obtain ⟨fs, htr⟩ : ∃ fs, (protOf k).tr = .iface 253 (.agg fs) := by
    rcases kinds k hk with rfl | rfl | rfl | rfl | rfl | rfl | rfl | rfl <;> first | exact ⟨_, rfl⟩ | exact absurd hs0 (by decide)
  have hcode : ((protOf k).code == 0) = false := by rcases kinds k hk with rfl | rfl | rfl | rfl | rfl | rfl | rfl | rfl <;> rfl
  have hNl : (protOf k).vc.length + vs.length ≤ N := by rw [hhb, List.length_append] at hN; omega
  have hvl := valLen k hk vs hv
  have hl2 : (protOf k).vc.length ≤ 2 := by rcases kinds k hk with rfl | rfl | rfl | rfl | rfl | rfl | rfl | rfl <;> decide
  rw [hhb, hhs]
  obtain ⟨p, hp⟩ : ∃ p, p = protOf k := ⟨_, rfl⟩
  rw [← hp] at hrc hpw hptr hvh hbs hcode hsk hNl hl2 htr ⊢
  have HTR := Lib.hid htr
  clear htr
  obtain ⟨m, hm⟩ : ∃ m, m = p.vc.length := ⟨_, rfl⟩
  rw [← hm] at hrc hNl hl2
  obtain ⟨sz, hsz⟩ : ∃ sz, sz = vs.length := ⟨_, rfl⟩
  rw [← hsz] at hsk hNl hvl
  obtain ⟨xs, hxs⟩ : ∃ xs, xs = p.vc ++ vs := ⟨_, rfl⟩
  rw [← hxs] at hvh hbs ⊢
  have hxl : xs.length = m + sz := by rw [hxs, List.length_append, hm, hsz]
  have HXL := Lib.hid hxl
  have hdiv : 8 * (sz : Int) / 8 = sz := by omega
  have hps := hsk.1
  have hsz0 := hsk.2
  have HPS := Lib.hid hps
  have hne : ((8 * (sz : Int)) == 0) = false := by rw [beq_eq_false_iff_ne]; omega
  have hnn : ¬ 8 * (sz : Int) < 0 := by omega
  have g3 : ¬ (N : Int) - m < sz := by omega
  have g4 : ¬ ((N - m : Nat) : Int) < sz := by omega
  have g5 : ¬ (sz : Int) ≤ 0 := by omega
  have HR := Lib.hid (And.intro hrc (And.intro hpw (And.intro hptr (And.intro hvh hbs))))
  have HM := Lib.hid hm
  have g1 : (m : Int) ≤ (N : Int) := by omega
  have g2 : (0 : Int) ≤ (m : Int) := by omega
  clear hrc hpw hptr hvh hbs hhb hhs hp hm hN hb hxl hsz hxs hps hsk hs0
  go_enter Tryz.func136, Tryz.ntmps136
  go_wp2_with fail
  refine HR.out.1.mono ?_
  rintro e w' ⟨rfl, rfl⟩
  go_wp2_with fail
  refine (HR.out.2.1 _).mono ?_
  rintro e w1 ⟨a1, rfl, hv1, ha1, hb1⟩
  unfold Prot.cells
  rw [HTR.out, HPS.out]
  have HB1 := Lib.hid hb1
  clear hv1 ha1 hb1
  go_wp2_with fail
  refine (HR.out.2.2.1 _).mono ?_
  rintro e w2 ⟨q, a, rfl, hq, hv2, ha2, hq2, hb2⟩
  have hB2 : Below w.heap.size w w2 := HB1.out.trans ((((Below.refl w1.heap.size w1).alloc (Nat.le_refl _) _).trans (hb2.mono (by simp))).mono HB1.out.size)
  have csz : w2.cell? ⟨w1.heap.size, 3, none⟩ = some (.int .i64 (8 * (sz : Int))) := (hb2.cell (p := ⟨w1.heap.size, 3, none⟩) (by simp)).trans (by go_simp)
  have hs1 := HB1.out.size
  simp only [World.size_alloc] at ha2 hq2
  have hcv := convStr b o (m + sz) c xs w2 HXL.out (HR.out.2.2.2.2.below hB2)
  have HQ := Lib.hid (And.intro hq (And.intro hv2 (And.intro (show w.heap.size ≤ a by omega) (And.intro (show w.heap.size ≤ q by omega) hB2))))
  clear hq hv2 ha2 hq2 hb2 hB2 hs1
  go_wp2_with fail
  have hS2 := HQ.out.2.2.2.2.size
  refine (HR.out.2.2.2.1 w2.heap.size q a _ ⟨by rw [HM.out]; exact heap_alloc_new _ _, (Below.heap_alloc _ _ _ (Array.getElem?_eq_some_iff.1 HQ.out.1).1).trans HQ.out.1, HQ.out.2.1.alloc _⟩ ((hT.below HQ.out.2.2.2.2).alloc _)).mono ?_
  rintro e w3 ⟨rfl, hb3⟩
  have HB3 := Lib.hid hb3
  clear hb3
  go_wp2_with fail
  go_ret3
  refine ⟨w2.heap.size, q, a, ret3 (int_eq (by rw [HXL.out]; omega)) rfl rfl, CompAt.below ⟨by rw [HM.out]; exact heap_alloc_new _ _, (Below.heap_alloc _ _ _ (Array.getElem?_eq_some_iff.1 HQ.out.1).1).trans HQ.out.1, HQ.out.2.1.alloc _⟩ HB3.out, hS2, HQ.out.2.2.2.1, HQ.out.2.2.1, ?_⟩
  exact HQ.out.2.2.2.2.trans ((((Below.refl w2.heap.size w2).alloc (Nat.le_refl _) _).trans (HB3.out.mono (by simp))).mono hS2)
end Go.Proofs.YtapkmoakbfpkeaaGreatDoor
