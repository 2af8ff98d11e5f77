/- readComponent at an ID's bytes, and at a code of none. -/
import Derived.Test.YtapkmoakbfpkeaaGreatDoorC4
namespace Go.Proofs.YtapkmoakbfpkeaaGreatDoor
open Go Go.RowKit Go.Proofs Go.Sort

set_option maxHeartbeats 1600000 in
set_option maxRecDepth 100000 in
theorem readComp2 (k : Nat) (hk : k < 8) (hs0 : k = 6) (vs : List Int) (hv : ValOk k vs) (hu : U8 vs) (rest : List Int) (b o N c : Nat) (w : World) (hN : N = (hopB k vs).length + rest.length) (hNc : N ≤ c) (hM : N ≤ 140737488355328) (_hcm : c ≤ 9223372036854775807) (hb : Bs w b o (hopB k vs ++ rest)) (hT : Tab w) :
    Calls Tryz.prog 136 #[.slice (some ⟨b, o, none⟩) N c] w (RC (protOf k) (hopB k vs) (hopS k) w) := by
  have hsk : (protOf k).size = -1 := by rw [hs0]; rfl
  have hv6 : 2 ≤ vs.length := by
    subst hs0
    obtain ⟨_, h1, h2, h3⟩ := hv
    omega
  have hhb : hopB k vs = (protOf k).vc ++ ((vs.length : Int) :: vs) := by unfold hopB; rw [if_pos hs0, List.append_assoc]; rfl
  have hhs : hopS k = (protOf k).vc.length + 1 := by unfold hopS; rw [if_pos hs0]
  have hrc := readCode k hk b o N c (((vs.length : Int) :: vs) ++ rest) w (by rw [hhb, List.length_append] at hN; omega) hM (by rw [hhb, List.append_assoc] at hb; exact hb)
  have hpw := pwc k hk
  have hptr := ptr k hk
  have hvh := validHop k hk vs hv hu
  rw [hhb, hhs] at hvh
  have hbs : Bs w b o ((protOf k).vc ++ ((vs.length : Int) :: vs)) := by rw [hhb] at hb; exact hb.left
  obtain ⟨fs, htr⟩ : ∃ fs, (protOf k).tr = .iface 253 (.agg fs) := by
    rcases kinds k hk with rfl | rfl | rfl | rfl | rfl | rfl | rfl | rfl <;> first | exact ⟨_, rfl⟩ | cases hs0
  have hcode : ((protOf k).code == 0) = false := by rcases kinds k hk with rfl | rfl | rfl | rfl | rfl | rfl | rfl | rfl <;> rfl
  have hNl : (protOf k).vc.length + 1 + vs.length ≤ N := by rw [hhb, List.length_append, List.length_cons] at hN; omega
  have hvl := valLen k hk vs hv
  have hl2 : (protOf k).vc.length ≤ 2 := by rcases kinds k hk with rfl | rfl | rfl | rfl | rfl | rfl | rfl | rfl <;> decide
  rw [hhb, hhs]
  obtain ⟨p, hp⟩ : ∃ p, p = protOf k := ⟨_, rfl⟩
  rw [← hp] at hrc hpw hptr hvh hbs hcode hsk hNl hl2 htr ⊢
  have HTR := Lib.hid htr
  clear htr
  obtain ⟨m, hm⟩ : ∃ m, m = p.vc.length := ⟨_, rfl⟩
  rw [← hm] at hrc hNl hl2
  obtain ⟨sz, hsz⟩ : ∃ sz, sz = vs.length := ⟨_, rfl⟩
  rw [← hsz] at hNl hvl hv6
  have hrb := hbs.right
  rw [← hm] at hrb
  have hrv : ∀ w', Below w.heap.size w w' → Calls Tryz.prog 150 #[.slice (some ⟨b, o + m, none⟩) (N - m) (c - m)] w' fun e w'' => e = .returned (.tuple #[.int .i64 (sz : Int), .int .i64 1, .nilIface]) ∧ w' = w'' := fun w' hw =>
    (readVarintCode_1 b (o + m) (N - m) (c - m) (sz : Int) w' (by omega) (by omega) (by omega) (by omega) (by have := (hrb.below hw) 0 (by simp); rw [hsz]; simpa using this)).mono fun _ _ ⟨h, h'⟩ => ⟨h, h'.symm⟩
  obtain ⟨xs, hxs⟩ : ∃ xs, xs = p.vc ++ ((vs.length : Int) :: vs) := ⟨_, rfl⟩
  rw [← hxs] at hvh hbs ⊢
  have hxl : xs.length = m + 1 + sz := by rw [hxs, List.length_append, List.length_cons, hm, hsz]; omega
  have HXL := Lib.hid hxl
  have HPS := Lib.hid hsk
  have HRV := Lib.hid hrv
  have hsz0 : 0 < sz := by omega
  have g3 : ¬ (N : Int) - (m + 1) < sz := by omega
  have g4 : ¬ ((N - (m + 1) : Nat) : Int) < sz := by omega
  have g5 : ¬ (sz : Int) ≤ 0 := by omega
  have g6 : (m : Int) + 1 ≤ (N : Int) := by omega
  have HR := Lib.hid (And.intro hrc (And.intro hpw (And.intro hptr (And.intro hvh hbs))))
  have HM := Lib.hid hm
  have g1 : (m : Int) ≤ (N : Int) := by omega
  have g2 : (0 : Int) ≤ (m : Int) := by omega
  clear hrc hpw hptr hvh hbs hhb hhs hp hm hN hb hxl hsz hxs hsk hs0 hrv hrb hv6
  go_enter Tryz.func136, Tryz.ntmps136
  go_wp2_with fail
  refine HR.out.1.mono ?_
  rintro e w' ⟨rfl, rfl⟩
  go_wp2_with fail
  refine (HR.out.2.1 _).mono ?_
  rintro e w1 ⟨a1, rfl, hv1, ha1, hb1⟩
  unfold Prot.cells
  rw [HTR.out, HPS.out]
  have HB1 := Lib.hid hb1
  clear hv1 ha1 hb1
  go_wp2_with fail
  refine (HR.out.2.2.1 _).mono ?_
  rintro e w2 ⟨q, a, rfl, hq, hv2, ha2, hq2, hb2⟩
  have hB2 : Below w.heap.size w w2 := HB1.out.trans ((((Below.refl w1.heap.size w1).alloc (Nat.le_refl _) _).trans (hb2.mono (by simp))).mono HB1.out.size)
  have csz : w2.cell? ⟨w1.heap.size, 3, none⟩ = some (.int .i64 (-1)) := (hb2.cell (p := ⟨w1.heap.size, 3, none⟩) (by simp)).trans (by go_simp)
  have hs1 := HB1.out.size
  simp only [World.size_alloc] at ha2 hq2
  have hcv := convStr b o (m + 1 + sz) c xs w2 HXL.out (HR.out.2.2.2.2.below hB2)
  have HQ := Lib.hid (And.intro hq (And.intro hv2 (And.intro (show w.heap.size ≤ a by omega) (And.intro (show w.heap.size ≤ q by omega) hB2))))
  clear hq hv2 ha2 hq2 hb2 hB2 hs1
  go_wp2_with fail
  refine (HRV.out _ HQ.out.2.2.2.2).mono ?_
  rintro e w' ⟨rfl, rfl⟩
  go_wp2_with fail
  have hS2 := HQ.out.2.2.2.2.size
  have hmm : (m : Int) + 1 = ((p.vc.length + 1 : Nat) : Int) := by have := HM.out; omega
  refine (HR.out.2.2.2.1 w2.heap.size q a _ ⟨by rw [hmm]; exact heap_alloc_new _ _, (Below.heap_alloc _ _ _ (Array.getElem?_eq_some_iff.1 HQ.out.1).1).trans HQ.out.1, HQ.out.2.1.alloc _⟩ ((hT.below HQ.out.2.2.2.2).alloc _)).mono ?_
  rintro e w3 ⟨rfl, hb3⟩
  have HB3 := Lib.hid hb3
  have HMM := Lib.hid hmm
  clear hb3 hmm
  go_wp2_with fail
  go_ret3
  refine ⟨w2.heap.size, q, a, ret3 (int_eq (by rw [HXL.out]; omega)) rfl rfl, CompAt.below ⟨by rw [HMM.out]; exact heap_alloc_new _ _, (Below.heap_alloc _ _ _ (Array.getElem?_eq_some_iff.1 HQ.out.1).1).trans HQ.out.1, HQ.out.2.1.alloc _⟩ HB3.out, hS2, HQ.out.2.2.2.1, HQ.out.2.2.1, ?_⟩
  exact HQ.out.2.2.2.2.trans ((((Below.refl w2.heap.size w2).alloc (Nat.le_refl _) _).trans (HB3.out.mono (by simp))).mono hS2)

/-- readComponent at a part's bytes. -/
theorem readComp (k : Nat) (hk : k < 8) (vs : List Int) (hv : ValOk k vs) (hu : U8 vs) (rest : List Int) (b o N c : Nat) (w : World) (hN : N = (hopB k vs).length + rest.length) (hNc : N ≤ c) (hM : N ≤ 140737488355328) (hcm : c ≤ 9223372036854775807) (hb : Bs w b o (hopB k vs ++ rest)) (hT : Tab w) :
    Calls Tryz.prog 136 #[.slice (some ⟨b, o, none⟩) N c] w (RC (protOf k) (hopB k vs) (hopS k) w) := by
  by_cases h6 : k = 6
  · exact readComp2 k hk h6 vs hv hu rest b o N c w hN hNc hM hcm hb hT
  · by_cases h0 : (protOf k).size = 0
    · exact readComp0 k hk h0 vs hv hu rest b o N c w hN hNc hM hcm hb hT
    · refine readComp1 k hk ?_ vs hv hu rest b o N c w hN hNc hM hcm hb hT
      rcases kinds k hk with rfl | rfl | rfl | rfl | rfl | rfl | rfl | rfl <;> first | decide | exact absurd rfl h0 | exact absurd rfl h6

/-- 'an error comes back'. -/
def SomeErr3 (w : World) (e : Ending) (w' : World) : Prop := ∃ T a, e = .returned (.tuple #[.int .i64 0, .pointer none, .iface T (.pointer (some a))]) ∧ Below w.heap.size w w'
/-- A code of none. -/
def NoCode (x : Int) : Prop := x = 1 ∨ x = 2 ∨ x = 3 ∨ x = 5 ∨ x = 7
theorem pwcNone (x : Int) (hx : NoCode x) (w : World) : Calls Tryz.prog 151 #[.int .i64 x] w fun e w' => e = .returned (.agg #[.string ⟨#[]⟩, .int .i64 0, .slice none 0 0, .int .i64 0, .bool false, .nilIface]) ∧ Below w.heap.size w w' := by
  rcases hx with rfl | rfl | rfl | rfl | rfl
  · exact pwc_1 w
  · exact pwc_2 w
  · exact pwc_3 w
  · exact pwc_5 w
  · exact pwc_7 w
set_option maxRecDepth 100000 in
theorem readCompNone (x : Int) (hx : NoCode x) (b o N c : Nat) (w : World) (h1 : 1 ≤ N) (hM : N ≤ 140737488355328) (hb : w.cell? ⟨b, o, none⟩ = some (.int .u8 x)) :
    Calls Tryz.prog 136 #[.slice (some ⟨b, o, none⟩) N c] w (SomeErr3 w) := by
  have hx0 : 0 ≤ x ∧ x < 128 := by rcases hx with rfl | rfl | rfl | rfl | rfl <;> omega
  have hr := readVarintCode_1 b o N c x w h1 hM hx0.1 hx0.2 hb
  have HR := Lib.hid (And.intro hr hx)
  clear hr hx hb
  go_enter Tryz.func136, Tryz.ntmps136
  go_wp2_with fail
  refine HR.out.1.mono ?_
  rintro e w' ⟨rfl, rfl⟩
  go_wp2_with fail
  refine (pwcNone x HR.out.2 _).mono ?_
  rintro e w1 ⟨rfl, hb1⟩
  have HB1 := Lib.hid hb1
  clear hb1
  go_wp2_with fail
  refine (errorsNew _ _).mono ?_
  rintro e w2 ⟨⟨a, rfl⟩, hb2⟩
  have HB2 := Lib.hid hb2
  clear hb2
  go_wp2_with fail
  go_ret3
  exact ⟨_, a, rfl, HB1.out.trans ((((Below.refl w1.heap.size w1).alloc (Nat.le_refl _) _).trans (HB2.out.mono (by simp))).mono HB1.out.size)⟩
end Go.Proofs.YtapkmoakbfpkeaaGreatDoor
