/- The law FnAddrPeer. -/
import Derived.Test.YtkfiacolgkocfaaGreatDoorG3
namespace Go.Proofs.YtkfiacolgkocfaaGreatDoor
open Go Go.RowKit Go.Proofs Go.Sort
theorem bNeqNil (a : Addr) (n c : Nat) (w : World) : (binOp .neq 26 (.slice (some a) n c) (.slice none 0 0)).run Tryz.prog w = .ok (.bool true) w := by
  have h := run_equal_slice_nil (P := Tryz.prog) w 26 _ (some a) n c Tryz.underlying26
  simp [binOp, h]
theorem bNilNil (w : World) : (binOp .neq 26 (.slice none 0 0) (.slice none 0 0)).run Tryz.prog w = .ok (.bool false) w := by
  have h := run_equal_slice_nil (P := Tryz.prog) w 26 _ none 0 0 Tryz.underlying26
  simp [binOp, h]
theorem hopOf_six {f : List Int → List Int} {h : HIn} (h6 : h.K % 8 = 6) : hopOf f h = (6, idB f h.s.xs) := by
  obtain ⟨K, s⟩ := h
  exact hopOf6 f K s h6
theorem hopOf_not6 {f : List Int → List Int} {h : HIn} (_h0 : 0 ≤ h.K) (h6 : h.K % 8 ≠ 6) : (hopOf f h).1 ≠ 6 := by
  unfold hopOf
  show (h.K % 8).toNat ≠ 6
  omega
set_option maxHeartbeats 800000 in
set_option maxRecDepth 100000 in
theorem lawPeer (f : List Int → List Int) (hf : ShaIs f) (p : Option Addr) (c k : Nat) (l : List HIn) (hk : l.length = k) (hkc : k ≤ c) (w : World) (hb : LIn w p l) (hT : Tab w) (hE : ErrV w) :
    Calls Tryz.prog 4 #[.slice p k c] w fun e w' => e = .returned (.bool true) ∧ Below w.heap.size w w' := by
  have HB := Lib.hid (And.intro hb (And.intro hf (And.intro hT (And.intro hk hE))))
  clear hb hf hT hk hE
  go_enter Tryz.func4, Tryz.ntmps4
  go_wp2_with fail
  refine (zzFits1 p c k l HB.out.2.2.2.1 w HB.out.1).mono ?_
  rintro e w1 ⟨r, rfl, hB1⟩
  have H1 := Lib.hid hB1
  clear hB1
  cases r with
  | false =>
    go_wp2_with fail
    go_ret
    exact ⟨rfl, H1.out⟩
  | true =>
    go_wp2_with fail
    refine (addrShort p c k l HB.out.2.2.2.1 w1.heap.size _ ((HB.out.1.below H1.out).below ((Below.refl _ _).alloc (Nat.le_refl _) _)) (World.cell?_alloc_mark w1 _ _ _ 0)).mono ?_
    rintro e w2 ⟨r, rfl, hB2, hr⟩
    have H2 := Lib.hid (And.intro ((H1.out.alloc H1.out.size _).trans (hB2.mono (by have := H1.out.size; simp; omega))) hr)
    clear hB2 hr
    cases r with
    | false =>
      go_wp2_with fail
      refine (addrAwake f HB.out.2.1 _ (HB.out.2.2.1.below H2.out.1)).mono ?_
      rintro e w3 ⟨rfl, hB3⟩
      go_wp2_with fail
      go_ret
      exact ⟨rfl, H2.out.1.trans (hB3.mono H2.out.1.size)⟩
    | true =>
      obtain ⟨hk0, hk20, hn⟩ := H2.out.2 rfl
      have HN := Lib.hid hn
      clear hn
      obtain ⟨b, o, rfl, hat⟩ := HB.out.1 (by rw [HB.out.2.2.2.1]; exact hk0)
      have hAt : HAt w b o l := fun i h hi => ⟨(hat i h hi).1, (hat i h hi).2.1, (hat i h hi).2.2.1, (hat i h hi).2.2.2.1, (hat i h hi).2.2.2.2, HN.out h (List.mem_of_getElem? hi)⟩
      obtain ⟨init, h, hl⟩ : ∃ init h, l = init ++ [h] := by
        rcases List.eq_nil_or_concat l with h0 | ⟨i, x, hx⟩
        · have := HB.out.2.2.2.1; rw [h0] at this; simp at this; omega
        · exact ⟨i, x, by rw [hx, List.concat_eq_append]⟩
      obtain ⟨n, rfl⟩ : ∃ n, k = n + 1 := ⟨k - 1, by omega⟩
      have hin : init.length = n := by have := HB.out.2.2.2.1; rw [hl] at this; simpa using this
      have HA := Lib.hid (And.intro hAt (And.intro hl hin))
      clear hat hAt hl hin
      go_wp2_with fail
      refine (addrOfB f HB.out.2.1 l (n + 1) HB.out.2.2.2.1 (by omega) b o c _ (HA.out.1.below H2.out.1)).mono ?_
      rintro e w3 ⟨v, rfl, hown, hB3⟩
      have hoks := HA.out.1.oks f HB.out.2.1
      have hll : (l.map (hopOf f)).length = n + 1 := by rw [List.length_map]; exact HB.out.2.2.2.1
      have hne : l.map (hopOf f) ≠ [] := fun e => by rw [e] at hll; simp at hll
      have hmap : l.map (hopOf f) = init.map (hopOf f) ++ [hopOf f h] := by rw [HA.out.2.1, List.map_append]; rfl
      obtain ⟨gb, cb, rfl, hbs⟩ := ownsRow_bs hown (addrB_pos _ hoks hne)
      have hw3 : Below w.heap.size w w3 := H2.out.1.trans (hB3.mono H2.out.1.size)
      have hat3 := HA.out.1.below hw3
      rw [hmap] at hoks hbs hll ⊢
      rw [HA.out.2.1] at hat3
      have HR := Lib.hid (And.intro hw3 (And.intro hoks (And.intro hbs (And.intro hll hat3))))
      clear hB3 hown hne hmap hbs hw3 hoks hll hat3
      obtain ⟨N, hN⟩ : ∃ N, N = (addrB (init.map (hopOf f) ++ [hopOf f h])).length := ⟨_, rfl⟩
      rw [← hN]
      have HNN := Lib.hid hN
      clear hN
      by_cases h6 : h.K % 8 = 6
      · have hid := idB_len f HB.out.2.1 h.s.xs
        have hh6 := hopOf_six (f := f) h6
        have hpe := implPeer6 (init.map (hopOf f)) (hopOf f h) HR.out.2.1 (by rw [hh6]) (by have := HR.out.2.2.2.1; omega) gb 0 N cb w3 HNN.out.symm HR.out.2.2.1 (HB.out.2.2.1.below HR.out.1)
        rw [hh6] at hpe
        obtain ⟨M, hM⟩ : ∃ M, M = (idB f h.s.xs).length := ⟨_, rfl⟩
        have hpe2 : Calls Tryz.prog 14 #[.slice (some ⟨gb, 0, none⟩) N cb] w3 fun e w' => ∃ g2 c2, e = .returned (.tuple #[.slice (some ⟨g2, 0, none⟩) M c2, .bool true]) ∧ Bs w' g2 0 (idB f h.s.xs) ∧ Below w3.heap.size w3 w' := by rw [hM]; exact hpe
        have HP := Lib.hid (And.intro hpe2 (And.intro hM h6))
        rw [← hM] at hid
        clear hpe hpe2 hM h6 hh6
        go_wp2_with fail
        refine HP.out.1.mono ?_
        rintro e w4 ⟨g2, c2, rfl, hbs2, hB4⟩
        have hw4 : Below w.heap.size w w4 := HR.out.1.trans (hB4.mono HR.out.1.size)
        obtain ⟨K, q, m, cs, xs⟩ := h
        have hsp := specSplit6 f HB.out.2.1 init K q m cs xs n HA.out.2.2 (by omega) HP.out.2.2 b o c hkc w4 (HR.out.2.2.2.2.below hB4)
        have H4 := Lib.hid (And.intro hw4 (And.intro hbs2 hsp))
        clear hw4 hbs2 hsp hB4
        go_wp2_with fail
        refine H4.out.2.2.mono ?_
        rintro e w5 ⟨v1, v2, rfl, _, hown2, hB5⟩
        have hM2 : M = (idB f xs).length := HP.out.2.1
        rw [← hM2] at hown2
        obtain ⟨g5, c5, rfl, hbs5⟩ := ownsRow_bs hown2 (by omega)
        have heq := equalSame g2 c2 M g5 c5 (idB f xs) w5 hM2.symm (H4.out.2.1.below hB5) hbs5
        have hw5 : Below w.heap.size w w5 := H4.out.1.trans (hB5.mono H4.out.1.size)
        have H5 := Lib.hid (And.intro hw5 heq)
        have hnn := fun w => bNeqNil ⟨g5, 0, none⟩ M c5 w
        clear hown2 hbs5 heq hw5 hB5 hM2 hid
        go_wp2_with fail
        refine H5.out.2.mono ?_
        rintro e w6 ⟨rfl, rfl⟩
        go_wp2_with fail
        refine (addrAwake f HB.out.2.1 _ (HB.out.2.2.1.below H5.out.1)).mono ?_
        rintro e w7 ⟨rfl, hB7⟩
        go_wp2_with fail
        go_ret
        exact ⟨rfl, H5.out.1.trans (hB7.mono H5.out.1.size)⟩
      · have hK0 : 0 ≤ h.K := (HR.out.2.2.2.2 n h (by rw [← HA.out.2.2]; simp)).2.2.1.1
        have hpe := implPeerN (init.map (hopOf f)) (hopOf f h) HR.out.2.1 (hopOf_not6 hK0 h6) (by have := HR.out.2.2.2.1; omega) gb 0 N cb w3 HNN.out.symm HR.out.2.2.1 (HB.out.2.2.1.below HR.out.1) (HB.out.2.2.2.2.below HR.out.1)
        have HP := Lib.hid (And.intro hpe h6)
        clear hpe h6 hK0
        go_wp2_with fail
        refine HP.out.1.mono ?_
        rintro e w4 ⟨rfl, hB4⟩
        have hw4 : Below w.heap.size w w4 := HR.out.1.trans (hB4.mono HR.out.1.size)
        obtain ⟨K, s⟩ := h
        have hsp := specSplitN f HB.out.2.1 init K s n HA.out.2.2 (by omega) HP.out.2 b o c w4 (HR.out.2.2.2.2.below hB4)
        have H4 := Lib.hid (And.intro hw4 hsp)
        clear hw4 hsp hB4
        go_wp2_with fail
        refine H4.out.2.mono ?_
        rintro e w5 ⟨v1, rfl, _, hB5⟩
        have H5 := Lib.hid (H4.out.1.trans (hB5.mono H4.out.1.size))
        have hnn := bNilNil
        clear hB5
        go_wp2_with fail
        refine (addrAwake f HB.out.2.1 _ (HB.out.2.2.1.below H5.out)).mono ?_
        rintro e w7 ⟨rfl, hB7⟩
        go_wp2_with fail
        go_ret
        exact ⟨rfl, H5.out.trans (hB7.mono H5.out.size)⟩
end Go.Proofs.YtkfiacolgkocfaaGreatDoor
