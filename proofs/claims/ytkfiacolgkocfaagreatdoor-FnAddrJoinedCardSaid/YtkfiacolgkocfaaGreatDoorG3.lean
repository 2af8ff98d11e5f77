/- impl.AddrPeer. -/
import Derived.Test.YtkfiacolgkocfaaGreatDoorG2
namespace Go.Proofs.YtkfiacolgkocfaaGreatDoor
open Go Go.RowKit Go.Proofs Go.Sort
set_option maxRecDepth 100000 in
theorem implPeer6 (init : List Hop) (h : Hop) (hh : ∀ x ∈ init ++ [h], HopOk x) (h6 : h.1 = 6) (hl : (init ++ [h]).length ≤ 1000) (b o N c : Nat) (w : World) (hN : (addrB (init ++ [h])).length = N) (hb : Bs w b o (addrB (init ++ [h]))) (hT : Tab w) :
    Calls Tryz.prog 14 #[.slice (some ⟨b, o, none⟩) N c] w fun e w' => ∃ g2 c2, e = .returned (.tuple #[.slice (some ⟨g2, 0, none⟩) h.2.length c2, .bool true]) ∧ Bs w' g2 0 h.2 ∧ Below w.heap.size w w' := by
  have hao := addrOf (init ++ [h]) hh hl [] (.inl (by simp)) (.inl rfl) b o N c w (by rw [List.append_nil]; exact hN) (by rw [List.append_nil]; exact hb) hT
  have HA := Lib.hid (And.intro hao hh)
  clear hao hb hT hN hh
  go_enter Tryz.func14, Tryz.ntmps14
  go_wp2_with fail
  refine HA.out.1.mono ?_
  rintro e w1 ⟨hB, ⟨_, v, rfl, hM⟩ | ⟨hne, _⟩⟩
  rotate_left
  · exact absurd rfl hne
  obtain ⟨g, cap, rfl, hcap⟩ := ma_form hM (by simp)
  have hk : HopOk h := HA.out.2 h (by simp)
  have hsa := idFrom6 w.heap.size g _ cap w1 hl init h rfl hM hk h6
  have HS := Lib.hid (And.intro hsa (And.intro hB hk))
  clear hsa hM hB hk
  obtain ⟨M, hM⟩ : ∃ M, M = (init ++ [h]).length := ⟨_, rfl⟩
  rw [← hM] at HS ⊢
  clear hM hcap hl
  go_wp2_with fail
  refine HS.out.1.mono ?_
  rintro e w2 ⟨rfl, hB2⟩
  obtain ⟨cF, WF, hcv, hW⟩ := convIDF h.2 HS.out.2.2.2.2 (by have := hop_len h.1 h.2; have := hopB_le h HS.out.2.2; omega)
  have HW := Lib.hid (And.intro hW (HS.out.2.1.trans (hB2.mono HS.out.2.1.size)))
  clear hB2 hW
  go_wp2_with fail
  go_ret2
  have hb := (HW.out.1 w2).2.2.2
  exact ⟨w2.heap.size, cF w2, rfl, (HW.out.1 w2).1, HW.out.2.trans (hb.mono HW.out.2.size)⟩
set_option maxRecDepth 100000 in
theorem implPeerN (init : List Hop) (h : Hop) (hh : ∀ x ∈ init ++ [h], HopOk x) (h6 : h.1 ≠ 6) (hl : (init ++ [h]).length ≤ 1000) (b o N c : Nat) (w : World) (hN : (addrB (init ++ [h])).length = N) (hb : Bs w b o (addrB (init ++ [h]))) (hT : Tab w) (hE : ErrV w) :
    Calls Tryz.prog 14 #[.slice (some ⟨b, o, none⟩) N c] w fun e w' => e = .returned (.tuple #[.slice none 0 0, .bool false]) ∧ Below w.heap.size w w' := by
  have hao := addrOf (init ++ [h]) hh hl [] (.inl (by simp)) (.inl rfl) b o N c w (by rw [List.append_nil]; exact hN) (by rw [List.append_nil]; exact hb) hT
  have HA := Lib.hid (And.intro hao (And.intro hh hE))
  clear hao hb hT hN hh hE
  go_enter Tryz.func14, Tryz.ntmps14
  go_wp2_with fail
  refine HA.out.1.mono ?_
  rintro e w1 ⟨hB, ⟨_, v, rfl, hM⟩ | ⟨hne, _⟩⟩
  rotate_left
  · exact absurd rfl hne
  obtain ⟨g, cap, rfl, hcap⟩ := ma_form hM (by simp)
  have hk : HopOk h := HA.out.2.1 h (by simp)
  have hsa := idFromN w.heap.size g _ cap w1 hl init h rfl hM hk.1 h6 (HA.out.2.2.below hB)
  have HS := Lib.hid (And.intro hsa hB)
  clear hsa hM hB hk
  obtain ⟨M, hM⟩ : ∃ M, M = (init ++ [h]).length := ⟨_, rfl⟩
  rw [← hM] at HS ⊢
  clear hM hcap hl
  go_wp2_with fail
  refine HS.out.1.mono ?_
  rintro e w2 ⟨⟨T, a, rfl⟩, hB2⟩
  have HW := Lib.hid (HS.out.2.trans (hB2.mono HS.out.2.size))
  clear hB2
  go_wp2_with fail
  go_ret2
  exact ⟨rfl, HW.out⟩
end Go.Proofs.YtkfiacolgkocfaaGreatDoor
