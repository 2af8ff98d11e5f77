/- The row FnAddrSeveral, proved. -/
import Derived.Test.YtapkmoakbfpkeaaGreatDoorZH
import Derived.Test.YtapkmoakbfpkeaaGreatDoorO2
import Derived.Test.YtapkmoakbfpkeaaGreatDoorF2E
import Derived.Test.YtapkmoakbfpkeaaGreatDoorS5
import Derived.Test.YtapkmoakbfpkeaaGreatDoorYC
import Derived.ProofKit
namespace Go.Proofs.YtapkmoakbfpkeaaGreatDoor
open Go Go.RowKit Go.Proofs Go.Sort Go.ChangeShapes Go.WideShapes
theorem errAddrSeveral {W : World} (h : laidMetH Tryz.prog Rows.fnAddrSeveralRow.laid W) : ErrV W := by
  rw [MakeChecks.laidMetH_plain _ _ _ (by kernel_rfl)] at h
  exact errV_of (r := []) h.tail.tail.tail.tail.tail.tail.tail.tail.tail.tail.tail.tail.tail.tail.tail.tail.tail.tail.tail.tail.tail

set_option maxRecDepth 100000 in
theorem several_lifted (os : Os) (started : os.Started) (H : Type) (enc : TypeId × Value → H) :
    ReturnsInHanded {} Tryz.checked os 9 .any (fun w args => (Rows.fnAddrSeveralSpec.pre enc Tryz.prog Tryz.f9 [] false w args ∧ laidMetH Tryz.prog Rows.fnAddrSeveralRow.laid w) ∧ sizedMet enc Tryz.prog Tryz.f9 (OpenSpec.ofChange Rows.fnAddrSeveralSpec) false w args)
      (Rows.fnAddrSeveralSpec.post enc Tryz.prog Tryz.f9 false true false false) := by
  refine returnsInHanded_of_change_and (C := Tryz.checked) (X := fun w _ => laidMetH Tryz.prog Rows.fnAddrSeveralRow.laid w) (fun _ _ _ hh h => h.of_heap hh) ownKnob_none started (by kernel_rfl) Tryz.func9
    (ChangeSpec.witness_shaped (enc := enc) (C := Tryz.checked) (os := os) (X := fun w _ => laidMetH Tryz.prog Rows.fnAddrSeveralRow.laid w) false (laidWorld os) #[.slice none 0 0, .slice none 0 0] 8 rfl (World.shaped_of_RefB (by kernel_rfl) (by kernel_rfl)) (by kernel_rfl) (by kernel_rfl) (by kernel_rfl) (metAddrSeveral os _)) ?_
  intro W base args ds gs before hval0 hW _ _ hL _
  have hval : ∀ (j : Nat) t v, Tryz.f9.params[j]? = some t → args[j]? = some v → Value.okWide Tryz.prog W .any base t v := hval0
  have hW' := hW
  obtain ⟨p, q, hA0, hV, rfl, hfz, hnd⟩ := hW
  have hA : DataW.TrodAll enc Tryz.prog W 0 (fun _ => true) true Tryz.f9.params.toList args.toList ds p := hA0
  rw [Tryz.params9] at hA hval
  obtain ⟨v0, v1, d0, d1, p0, p1, rfl, rfl, rfl, h0, h1⟩ := trodAll_two hA
  obtain ⟨rfl, rfl⟩ := trodVars_none hV
  obtain ⟨a0, k0, c0, ls0, rfl, hlk0, hkc0, hcm0, hLIn0⟩ := open_hopss (hval 0 _ _ rfl rfl) h0
  obtain ⟨a1, k1, c1, zs1, rfl, hzk1, hzm1, hBs1⟩ := open_bss (hval 1 _ _ rfl rfl) h1
  have hT := tabAddrSeveral hL
  have hE := errAddrSeveral hL
  clear hA0 hval0
  simp only [List.append_nil] at hW'
  have hlt0 : ∀ z ∈ p0, z.block < W.heap.size := fun z hz => hW'.lt z (by simp [hz])
  have hlt1 : ∀ z ∈ p1, z.block < W.heap.size := fun z hz => hW'.lt z (by simp [hz])
  refine (lawSeveral shaF shaIs a0 c0 k0 ls0 hlk0 hkc0 hcm0 a1 c1 k1 zs1 hzk1 hzm1 W hLIn0 hBs1 hT hE).mono fun e W' ⟨he, hB⟩ => ?_
  subst he
  refine ⟨_, rfl, _, _, _, [], p0 ++ p1, [], hW', ?_, ?_, rfl, hB.frame _, fun h => by cases h⟩
  · exact trodAll_mk1 (shut_bool Tryz.underlying4 true)
  · exact trodAll_mk2 (Below.trod laidOut (by kernel_rfl) (of_decide_eq_true (by kernel_rfl)) h0 hB hlt0) (Below.trod laidOut (by kernel_rfl) (of_decide_eq_true (by kernel_rfl)) h1 hB hlt1)
theorem fnAddrSeveral_holds : Rows.FnAddrSeveralSaid :=
  OpenClaim.holds_of_wide 9 Tryz.f9 rfl rfl rfl rfl rfl rfl rfl ⟨rfl, rfl, rfl, rfl, rfl⟩ rfl rfl rfl rfl rfl (by as_aux_lemma => kernel_rfl) Tryz.func9 several_closed
    (of_decide_eq_true (by as_aux_lemma => kernel_rfl)) (by unfold Func.isWrapper; first | (rw [if_pos (by decide +kernel)]; kernel_rfl) | (rw [if_neg (by decide +kernel)]; exact ⟨rfl, rfl⟩))
    (fun os started H enc _ => several_lifted os started H enc)
end Go.Proofs.YtapkmoakbfpkeaaGreatDoor
