/- The row FnAddrInfos, proved. -/
import Derived.Test.YtapkmoakbfpkeaaGreatDoorR9
import Derived.Test.YtapkmoakbfpkeaaGreatDoorO1
import Derived.Test.YtapkmoakbfpkeaaGreatDoorF2E
import Derived.Test.YtapkmoakbfpkeaaGreatDoorS5
import Derived.Test.YtapkmoakbfpkeaaGreatDoorY9
import Derived.ProofKit
namespace Go.Proofs.YtapkmoakbfpkeaaGreatDoor
open Go Go.RowKit Go.Proofs Go.Sort Go.ChangeShapes Go.WideShapes
theorem errAddrInfos {W : World} (h : laidMetH Tryz.prog Rows.fnAddrInfosRow.laid W) : ErrV W := by
  rw [MakeChecks.laidMetH_plain _ _ _ (by kernel_rfl)] at h
  exact errV_of (r := []) h.tail.tail.tail.tail.tail.tail.tail.tail.tail.tail.tail.tail.tail.tail.tail.tail.tail.tail.tail.tail.tail

set_option maxRecDepth 100000 in
theorem infos_lifted (os : Os) (started : os.Started) (H : Type) (enc : TypeId × Value → H) :
    ReturnsInHanded {} Tryz.checked os 6 .any (fun w args => (Rows.fnAddrInfosSpec.pre enc Tryz.prog Tryz.f6 [] false w args ∧ laidMetH Tryz.prog Rows.fnAddrInfosRow.laid w) ∧ sizedMet enc Tryz.prog Tryz.f6 (OpenSpec.ofChange Rows.fnAddrInfosSpec) false w args)
      (Rows.fnAddrInfosSpec.post enc Tryz.prog Tryz.f6 false true false false) := by
  refine returnsInHanded_of_change_and (C := Tryz.checked) (X := fun w _ => laidMetH Tryz.prog Rows.fnAddrInfosRow.laid w) (fun _ _ _ hh h => h.of_heap hh) ownKnob_none started (by kernel_rfl) Tryz.func6
    (ChangeSpec.witness_shaped (enc := enc) (C := Tryz.checked) (os := os) (X := fun w _ => laidMetH Tryz.prog Rows.fnAddrInfosRow.laid w) false (laidWorld os) #[.slice none 0 0] 8 rfl (World.shaped_of_RefB (by kernel_rfl) (by kernel_rfl)) (by kernel_rfl) (by kernel_rfl) (by kernel_rfl) (metAddrInfos os _)) ?_
  intro W base args ds gs before hval0 hW _ _ hL _
  have hval : ∀ (j : Nat) t v, Tryz.f6.params[j]? = some t → args[j]? = some v → Value.okWide Tryz.prog W .any base t v := hval0
  have hW' := hW
  obtain ⟨p, q, hA0, hV, rfl, hfz, hnd⟩ := hW
  have hA : DataW.TrodAll enc Tryz.prog W 0 (fun _ => true) true Tryz.f6.params.toList args.toList ds p := hA0
  rw [Tryz.params6] at hA hval
  obtain ⟨v0, d0, rfl, rfl, h0⟩ := trodAll_one hA
  obtain ⟨rfl, rfl⟩ := trodVars_none hV
  obtain ⟨a0, k0, c0, ls0, rfl, hlk0, hkc0, hcm0, hLIn0⟩ := open_hopss (hval 0 _ _ rfl rfl) h0
  have hT := tabAddrInfos hL
  have hE := errAddrInfos hL
  clear hA0 hval0
  simp only [List.append_nil] at hW'
  have hlt0 : ∀ z ∈ p, z.block < W.heap.size := fun z hz => hW'.lt z (by simp [hz])
  refine (lawInfos shaF shaIs a0 c0 k0 ls0 hlk0 hkc0 hcm0 W hLIn0 hT hE).mono fun e W' ⟨he, hB⟩ => ?_
  subst he
  refine ⟨_, rfl, _, _, _, [], p, [], hW', ?_, ?_, rfl, hB.frame _, fun h => by cases h⟩
  · exact trodAll_mk1 (shut_bool Tryz.underlying4 true)
  · exact trodAll_mk1 (Below.trod laidOut (by kernel_rfl) (of_decide_eq_true (by kernel_rfl)) h0 hB hlt0)
theorem fnAddrInfos_holds : Rows.FnAddrInfosSaid :=
  OpenClaim.holds_of_wide 6 Tryz.f6 rfl rfl rfl rfl rfl rfl rfl ⟨rfl, rfl, rfl, rfl, rfl⟩ rfl rfl rfl rfl rfl (by as_aux_lemma => kernel_rfl) Tryz.func6 infos_closed
    (of_decide_eq_true (by as_aux_lemma => kernel_rfl)) (by unfold Func.isWrapper; first | (rw [if_pos (by decide +kernel)]; kernel_rfl) | (rw [if_neg (by decide +kernel)]; exact ⟨rfl, rfl⟩))
    (fun os started H enc _ => infos_lifted os started H enc)
end Go.Proofs.YtapkmoakbfpkeaaGreatDoor
