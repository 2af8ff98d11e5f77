/- The row FnAddrJoined, proved. -/
import Derived.Test.YtkfiacolgkocfaaGreatDoorG6
import Derived.Test.YtkfiacolgkocfaaGreatDoorF4
import Derived.Test.YtkfiacolgkocfaaGreatDoorS5
import Derived.ProofKit
namespace Go.Proofs.YtkfiacolgkocfaaGreatDoor
open Go Go.RowKit Go.Proofs Go.Sort Go.ChangeShapes Go.WideShapes

set_option maxRecDepth 100000 in
theorem joined_lifted (os : Os) (started : os.Started) (H : Type) (enc : TypeId × Value → H) :
    ReturnsInHanded {} Tryz.checked os 5 .any (fun w args => (Rows.fnAddrJoinedSpec.pre enc Tryz.prog Tryz.f5 [] false w args ∧ laidMetH Tryz.prog Rows.fnAddrJoinedRow.laid w) ∧ sizedMet enc Tryz.prog Tryz.f5 (OpenSpec.ofChange Rows.fnAddrJoinedSpec) false w args)
      (Rows.fnAddrJoinedSpec.post enc Tryz.prog Tryz.f5 false true false false) := by
  refine returnsInHanded_of_change_and (C := Tryz.checked) (X := fun w _ => laidMetH Tryz.prog Rows.fnAddrJoinedRow.laid w) (fun _ _ _ hh h => h.of_heap hh) ownKnob_none started (by kernel_rfl) Tryz.func5
    (ChangeSpec.witness_shaped (enc := enc) (C := Tryz.checked) (os := os) (X := fun w _ => laidMetH Tryz.prog Rows.fnAddrJoinedRow.laid w) false (laidWorld os) #[.slice none 0 0, .slice none 0 0] 8 rfl (World.shaped_of_RefB (by kernel_rfl) (by kernel_rfl)) (by kernel_rfl) (by kernel_rfl) (by kernel_rfl) (metAddrJoined os _)) ?_
  intro W base args ds gs before hval0 hW _ _ hL _
  have hval : ∀ (j : Nat) t v, Tryz.f5.params[j]? = some t → args[j]? = some v → Value.okWide Tryz.prog W .any base t v := hval0
  have hW' := hW
  obtain ⟨p, q, hA0, hV, rfl, hfz, hnd⟩ := hW
  have hA : DataW.TrodAll enc Tryz.prog W 0 (fun _ => true) true Tryz.f5.params.toList args.toList ds p := hA0
  rw [Tryz.params5] at hA hval
  obtain ⟨v0, v1, d0, d1, p0, p1, rfl, rfl, rfl, h0, h1⟩ := trodAll_two hA
  obtain ⟨rfl, rfl⟩ := trodVars_none hV
  obtain ⟨a, k, c, l, rfl, hlk, hkc, hLIn⟩ := open_hops (hval 0 _ _ rfl rfl) h0
  obtain ⟨a1, m1, c1, xs, rfl, hok, hu, hm1⟩ := open_bytes (hval 1 _ _ rfl rfl) h1
  have hT := tabAddrJoined hL
  clear hA0 hval0
  simp only [List.append_nil] at hW'
  have hlt0 : ∀ z ∈ p0, z.block < W.heap.size := fun z hz => hW'.lt z (List.mem_append_left _ hz)
  have hlt1 : ∀ z ∈ p1, z.block < W.heap.size := fun z hz => hW'.lt z (List.mem_append_right _ hz)
  refine (lawJoined shaF shaIs a c k l hlk hkc a1 m1 c1 xs hm1 W hLIn hok hu hT).mono fun e W' ⟨he, hB⟩ => ?_
  subst he
  refine ⟨_, rfl, _, _, _, [], p0 ++ p1, [], hW', ?_, ?_, rfl, hB.frame _, fun h => by cases h⟩
  · exact trodAll_mk1 (shut_bool Tryz.underlying4 true)
  · exact trodAll_mk2 (Below.trod laidOut (by kernel_rfl) (of_decide_eq_true (by kernel_rfl)) h0 hB hlt0) (Below.trod laidOut (by kernel_rfl) (of_decide_eq_true (by kernel_rfl)) h1 hB hlt1)
set_option maxRecDepth 100000 in
set_option maxHeartbeats 8000000 in
theorem joined_closed : joinedFacts Tryz.pinned.checked.prog 5 Tryz.f5 Rows.fnAddrJoinedSpec Rows.fnAddrJoinedRow = true := by
  unfold joinedFacts
  repeat' (with_reducible refine andT ?_ ?_)
  all_goals (as_aux_lemma => kernel_rfl)
theorem fnAddrJoined_holds : Rows.FnAddrJoinedSaid :=
  OpenClaim.holds_of_wide 5 Tryz.f5 rfl rfl rfl rfl rfl rfl rfl ⟨rfl, rfl, rfl, rfl, rfl⟩ rfl rfl rfl rfl rfl (by as_aux_lemma => kernel_rfl) Tryz.func5 joined_closed
    (of_decide_eq_true (by as_aux_lemma => kernel_rfl)) (by unfold Func.isWrapper; first | (rw [if_pos (by decide +kernel)]; kernel_rfl) | (rw [if_neg (by decide +kernel)]; exact ⟨rfl, rfl⟩))
    (fun os started H enc _ => joined_lifted os started H enc)
end Go.Proofs.YtkfiacolgkocfaaGreatDoor
