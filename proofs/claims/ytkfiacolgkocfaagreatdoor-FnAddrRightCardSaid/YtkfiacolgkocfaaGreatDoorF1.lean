/- The row FnAddrRight, proved. -/
import Derived.Test.YtkfiacolgkocfaaGreatDoorE5
import Derived.Test.YtkfiacolgkocfaaGreatDoorF0
import Derived.Test.YtkfiacolgkocfaaGreatDoorS5
namespace Go.Proofs.YtkfiacolgkocfaaGreatDoor
open Go Go.RowKit Go.Proofs Go.Sort Go.ChangeShapes Go.WideShapes

set_option maxRecDepth 100000 in
theorem right_lifted (os : Os) (started : os.Started) (H : Type) (enc : TypeId × Value → H) :
    ReturnsInHanded {} Tryz.checked os 3 .any (fun w args => (Rows.fnAddrRightSpec.pre enc Tryz.prog Tryz.f3 [] false w args ∧ laidMetH Tryz.prog Rows.fnAddrRightRow.laid w) ∧ sizedMet enc Tryz.prog Tryz.f3 (OpenSpec.ofChange Rows.fnAddrRightSpec) false w args)
      (Rows.fnAddrRightSpec.post enc Tryz.prog Tryz.f3 false true false false) := by
  refine returnsInHanded_of_change_and (C := Tryz.checked) (X := fun w _ => laidMetH Tryz.prog Rows.fnAddrRightRow.laid w) (fun _ _ _ hh h => h.of_heap hh) ownKnob_none started (by kernel_rfl) Tryz.func3
    (ChangeSpec.witness_shaped (enc := enc) (C := Tryz.checked) (os := os) (X := fun w _ => laidMetH Tryz.prog Rows.fnAddrRightRow.laid w) false (laidWorld os) #[.slice none 0 0, .int .u8 0, .int .u8 0] 8 rfl (World.shaped_of_RefB (by kernel_rfl) (by kernel_rfl)) (by kernel_rfl) (by kernel_rfl) (by kernel_rfl) (metAddrRight os _)) ?_
  intro W base args ds gs before hval0 hW _ _ hL _
  have hval : ∀ (j : Nat) t v, Tryz.f3.params[j]? = some t → args[j]? = some v → Value.okWide Tryz.prog W .any base t v := hval0
  have hW' := hW
  obtain ⟨p, q, hA0, hV, rfl, hfz, hnd⟩ := hW
  have hA : DataW.TrodAll enc Tryz.prog W 0 (fun _ => true) true Tryz.f3.params.toList args.toList ds p := hA0
  rw [Tryz.params3] at hA hval
  obtain ⟨v0, v1, v2, d0, d1, d2, p0, p1, p2, rfl, rfl, rfl, h0, h1, h2⟩ := trodAll_three hA
  obtain ⟨rfl, rfl⟩ := trodVars_none hV
  obtain ⟨a, k, c, l, rfl, hlk, hkc, hLIn⟩ := open_hops (hval 0 _ _ rfl rfl) h0
  obtain ⟨x, rfl, rfl, rfl, hwx⟩ := open_int Tryz.underlying5 (hval 1 _ _ rfl rfl) h1
  obtain ⟨y, rfl, rfl, rfl, hwy⟩ := open_int Tryz.underlying5 (hval 2 _ _ rfl rfl) h2
  have hT := tabAddrRight hL
  clear hA0 hval0
  simp only [List.append_nil] at hW'
  have hlt : ∀ z ∈ p0, z.block < W.heap.size := fun z hz => by simpa using hW'.lt z (by simpa using hz)
  refine (lawRight shaF shaIs a c k l hlk hkc x y (wf_u8 hwx) (wf_u8 hwy) W hLIn hT).mono fun e W' ⟨he, hB⟩ => ?_
  subst he
  refine ⟨_, rfl, _, _, _, [], p0, [], hW', ?_, ?_, rfl, hB.frame _, fun h => by cases h⟩
  · exact trodAll_mk1 (shut_bool Tryz.underlying4 true)
  · have h := trodAll_mk3 (Below.trod laidOut (by kernel_rfl) (of_decide_eq_true (by kernel_rfl)) h0 hB hlt) (shut_int Tryz.underlying5 hwx) (shut_int Tryz.underlying5 hwy)
    rw [List.append_nil, List.append_nil] at h
    exact h
set_option maxRecDepth 100000 in
set_option maxHeartbeats 8000000 in
theorem right_closed : joinedFacts Tryz.pinned.checked.prog 3 Tryz.f3 Rows.fnAddrRightSpec Rows.fnAddrRightRow = true := by
  unfold joinedFacts
  repeat' (with_reducible refine andT ?_ ?_)
  all_goals (as_aux_lemma => kernel_rfl)
theorem fnAddrRight_holds : Rows.FnAddrRightSaid :=
  OpenClaim.holds_of_wide 3 Tryz.f3 rfl rfl rfl rfl rfl rfl rfl ⟨rfl, rfl, rfl, rfl, rfl⟩ rfl rfl rfl rfl rfl (by as_aux_lemma => kernel_rfl) Tryz.func3 right_closed
    (of_decide_eq_true (by as_aux_lemma => kernel_rfl)) (by unfold Func.isWrapper; first | (rw [if_pos (by decide +kernel)]; kernel_rfl) | (rw [if_neg (by decide +kernel)]; exact ⟨rfl, rfl⟩))
    (fun os started H enc _ => right_lifted os started H enc)
end Go.Proofs.YtkfiacolgkocfaaGreatDoor
