/- The row FnAddrCircuit, proved. -/
import Derived.Test.YtapkmoakbfpkeaaGreatDoorH4
import Derived.Test.YtapkmoakbfpkeaaGreatDoorF2E
import Derived.Test.YtapkmoakbfpkeaaGreatDoorF4
import Derived.Test.YtapkmoakbfpkeaaGreatDoorS5
import Derived.Test.YtapkmoakbfpkeaaGreatDoorY6
import Derived.ProofKit
namespace Go.Proofs.YtapkmoakbfpkeaaGreatDoor
open Go Go.RowKit Go.Proofs Go.Sort Go.ChangeShapes Go.WideShapes
theorem errAddrCircuit {W : World} (h : laidMetH Tryz.prog Rows.fnAddrCircuitRow.laid W) : ErrV W := by
  rw [MakeChecks.laidMetH_plain _ _ _ (by kernel_rfl)] at h
  exact errV_of (r := []) h.tail.tail.tail.tail.tail.tail.tail.tail.tail.tail.tail.tail.tail.tail.tail.tail.tail.tail.tail.tail.tail

set_option maxRecDepth 100000 in
theorem circuit_lifted (os : Os) (started : os.Started) (H : Type) (enc : TypeId × Value → H) :
    ReturnsInHanded {} Tryz.checked os 3 .any (fun w args => (Rows.fnAddrCircuitSpec.pre enc Tryz.prog Tryz.f3 [] false w args ∧ laidMetH Tryz.prog Rows.fnAddrCircuitRow.laid w) ∧ sizedMet enc Tryz.prog Tryz.f3 (OpenSpec.ofChange Rows.fnAddrCircuitSpec) false w args)
      (Rows.fnAddrCircuitSpec.post enc Tryz.prog Tryz.f3 false true false false) := by
  refine returnsInHanded_of_change_and (C := Tryz.checked) (X := fun w _ => laidMetH Tryz.prog Rows.fnAddrCircuitRow.laid w) (fun _ _ _ hh h => h.of_heap hh) ownKnob_none started (by kernel_rfl) Tryz.func3
    (ChangeSpec.witness_shaped (enc := enc) (C := Tryz.checked) (os := os) (X := fun w _ => laidMetH Tryz.prog Rows.fnAddrCircuitRow.laid w) false (laidWorld os) #[.slice none 0 0, .slice none 0 0, .slice none 0 0] 8 rfl (World.shaped_of_RefB (by kernel_rfl) (by kernel_rfl)) (by kernel_rfl) (by kernel_rfl) (by kernel_rfl) (metAddrCircuit os _)) ?_
  intro W base args ds gs before hval0 hW _ _ hL _
  have hval : ∀ (j : Nat) t v, Tryz.f3.params[j]? = some t → args[j]? = some v → Value.okWide Tryz.prog W .any base t v := hval0
  have hW' := hW
  obtain ⟨p, q, hA0, hV, rfl, hfz, hnd⟩ := hW
  have hA : DataW.TrodAll enc Tryz.prog W 0 (fun _ => true) true Tryz.f3.params.toList args.toList ds p := hA0
  rw [Tryz.params3] at hA hval
  obtain ⟨v0, v1, v2, d0, d1, d2, p0, p1, p2, rfl, rfl, rfl, h0, h1, h2⟩ := trodAll_three hA
  obtain ⟨rfl, rfl⟩ := trodVars_none hV
  obtain ⟨a, k, c, l, rfl, hlk, hkc, hLIn⟩ := open_hops (hval 0 _ _ rfl rfl) h0
  obtain ⟨a1, m1, c1, xs, rfl, hok, hu, hm1⟩ := open_bytes (hval 1 _ _ rfl rfl) h1
  obtain ⟨a2, m2, c2, ys, rfl, hok2, hu2, hm2⟩ := open_bytes (hval 2 _ _ rfl rfl) h2
  have hT := tabAddrCircuit hL
  have hE := errAddrCircuit hL
  clear hA0 hval0
  simp only [List.append_nil] at hW'
  have hlt0 : ∀ z ∈ p0, z.block < W.heap.size := fun z hz => hW'.lt z (by simp [hz])
  have hlt1 : ∀ z ∈ p1, z.block < W.heap.size := fun z hz => hW'.lt z (by simp [hz])
  have hlt2 : ∀ z ∈ p2, z.block < W.heap.size := fun z hz => hW'.lt z (by simp [hz])
  refine (lawCircuit shaF shaIs a c k l hlk a1 m1 c1 xs hm1 a2 m2 c2 ys hm2 W hLIn hok hu hok2 hu2 hT hE).mono fun e W' ⟨he, hB⟩ => ?_
  subst he
  refine ⟨_, rfl, _, _, _, [], p0 ++ p1 ++ p2, [], hW', ?_, ?_, rfl, hB.frame _, fun h => by cases h⟩
  · exact trodAll_mk1 (shut_bool Tryz.underlying4 true)
  · have ht := trodAll_mk3 (Below.trod laidOut (by kernel_rfl) (of_decide_eq_true (by kernel_rfl)) h0 hB hlt0) (Below.trod laidOut (by kernel_rfl) (of_decide_eq_true (by kernel_rfl)) h1 hB hlt1) (Below.trod laidOut (by kernel_rfl) (of_decide_eq_true (by kernel_rfl)) h2 hB hlt2)
    rw [← List.append_assoc] at ht
    exact ht
theorem fnAddrCircuit_holds : Rows.FnAddrCircuitSaid :=
  OpenClaim.holds_of_wide 3 Tryz.f3 rfl rfl rfl rfl rfl rfl rfl ⟨rfl, rfl, rfl, rfl, rfl⟩ rfl rfl rfl rfl rfl (by as_aux_lemma => kernel_rfl) Tryz.func3 circuit_closed
    (of_decide_eq_true (by as_aux_lemma => kernel_rfl)) (by unfold Func.isWrapper; first | (rw [if_pos (by decide +kernel)]; kernel_rfl) | (rw [if_neg (by decide +kernel)]; exact ⟨rfl, rfl⟩))
    (fun os started H enc _ => circuit_lifted os started H enc)
end Go.Proofs.YtapkmoakbfpkeaaGreatDoor
