/- The row FnAddrGroups, proved. -/
import Derived.Test.YtapkmoakbfpkeaaGreatDoorZE
import Derived.Test.YtapkmoakbfpkeaaGreatDoorO1
import Derived.Test.YtapkmoakbfpkeaaGreatDoorF2E
import Derived.Test.YtapkmoakbfpkeaaGreatDoorS5
import Derived.Test.YtapkmoakbfpkeaaGreatDoorYA
import Derived.ProofKit
namespace Go.Proofs.YtapkmoakbfpkeaaGreatDoor
open Go Go.RowKit Go.Proofs Go.Sort Go.ChangeShapes Go.WideShapes
set_option maxRecDepth 100000 in
theorem open_u8 {H : Type} {enc : TypeId × Value → H} {w : World} {base : Nat} {held : Bool} {r : Reach} {b0 : Nat} {v : Value} {d : DataW H} {p : List MemPlace} (hval : Value.okWide Tryz.prog w r b0 5 v) (h : DataW.Trod enc Tryz.prog w base (fun _ => true) held 5 v d p) : ∃ n : Int, v = .int .u8 n ∧ 0 ≤ n ∧ n < 256 := by
  obtain ⟨n, rfl⟩ := okWide_int Tryz.underlying5 hval
  obtain ⟨fuel, hf⟩ := h
  have hf' : DataW.trod enc Tryz.prog w base (fun _ => true) held fuel 5 [.int .u8 n] = some (d, p) := hf
  obtain ⟨m, hm, _, hw⟩ := DataW.trod_int Tryz.underlying5 hf'
  obtain rfl : n = m := by simpa using hm
  exact ⟨n, rfl, wf_u8 hw⟩
theorem errAddrGroups {W : World} (h : laidMetH Tryz.prog Rows.fnAddrGroupsRow.laid W) : ErrV W := by
  rw [MakeChecks.laidMetH_plain _ _ _ (by kernel_rfl)] at h
  exact errV_of (r := []) h.tail.tail.tail.tail.tail.tail.tail.tail.tail.tail.tail.tail.tail.tail.tail.tail.tail.tail.tail.tail.tail

set_option maxRecDepth 100000 in
theorem groups_lifted (os : Os) (started : os.Started) (H : Type) (enc : TypeId × Value → H) :
    ReturnsInHanded {} Tryz.checked os 7 .any (fun w args => (Rows.fnAddrGroupsSpec.pre enc Tryz.prog Tryz.f7 [] false w args ∧ laidMetH Tryz.prog Rows.fnAddrGroupsRow.laid w) ∧ sizedMet enc Tryz.prog Tryz.f7 (OpenSpec.ofChange Rows.fnAddrGroupsSpec) false w args)
      (Rows.fnAddrGroupsSpec.post enc Tryz.prog Tryz.f7 false true false false) := by
  refine returnsInHanded_of_change_and (C := Tryz.checked) (X := fun w _ => laidMetH Tryz.prog Rows.fnAddrGroupsRow.laid w) (fun _ _ _ hh h => h.of_heap hh) ownKnob_none started (by kernel_rfl) Tryz.func7
    (ChangeSpec.witness_shaped (enc := enc) (C := Tryz.checked) (os := os) (X := fun w _ => laidMetH Tryz.prog Rows.fnAddrGroupsRow.laid w) false (laidWorld os) #[.slice none 0 0, .int .u8 0] 8 rfl (World.shaped_of_RefB (by kernel_rfl) (by kernel_rfl)) (by kernel_rfl) (by kernel_rfl) (by kernel_rfl) (metAddrGroups os _)) ?_
  intro W base args ds gs before hval0 hW _ _ hL _
  have hval : ∀ (j : Nat) t v, Tryz.f7.params[j]? = some t → args[j]? = some v → Value.okWide Tryz.prog W .any base t v := hval0
  have hW' := hW
  obtain ⟨p, q, hA0, hV, rfl, hfz, hnd⟩ := hW
  have hA : DataW.TrodAll enc Tryz.prog W 0 (fun _ => true) true Tryz.f7.params.toList args.toList ds p := hA0
  rw [Tryz.params7] at hA hval
  obtain ⟨v0, v1, d0, d1, p0, p1, rfl, rfl, rfl, h0, h1⟩ := trodAll_two hA
  obtain ⟨rfl, rfl⟩ := trodVars_none hV
  obtain ⟨a0, k0, c0, ls0, rfl, hlk0, hkc0, hcm0, hLIn0⟩ := open_hopss (hval 0 _ _ rfl rfl) h0
  obtain ⟨n1, rfl, hn1⟩ := open_u8 (hval 1 _ _ rfl rfl) h1
  have hT := tabAddrGroups hL
  have hE := errAddrGroups hL
  clear hA0 hval0
  simp only [List.append_nil] at hW'
  have hlt0 : ∀ z ∈ p0, z.block < W.heap.size := fun z hz => hW'.lt z (by simp [hz])
  have hlt1 : ∀ z ∈ p1, z.block < W.heap.size := fun z hz => hW'.lt z (by simp [hz])
  refine (lawGroups shaF shaIs a0 c0 k0 ls0 hlk0 hkc0 hcm0 n1 hn1 W hLIn0 hT hE).mono fun e W' ⟨he, hB⟩ => ?_
  subst he
  refine ⟨_, rfl, _, _, _, [], p0 ++ p1, [], hW', ?_, ?_, rfl, hB.frame _, fun h => by cases h⟩
  · exact trodAll_mk1 (shut_bool Tryz.underlying4 true)
  · exact trodAll_mk2 (Below.trod laidOut (by kernel_rfl) (of_decide_eq_true (by kernel_rfl)) h0 hB hlt0) (Below.trod laidOut (by kernel_rfl) (of_decide_eq_true (by kernel_rfl)) h1 hB hlt1)
theorem fnAddrGroups_holds : Rows.FnAddrGroupsSaid :=
  OpenClaim.holds_of_wide 7 Tryz.f7 rfl rfl rfl rfl rfl rfl rfl ⟨rfl, rfl, rfl, rfl, rfl⟩ rfl rfl rfl rfl rfl (by as_aux_lemma => kernel_rfl) Tryz.func7 groups_closed
    (of_decide_eq_true (by as_aux_lemma => kernel_rfl)) (by unfold Func.isWrapper; first | (rw [if_pos (by decide +kernel)]; kernel_rfl) | (rw [if_neg (by decide +kernel)]; exact ⟨rfl, rfl⟩))
    (fun os started H enc _ => groups_lifted os started H enc)
end Go.Proofs.YtapkmoakbfpkeaaGreatDoor
