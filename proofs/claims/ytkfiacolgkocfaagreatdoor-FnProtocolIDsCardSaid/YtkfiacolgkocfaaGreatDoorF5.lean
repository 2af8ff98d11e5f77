/- The row FnProtocolIDs, proved. -/
import Derived.Test.YtkfiacolgkocfaaGreatDoorP3
import Derived.Test.YtkfiacolgkocfaaGreatDoorF0
import Derived.Test.YtkfiacolgkocfaaGreatDoorS5
import Derived.ProofKit
import Derived.SliceStrings
namespace Go.Proofs.YtkfiacolgkocfaaGreatDoor
open Go Go.RowKit Go.Proofs Go.Sort Go.ChangeShapes Go.WideShapes

section
variable {H : Type} {enc : TypeId × Value → H} {w : World} {base : Nat} {held : Bool}
set_option maxRecDepth 100000 in
/-- Strings. -/
theorem open_strs0 {r : Reach} {b0 : Nat} {v : Value} {d : DataW H} {p : List MemPlace} (hval : Value.okWide Tryz.prog w r b0 42 v) (h : DataW.Trod enc Tryz.prog w base (fun _ => true) held 42 v d p) :
    ∃ (a : Option Addr) (k c : Nat) (zs : List ByteArray), v = .slice a k c ∧ k ≤ maxLen ∧ StrIn w a k zs := by
  obtain ⟨a0, len0, cap0, rfl⟩ := okWide_slice Tryz.underlying42 hval
  obtain ⟨fuel, hf⟩ := h
  have hf' : DataW.trod enc Tryz.prog w base (fun _ => true) held fuel 42 [.slice a0 len0 cap0] = some (d, p) := hf
  rcases open_strings Tryz.underlying42 Tryz.underlying9 (by kernel_rfl) hf' with ⟨h1, _⟩ | ⟨a, len, cap, ss, h1, _, hl, hm, hz, _, hi, _⟩
  · simp only [List.cons.injEq, Value.slice.injEq, and_true] at h1
    obtain ⟨rfl, rfl, rfl⟩ := h1
    exact ⟨none, 0, 0, [], rfl, Nat.zero_le _, rfl, fun h => absurd h (Nat.lt_irrefl 0)⟩
  · simp only [List.cons.injEq, Value.slice.injEq, and_true] at h1
    obtain ⟨rfl, rfl, rfl⟩ := h1
    have hz' : ss.length = cap0 := hz
    refine ⟨some a, len0, cap0, ss.take len0, rfl, Nat.le_trans hl hm, by rw [List.length_take]; omega, fun hpos => ?_⟩
    obtain ⟨b, o, s⟩ := a
    obtain rfl : s = none := by simpa [Addr.add] using World.cell?_spot (hi 0 (by omega))
    refine ⟨b, o, rfl, fun j hj => ?_⟩
    have q := hi j (by omega)
    rw [Go.WideShapes.add_plain] at q
    rw [q]
    simp [List.getD, hj]
end
set_option maxRecDepth 100000 in
theorem protocols_lifted (os : Os) (started : os.Started) (H : Type) (enc : TypeId × Value → H) :
    ReturnsInHanded {} Tryz.checked os 6 .any (fun w args => (Rows.fnProtocolIDsSpec.pre enc Tryz.prog Tryz.f6 [] false w args ∧ laidMetH Tryz.prog Rows.fnProtocolIDsRow.laid w) ∧ sizedMet enc Tryz.prog Tryz.f6 (OpenSpec.ofChange Rows.fnProtocolIDsSpec) false w args)
      (Rows.fnProtocolIDsSpec.post enc Tryz.prog Tryz.f6 false true false false) := by
  refine returnsInHanded_of_change_and (C := Tryz.checked) (X := fun w _ => laidMetH Tryz.prog Rows.fnProtocolIDsRow.laid w) (fun _ _ _ hh h => h.of_heap hh) ownKnob_none started (by kernel_rfl) Tryz.func6
    (ChangeSpec.witness_shaped (enc := enc) (C := Tryz.checked) (os := os) (X := fun w _ => laidMetH Tryz.prog Rows.fnProtocolIDsRow.laid w) false (laidWorld os) #[.slice none 0 0] 8 rfl (World.shaped_of_RefB (by kernel_rfl) (by kernel_rfl)) (by kernel_rfl) (by kernel_rfl) (by kernel_rfl) (metProtocolIDs os _)) ?_
  intro W base args ds gs before hval0 hW _ _ hL _
  have hval : ∀ (j : Nat) t v, Tryz.f6.params[j]? = some t → args[j]? = some v → Value.okWide Tryz.prog W .any base t v := hval0
  have hW' := hW
  obtain ⟨p, q, hA0, hV, rfl, hfz, hnd⟩ := hW
  have hA : DataW.TrodAll enc Tryz.prog W 0 (fun _ => true) true Tryz.f6.params.toList args.toList ds p := hA0
  rw [Tryz.params6] at hA hval
  obtain ⟨v0, d0, rfl, rfl, h0⟩ := trodAll_one hA
  obtain ⟨rfl, rfl⟩ := trodVars_none hV
  obtain ⟨a, k, c, zs, rfl, hk, hz⟩ := open_strs0 (hval 0 _ _ rfl rfl) h0
  have hT := tabProtocolIDs hL
  clear hA0 hval0
  simp only [List.append_nil] at hW'
  have hlt0 : ∀ z ∈ p, z.block < W.heap.size := fun z hz => hW'.lt z hz
  refine (lawProtocols shaF shaIs a k c zs W hz (by have : maxLen ≤ 9223372036854775807 := by decide
                                                    omega) hT).mono fun e W' ⟨he, hB⟩ => ?_
  subst he
  refine ⟨_, rfl, _, _, _, [], p, [], hW', ?_, ?_, rfl, hB.frame _, fun h => by cases h⟩
  · exact trodAll_mk1 (shut_bool Tryz.underlying4 true)
  · exact trodAll_mk1 (Below.trod laidOut (by kernel_rfl) (of_decide_eq_true (by kernel_rfl)) h0 hB hlt0)
set_option maxRecDepth 100000 in
set_option maxHeartbeats 8000000 in
theorem protocols_closed : joinedFacts Tryz.pinned.checked.prog 6 Tryz.f6 Rows.fnProtocolIDsSpec Rows.fnProtocolIDsRow = true := by
  unfold joinedFacts
  repeat' (with_reducible refine andT ?_ ?_)
  all_goals (as_aux_lemma => kernel_rfl)
theorem fnProtocolIDs_holds : Rows.FnProtocolIDsSaid :=
  OpenClaim.holds_of_wide 6 Tryz.f6 rfl rfl rfl rfl rfl rfl rfl ⟨rfl, rfl, rfl, rfl, rfl⟩ rfl rfl rfl rfl rfl (by as_aux_lemma => kernel_rfl) Tryz.func6 protocols_closed
    (of_decide_eq_true (by as_aux_lemma => kernel_rfl)) (by unfold Func.isWrapper; first | (rw [if_pos (by decide +kernel)]; kernel_rfl) | (rw [if_neg (by decide +kernel)]; exact ⟨rfl, rfl⟩))
    (fun os started H enc _ => protocols_lifted os started H enc)
end Go.Proofs.YtkfiacolgkocfaaGreatDoor
