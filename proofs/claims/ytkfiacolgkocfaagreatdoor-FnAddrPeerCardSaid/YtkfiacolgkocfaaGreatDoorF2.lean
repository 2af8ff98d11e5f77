/- The row FnAddrPeer, proved. -/
import Derived.Test.YtkfiacolgkocfaaGreatDoorG4
import Derived.Test.YtkfiacolgkocfaaGreatDoorF0
import Derived.Test.YtkfiacolgkocfaaGreatDoorS5
import Derived.ProofKit
namespace Go.Proofs.YtkfiacolgkocfaaGreatDoor
open Go Go.RowKit Go.Proofs Go.Sort Go.ChangeShapes Go.WideShapes

theorem errStar : "*" ++ "errors.errorString" = "*errors.errorString" := by decide
theorem errRow (u : TypeId) (h : Tryz.prog.typeName? 3 u = some "*errors.errorString") : u = 111 :=
  typeName_ptr_named (nm := "errors.errorString") (by rw [errStar]; kernel_rfl) (by kernel_rfl) (by decide) u (by rw [errStar]; exact h)
theorem gErr : Tryz.prog.globalNamed "pub-symmory/pub/libp2p/core/peer.ErrInvalidAddr" = some 0 := by kernel_rfl
theorem errV_of {W : World} {text : List UInt8} {r : List (String × DataW Unit)} (h : laidMet Tryz.prog (("pub-symmory/pub/libp2p/core/peer.ErrInvalidAddr", .iface "*errors.errorString" (.ptr (.agg [.lit (.string text)]))) :: r) W) : ErrV W := by
  obtain ⟨a, s, hv, _⟩ := laid_sentinel h gErr (by kernel_rfl) Tryz.underlying61 errRow Tryz.underlying111 Tryz.underlying113 rfl rfl Tryz.underlying9 (by kernel_rfl) (by kernel_rfl)
  exact ⟨_, a, by simpa using World.var?_cell gErr hv 0⟩
theorem errAddrPeer {W : World} (h : laidMetH Tryz.prog Rows.fnAddrPeerRow.laid W) : ErrV W := by
  rw [MakeChecks.laidMetH_plain _ _ _ (by kernel_rfl)] at h
  exact errV_of (r := []) h.tail.tail.tail.tail.tail.tail.tail.tail.tail.tail.tail.tail.tail.tail.tail.tail.tail.tail.tail.tail.tail

set_option maxRecDepth 100000 in
theorem peer_lifted (os : Os) (started : os.Started) (H : Type) (enc : TypeId × Value → H) :
    ReturnsInHanded {} Tryz.checked os 4 .any (fun w args => (Rows.fnAddrPeerSpec.pre enc Tryz.prog Tryz.f4 [] false w args ∧ laidMetH Tryz.prog Rows.fnAddrPeerRow.laid w) ∧ sizedMet enc Tryz.prog Tryz.f4 (OpenSpec.ofChange Rows.fnAddrPeerSpec) false w args)
      (Rows.fnAddrPeerSpec.post enc Tryz.prog Tryz.f4 false true false false) := by
  refine returnsInHanded_of_change_and (C := Tryz.checked) (X := fun w _ => laidMetH Tryz.prog Rows.fnAddrPeerRow.laid w) (fun _ _ _ hh h => h.of_heap hh) ownKnob_none started (by kernel_rfl) Tryz.func4
    (ChangeSpec.witness_shaped (enc := enc) (C := Tryz.checked) (os := os) (X := fun w _ => laidMetH Tryz.prog Rows.fnAddrPeerRow.laid w) false (laidWorld os) #[.slice none 0 0] 8 rfl (World.shaped_of_RefB (by kernel_rfl) (by kernel_rfl)) (by kernel_rfl) (by kernel_rfl) (by kernel_rfl) (metAddrPeer os _)) ?_
  intro W base args ds gs before hval0 hW _ _ hL _
  have hval : ∀ (j : Nat) t v, Tryz.f4.params[j]? = some t → args[j]? = some v → Value.okWide Tryz.prog W .any base t v := hval0
  have hW' := hW
  obtain ⟨p, q, hA0, hV, rfl, hfz, hnd⟩ := hW
  have hA : DataW.TrodAll enc Tryz.prog W 0 (fun _ => true) true Tryz.f4.params.toList args.toList ds p := hA0
  rw [Tryz.params4] at hA hval
  obtain ⟨v0, d0, rfl, rfl, h0⟩ := trodAll_one hA
  obtain ⟨rfl, rfl⟩ := trodVars_none hV
  obtain ⟨a, k, c, l, rfl, hlk, hkc, hLIn⟩ := open_hops (hval 0 _ _ rfl rfl) h0
  have hT := tabAddrPeer hL
  have hE := errAddrPeer hL
  clear hA0 hval0
  simp only [List.append_nil] at hW'
  have hlt : ∀ z ∈ p, z.block < W.heap.size := fun z hz => hW'.lt z hz
  refine (lawPeer shaF shaIs a c k l hlk hkc W hLIn hT hE).mono fun e W' ⟨he, hB⟩ => ?_
  subst he
  refine ⟨_, rfl, _, _, _, [], p, [], hW', ?_, ?_, rfl, hB.frame _, fun h => by cases h⟩
  · exact trodAll_mk1 (shut_bool Tryz.underlying4 true)
  · exact trodAll_mk1 (Below.trod laidOut (by kernel_rfl) (of_decide_eq_true (by kernel_rfl)) h0 hB hlt)
set_option maxRecDepth 100000 in
set_option maxHeartbeats 8000000 in
theorem peer_closed : joinedFacts Tryz.pinned.checked.prog 4 Tryz.f4 Rows.fnAddrPeerSpec Rows.fnAddrPeerRow = true := by
  unfold joinedFacts
  repeat' (with_reducible refine andT ?_ ?_)
  all_goals (as_aux_lemma => kernel_rfl)
theorem fnAddrPeer_holds : Rows.FnAddrPeerSaid :=
  OpenClaim.holds_of_wide 4 Tryz.f4 rfl rfl rfl rfl rfl rfl rfl ⟨rfl, rfl, rfl, rfl, rfl⟩ rfl rfl rfl rfl rfl (by as_aux_lemma => kernel_rfl) Tryz.func4 peer_closed
    (of_decide_eq_true (by as_aux_lemma => kernel_rfl)) (by unfold Func.isWrapper; first | (rw [if_pos (by decide +kernel)]; kernel_rfl) | (rw [if_neg (by decide +kernel)]; exact ⟨rfl, rfl⟩))
    (fun os started H enc _ => peer_lifted os started H enc)
end Go.Proofs.YtkfiacolgkocfaaGreatDoor
