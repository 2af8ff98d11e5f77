/- The row FnAddrRecorded, proved. For every input of the law FnAddrRecorded, with the listed package-level variables as the program's text lays them: the call returns true, and each argument reads afterwards as it read before.
   CONDITIONS: those of the given row: the listed variables read as listed (the card ties this to the program's text); the variables that the row names and does not list may hold anything. -/
import Derived.Test.YtapkmoakbfpkeaaGreatDoorZL
import Derived.Test.YtapkmoakbfpkeaaGreatDoorF2E
import Derived.Test.YtapkmoakbfpkeaaGreatDoorS5
import Derived.Test.YtapkmoakbfpkeaaGreatDoorYD
import Derived.ProofKit
import Derived.Test.YtapkmoakbfpkeaaGreatDoorCards
import Derived.Test.YtapkmoakbfpkeaaGreatDoorTT
import Derived.Test.YtapkmoakbfpkeaaGreatDoorN0
namespace Go.Proofs.YtapkmoakbfpkeaaGreatDoor
open Go Go.RowKit Go.Proofs Go.Sort Go.ChangeShapes Go.WideShapes
set_option maxRecDepth 100000 in
theorem open_u64 {H : Type} {enc : TypeId × Value → H} {w : World} {base : Nat} {held : Bool} {r : Reach} {b0 : Nat} {v : Value} {d : DataW H} {p : List MemPlace} (hval : Value.okWide Tryz.prog w r b0 67 v) (h : DataW.Trod enc Tryz.prog w base (fun _ => true) held 67 v d p) : ∃ n : Int, v = .int .u64 n ∧ 0 ≤ n ∧ n < 18446744073709551616 := by
  obtain ⟨n, rfl⟩ := okWide_int Tryz.underlying67 hval
  obtain ⟨fuel, hf⟩ := h
  have hf' : DataW.trod enc Tryz.prog w base (fun _ => true) held fuel 67 [.int .u64 n] = some (d, p) := hf
  obtain ⟨m, hm, _, hw⟩ := DataW.trod_int Tryz.underlying67 hf'
  obtain rfl : n = m := by simpa using hm
  exact ⟨n, rfl, wf_u64 hw⟩
theorem errAddrRecorded {W : World} (h : laidMetH Tryz.prog Rows.fnAddrRecordedRow.laid W) : ErrV W := by
  rw [MakeChecks.laidMetH_plain _ _ _ (by kernel_rfl)] at h
  exact errV_of (r := []) h.tail.tail.tail.tail.tail.tail.tail.tail.tail.tail.tail.tail.tail.tail.tail.tail.tail.tail.tail.tail.tail.tail.tail.tail.tail.tail.tail.tail

set_option maxRecDepth 100000 in
theorem recorded_lifted (os : Os) (started : os.Started) (H : Type) (enc : TypeId × Value → H) :
    ReturnsInHanded {} Tryz.checked os 10 .any (fun w args => (Rows.fnAddrRecordedSpec.pre enc Tryz.prog Tryz.f10 [] false w args ∧ laidMetH Tryz.prog Rows.fnAddrRecordedRow.laid w) ∧ sizedMet enc Tryz.prog Tryz.f10 (OpenSpec.ofChange Rows.fnAddrRecordedSpec) false w args)
      (Rows.fnAddrRecordedSpec.post enc Tryz.prog Tryz.f10 false true false false) := by
  refine returnsInHanded_of_change_and (C := Tryz.checked) (X := fun w _ => laidMetH Tryz.prog Rows.fnAddrRecordedRow.laid w) (fun _ _ _ hh h => h.of_heap hh) ownKnob_none started (by kernel_rfl) Tryz.func10
    (ChangeSpec.witness_shaped (enc := enc) (C := Tryz.checked) (os := os) (X := fun w _ => laidMetH Tryz.prog Rows.fnAddrRecordedRow.laid w) false (laidWorld os) #[.slice none 0 0, .slice none 0 0, .int .u64 0] 8 rfl (World.shaped_of_RefB (by kernel_rfl) (by kernel_rfl)) (by kernel_rfl) (by kernel_rfl) (by kernel_rfl) (metAddrRecorded os _)) ?_
  intro W base args ds gs before hval0 hW _ _ hL _
  have hval : ∀ (j : Nat) t v, Tryz.f10.params[j]? = some t → args[j]? = some v → Value.okWide Tryz.prog W .any base t v := hval0
  have hW' := hW
  obtain ⟨p, q, hA0, hV, rfl, hfz, hnd⟩ := hW
  have hA : DataW.TrodAll enc Tryz.prog W 0 (fun _ => true) true Tryz.f10.params.toList args.toList ds p := hA0
  rw [Tryz.params10] at hA hval
  obtain ⟨v0, v1, v2, d0, d1, d2, p0, p1, p2, rfl, rfl, rfl, h0, h1, h2⟩ := trodAll_three hA
  obtain ⟨rfl, rfl⟩ := trodVars_none hV
  obtain ⟨a0, m0, c0, xs0, rfl, hok0, hu0, hm0⟩ := open_bytes (hval 0 _ _ rfl rfl) h0
  obtain ⟨a1, k1, c1, ls1, rfl, hlk1, hkc1, hcm1, hLIn1⟩ := open_hopss (hval 1 _ _ rfl rfl) h1
  obtain ⟨n2, rfl, hn2⟩ := open_u64 (hval 2 _ _ rfl rfl) h2
  have hT := tabAddrRecorded hL
  have hE := errAddrRecorded hL
  clear hA0 hval0
  simp only [List.append_nil] at hW'
  have hlt0 : ∀ z ∈ p0, z.block < W.heap.size := fun z hz => hW'.lt z (by simp [hz])
  have hlt1 : ∀ z ∈ p1, z.block < W.heap.size := fun z hz => hW'.lt z (by simp [hz])
  have hlt2 : ∀ z ∈ p2, z.block < W.heap.size := fun z hz => hW'.lt z (by simp [hz])
  refine (lawRecorded shaF shaIs a0 m0 c0 xs0 hm0 a1 c1 k1 ls1 hlk1 hkc1 hcm1 n2 hn2 W hok0 hu0 hLIn1 hT hE).mono fun e W' ⟨he, hB⟩ => ?_
  subst he
  refine ⟨_, rfl, _, _, _, [], p0 ++ p1 ++ p2, [], hW', ?_, ?_, rfl, hB.frame _, fun h => by cases h⟩
  · exact trodAll_mk1 (shut_bool Tryz.underlying4 true)
  · have ht := trodAll_mk3 (Below.trod laidOut (by kernel_rfl) (of_decide_eq_true (by kernel_rfl)) h0 hB hlt0) (Below.trod laidOut (by kernel_rfl) (of_decide_eq_true (by kernel_rfl)) h1 hB hlt1) (Below.trod laidOut (by kernel_rfl) (of_decide_eq_true (by kernel_rfl)) h2 hB hlt2)
    rw [← List.append_assoc] at ht
    exact ht
theorem fnAddrRecorded_holds : Rows.FnAddrRecordedSaid :=
  OpenClaim.holds_of_wide 10 Tryz.f10 rfl rfl rfl rfl rfl rfl rfl ⟨rfl, rfl, rfl, rfl, rfl⟩ rfl rfl rfl rfl rfl (by as_aux_lemma => kernel_rfl) Tryz.func10 recorded_closed
    (of_decide_eq_true (by as_aux_lemma => kernel_rfl)) (by unfold Func.isWrapper; first | (rw [if_pos (by decide +kernel)]; kernel_rfl) | (rw [if_neg (by decide +kernel)]; exact ⟨rfl, rfl⟩))
    (fun os started H enc _ => recorded_lifted os started H enc)
end Go.Proofs.YtapkmoakbfpkeaaGreatDoor
namespace Go.Proofs.YtapkmoakbfpkeaaGreatDoor
open Go
theorem fnAddrRecorded_card_holds : Rows.FnAddrRecordedCardSaid :=
  Claim7.holds_tied_plain_at .later [] [.sentinel, .sentinel, .sentinel, .data, .data, .data, .sentinel, .sentinel, .sentinel, .pinned, .data, .sentinel, .data, .sentinel, .sentinel, .sentinel, .data, .data, .sentinel, .sentinel, .sentinel, .sentinel, .sentinel, .sentinel, .sentinel, .sentinel, .sentinel, .sentinel, .sentinel] true (true, "465d437df332eaac01c5d885d4751ce959d72069832d304722ade7adcc14153f") true
    fnAddrRecorded_holds (fun _ h => by cases h) (by as_aux_lemma => kernel_rfl) (fun _ h => by cases h) fnAddrRecorded_row_tie rfl ⟨rfl, rfl⟩ (by as_aux_lemma => kernel_rfl) rfl
    (fun f fn hf hfn => by
      obtain rfl : f = 10 := Option.some.inj ((show Tryz.prog.funcNamed "pub-symmory/laws.FnAddrRecorded" = some 10 by as_aux_lemma => kernel_rfl).symm.trans hf) |>.symm
      obtain rfl : fn = Tryz.f10 := (Option.some.inj (Tryz.func10.symm.trans hfn)).symm
      exact ⟨by as_aux_lemma => kernel_rfl, fun j t ht => by
        rw [Tryz.params10] at ht
        have hm : t ∈ [23, 42, 67] := by simpa using Array.mem_of_getElem? ht
        have hall : ([23, 42, 67].all fun u => !Tryz.prog.wantsStandIn u) = true := by as_aux_lemma => kernel_rfl
        exact (show Tryz.prog.wantsStandIn t = false by simpa using List.all_eq_true.1 hall t hm)⟩)
    (show false = Tryz.prog.goesAt .entering "pub-symmory/laws.FnAddrRecorded" from (goes_none noGo _).symm)
end Go.Proofs.YtapkmoakbfpkeaaGreatDoor
