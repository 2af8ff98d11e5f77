/- For every input of the law FnAddrSeveral, with the listed package-level variables as the program's text lays them: the call returns true, and each argument reads afterwards as it read before.
   CONDITIONS: those of the given row: the listed variables read as listed (the card ties this to the program's text); the variables that the row names and does not list may hold anything. -/
import Derived.Test.YtapkmoakbfpkeaaGreatDoorCards
import Derived.Test.YtapkmoakbfpkeaaGreatDoorTT
import Derived.Test.YtapkmoakbfpkeaaGreatDoorN0
import Derived.Test.YtapkmoakbfpkeaaGreatDoorFC
namespace Go.Proofs.YtapkmoakbfpkeaaGreatDoor
open Go
theorem fnAddrSeveral_card_holds : Rows.FnAddrSeveralCardSaid :=
  Claim7.holds_tied_plain_at .later [] [.sentinel, .sentinel, .sentinel, .data, .data, .data, .sentinel, .sentinel, .sentinel, .pinned, .data, .sentinel, .data, .sentinel, .sentinel, .sentinel, .data, .data, .sentinel, .sentinel, .sentinel, .sentinel] true (true, "465d437df332eaac01c5d885d4751ce959d72069832d304722ade7adcc14153f") true
    fnAddrSeveral_holds (fun _ h => by cases h) (by as_aux_lemma => kernel_rfl) (fun _ h => by cases h) fnAddrSeveral_row_tie rfl ⟨rfl, rfl⟩ (by as_aux_lemma => kernel_rfl) rfl
    (fun f fn hf hfn => by
      obtain rfl : f = 9 := Option.some.inj ((show Tryz.prog.funcNamed "pub-symmory/laws.FnAddrSeveral" = some 9 by as_aux_lemma => kernel_rfl).symm.trans hf) |>.symm
      obtain rfl : fn = Tryz.f9 := (Option.some.inj (Tryz.func9.symm.trans hfn)).symm
      exact ⟨by as_aux_lemma => kernel_rfl, fun j t ht => by
        rw [Tryz.params9] at ht
        have hm : t ∈ [42, 30] := by simpa using Array.mem_of_getElem? ht
        have hall : ([42, 30].all fun u => !Tryz.prog.wantsStandIn u) = true := by as_aux_lemma => kernel_rfl
        exact (show Tryz.prog.wantsStandIn t = false by simpa using List.all_eq_true.1 hall t hm)⟩)
    (show false = Tryz.prog.goesAt .entering "pub-symmory/laws.FnAddrSeveral" from (goes_none noGo _).symm)
end Go.Proofs.YtapkmoakbfpkeaaGreatDoor
