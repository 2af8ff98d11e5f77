/- For every input of the law FnProtocolIDs, with the listed package-level variables as the program's text lays them: the call returns true, and each argument reads afterwards as it read before.
   CONDITIONS: those of the given row: the listed variables read as listed (the card ties this to the program's text); the variables that the row names and does not list may hold anything. -/
import Derived.Test.YtkfiacolgkocfaaGreatDoorCards
import Derived.Test.YtkfiacolgkocfaaGreatDoorT1
import Derived.Test.YtkfiacolgkocfaaGreatDoorF5
namespace Go.Proofs.YtkfiacolgkocfaaGreatDoor
open Go
theorem fnProtocolIDs_card_holds : Rows.FnProtocolIDsCardSaid :=
  Claim7.holds_tied_plain_at .later [] [.sentinel, .sentinel, .sentinel, .data, .data, .data, .sentinel, .sentinel, .sentinel, .pinned, .data, .sentinel, .data, .sentinel, .sentinel, .sentinel, .data, .data, .sentinel, .sentinel, .sentinel] true (true, "6fa0707726a56c46bdf83ad8e2ef34f3b996447b8946ceba7a8881cf21dafacc") true
    fnProtocolIDs_holds (fun _ h => by cases h) (by as_aux_lemma => kernel_rfl) (fun _ h => by cases h) fnProtocolIDs_row_tie rfl ⟨rfl, rfl⟩ (by as_aux_lemma => kernel_rfl) rfl
    (fun f fn hf hfn => by
      obtain rfl : f = 6 := Option.some.inj ((show Tryz.prog.funcNamed "pub-symmory/laws.FnProtocolIDs" = some 6 by as_aux_lemma => kernel_rfl).symm.trans hf) |>.symm
      obtain rfl : fn = Tryz.f6 := (Option.some.inj (Tryz.func6.symm.trans hfn)).symm
      exact ⟨by as_aux_lemma => kernel_rfl, fun j t ht => by
        rw [Tryz.params6] at ht
        have hm : t ∈ [42] := by simpa using Array.mem_of_getElem? ht
        have hall : ([42].all fun u => !Tryz.prog.wantsStandIn u) = true := by as_aux_lemma => kernel_rfl
        exact (show Tryz.prog.wantsStandIn t = false by simpa using List.all_eq_true.1 hall t hm)⟩)
    (by as_aux_lemma => kernel_rfl)
end Go.Proofs.YtkfiacolgkocfaaGreatDoor
