/-
  DERIVED. GIVEN WITH THE SEED: THE CARDS: each row of YtapkmoakbfpkeaaGreatDoorRows.lean that lists a variable, with what it lists TIED to the program's text (the seventh form; the later family's looks); each row that meets fmt, with fmt's text TOLD by the authors' own Lean function (tested against real Go, not proved from fmt's source: count such statements apart). THE CARD IS WHAT COUNTS. Prove the row's statement (the work); the ties are given (YtapkmoakbfpkeaaGreatDoorTie.lean); close each card by the builder's one call (the guide's Derived/Test/ToyasCard.lean, 'card_holds'). Laid BY PROGRAM, IN A SANDBOX (cutbox-door.mjs). By AI agents, Wed Nov 11 2026. No macro, syntax, notation, axiom, sorry.
-/
import Derived.Test.YtapkmoakbfpkeaaGreatDoorRows
import GoSem.ClaimSeven
namespace Go.Proofs.YtapkmoakbfpkeaaGreatDoor
namespace Rows

/-- THE TIED CARD OF 'laws.FnAddrCircuit'. -/
def fnAddrCircuitCard : Claim7 := { stood := { row := fnAddrCircuitRow, standIns := [], harness := (true, "465d437df332eaac01c5d885d4751ce959d72069832d304722ade7adcc14153f"), looks := true }, kinds := [], alts := [], laidByText := true, laidKinds := [.sentinel, .sentinel, .sentinel, .data, .data, .data, .sentinel, .sentinel, .sentinel, .pinned, .data, .sentinel, .data, .sentinel, .sentinel, .sentinel, .data, .data, .sentinel, .sentinel, .sentinel, .sentinel], laidTests := true, laidLooks := .later }
def FnAddrCircuitCardSaid : Prop := Claim7.holds Tryz.pinned (.plain (OpenSpec.ofChange fnAddrCircuitSpec)) fnAddrCircuitCard

/-- THE TIED CARD OF 'laws.FnAddrTwice'. -/
def fnAddrTwiceCard : Claim7 := { stood := { row := fnAddrTwiceRow, standIns := [], harness := (true, "465d437df332eaac01c5d885d4751ce959d72069832d304722ade7adcc14153f"), looks := true }, kinds := [], alts := [], laidByText := true, laidKinds := [.sentinel, .sentinel, .sentinel, .data, .data, .data, .sentinel, .sentinel, .sentinel, .pinned, .data, .sentinel, .data, .sentinel, .sentinel, .sentinel, .data, .data, .sentinel, .sentinel, .sentinel, .sentinel], laidTests := true, laidLooks := .later }
def FnAddrTwiceCardSaid : Prop := Claim7.holds Tryz.pinned (.plain (OpenSpec.ofChange fnAddrTwiceSpec)) fnAddrTwiceCard

/-- THE TIED CARD OF 'laws.FnAddrDoors'. -/
def fnAddrDoorsCard : Claim7 := { stood := { row := fnAddrDoorsRow, standIns := [], harness := (true, "465d437df332eaac01c5d885d4751ce959d72069832d304722ade7adcc14153f"), looks := true }, kinds := [], alts := [], laidByText := true, laidKinds := [.sentinel, .sentinel, .sentinel, .data, .data, .data, .sentinel, .sentinel, .sentinel, .pinned, .data, .sentinel, .data, .sentinel, .sentinel, .sentinel, .data, .data, .sentinel, .sentinel, .sentinel, .sentinel], laidTests := true, laidLooks := .later }
def FnAddrDoorsCardSaid : Prop := Claim7.holds Tryz.pinned (.plain (OpenSpec.ofChange fnAddrDoorsSpec)) fnAddrDoorsCard

/-- THE TIED CARD OF 'laws.FnAddrInfos'. -/
def fnAddrInfosCard : Claim7 := { stood := { row := fnAddrInfosRow, standIns := [], harness := (true, "465d437df332eaac01c5d885d4751ce959d72069832d304722ade7adcc14153f"), looks := true }, kinds := [], alts := [], laidByText := true, laidKinds := [.sentinel, .sentinel, .sentinel, .data, .data, .data, .sentinel, .sentinel, .sentinel, .pinned, .data, .sentinel, .data, .sentinel, .sentinel, .sentinel, .data, .data, .sentinel, .sentinel, .sentinel, .sentinel], laidTests := true, laidLooks := .later }
def FnAddrInfosCardSaid : Prop := Claim7.holds Tryz.pinned (.plain (OpenSpec.ofChange fnAddrInfosSpec)) fnAddrInfosCard

/-- THE TIED CARD OF 'laws.FnAddrGroups'. -/
def fnAddrGroupsCard : Claim7 := { stood := { row := fnAddrGroupsRow, standIns := [], harness := (true, "465d437df332eaac01c5d885d4751ce959d72069832d304722ade7adcc14153f"), looks := true }, kinds := [], alts := [], laidByText := true, laidKinds := [.sentinel, .sentinel, .sentinel, .data, .data, .data, .sentinel, .sentinel, .sentinel, .pinned, .data, .sentinel, .data, .sentinel, .sentinel, .sentinel, .data, .data, .sentinel, .sentinel, .sentinel, .sentinel], laidTests := true, laidLooks := .later }
def FnAddrGroupsCardSaid : Prop := Claim7.holds Tryz.pinned (.plain (OpenSpec.ofChange fnAddrGroupsSpec)) fnAddrGroupsCard

/-- THE TIED CARD OF 'laws.FnAddrBack'. -/
def fnAddrBackCard : Claim7 := { stood := { row := fnAddrBackRow, standIns := [], harness := (true, "465d437df332eaac01c5d885d4751ce959d72069832d304722ade7adcc14153f"), looks := true }, kinds := [], alts := [], laidByText := true, laidKinds := [.sentinel, .sentinel, .sentinel, .data, .data, .data, .sentinel, .sentinel, .sentinel, .pinned, .data, .sentinel, .data, .sentinel, .sentinel, .sentinel, .data, .data, .sentinel, .sentinel, .sentinel, .sentinel], laidTests := true, laidLooks := .later }
def FnAddrBackCardSaid : Prop := Claim7.holds Tryz.pinned (.plain (OpenSpec.ofChange fnAddrBackSpec)) fnAddrBackCard

/-- THE TIED CARD OF 'laws.FnAddrSeveral'. -/
def fnAddrSeveralCard : Claim7 := { stood := { row := fnAddrSeveralRow, standIns := [], harness := (true, "465d437df332eaac01c5d885d4751ce959d72069832d304722ade7adcc14153f"), looks := true }, kinds := [], alts := [], laidByText := true, laidKinds := [.sentinel, .sentinel, .sentinel, .data, .data, .data, .sentinel, .sentinel, .sentinel, .pinned, .data, .sentinel, .data, .sentinel, .sentinel, .sentinel, .data, .data, .sentinel, .sentinel, .sentinel, .sentinel], laidTests := true, laidLooks := .later }
def FnAddrSeveralCardSaid : Prop := Claim7.holds Tryz.pinned (.plain (OpenSpec.ofChange fnAddrSeveralSpec)) fnAddrSeveralCard

/-- THE TIED CARD OF 'laws.FnAddrRecorded'. -/
def fnAddrRecordedCard : Claim7 := { stood := { row := fnAddrRecordedRow, standIns := [], harness := (true, "465d437df332eaac01c5d885d4751ce959d72069832d304722ade7adcc14153f"), looks := true }, kinds := [], alts := [], laidByText := true, laidKinds := [.sentinel, .sentinel, .sentinel, .data, .data, .data, .sentinel, .sentinel, .sentinel, .pinned, .data, .sentinel, .data, .sentinel, .sentinel, .sentinel, .data, .data, .sentinel, .sentinel, .sentinel, .sentinel, .sentinel, .sentinel, .sentinel, .sentinel, .sentinel, .sentinel, .sentinel], laidTests := true, laidLooks := .later }
def FnAddrRecordedCardSaid : Prop := Claim7.holds Tryz.pinned (.plain (OpenSpec.ofChange fnAddrRecordedSpec)) fnAddrRecordedCard

/-- THE SECOND FORM's CARD OF 'laws.FnAddrCircuit'. -/
def fnAddrCircuitUptoCard : Claim7 := { stood := { row := fnAddrCircuitUptoRow, standIns := [], harness := (true, "465d437df332eaac01c5d885d4751ce959d72069832d304722ade7adcc14153f"), looks := true }, kinds := [], alts := [], laidByText := true, laidKinds := [.sentinel, .sentinel, .sentinel, .data, .data, .data, .sentinel, .sentinel, .sentinel, .pinned, .data, .sentinel, .data, .sentinel, .sentinel, .sentinel, .data, .data, .sentinel, .sentinel, .sentinel, .sentinel], laidTests := true, laidLooks := .later }
def FnAddrCircuitUptoCardSaid : Prop := Claim7.holds Tryz.pinned (.plain (OpenSpec.upto fnAddrCircuitSpec)) fnAddrCircuitUptoCard

/-- THE SECOND FORM's CARD OF 'laws.FnAddrTwice'. -/
def fnAddrTwiceUptoCard : Claim7 := { stood := { row := fnAddrTwiceUptoRow, standIns := [], harness := (true, "465d437df332eaac01c5d885d4751ce959d72069832d304722ade7adcc14153f"), looks := true }, kinds := [], alts := [], laidByText := true, laidKinds := [.sentinel, .sentinel, .sentinel, .data, .data, .data, .sentinel, .sentinel, .sentinel, .pinned, .data, .sentinel, .data, .sentinel, .sentinel, .sentinel, .data, .data, .sentinel, .sentinel, .sentinel, .sentinel], laidTests := true, laidLooks := .later }
def FnAddrTwiceUptoCardSaid : Prop := Claim7.holds Tryz.pinned (.plain (OpenSpec.upto fnAddrTwiceSpec)) fnAddrTwiceUptoCard

/-- THE SECOND FORM's CARD OF 'laws.FnAddrDoors'. -/
def fnAddrDoorsUptoCard : Claim7 := { stood := { row := fnAddrDoorsUptoRow, standIns := [], harness := (true, "465d437df332eaac01c5d885d4751ce959d72069832d304722ade7adcc14153f"), looks := true }, kinds := [], alts := [], laidByText := true, laidKinds := [.sentinel, .sentinel, .sentinel, .data, .data, .data, .sentinel, .sentinel, .sentinel, .pinned, .data, .sentinel, .data, .sentinel, .sentinel, .sentinel, .data, .data, .sentinel, .sentinel, .sentinel, .sentinel], laidTests := true, laidLooks := .later }
def FnAddrDoorsUptoCardSaid : Prop := Claim7.holds Tryz.pinned (.plain (OpenSpec.upto fnAddrDoorsSpec)) fnAddrDoorsUptoCard

/-- THE SECOND FORM's CARD OF 'laws.FnAddrInfos'. -/
def fnAddrInfosUptoCard : Claim7 := { stood := { row := fnAddrInfosUptoRow, standIns := [], harness := (true, "465d437df332eaac01c5d885d4751ce959d72069832d304722ade7adcc14153f"), looks := true }, kinds := [], alts := [], laidByText := true, laidKinds := [.sentinel, .sentinel, .sentinel, .data, .data, .data, .sentinel, .sentinel, .sentinel, .pinned, .data, .sentinel, .data, .sentinel, .sentinel, .sentinel, .data, .data, .sentinel, .sentinel, .sentinel, .sentinel], laidTests := true, laidLooks := .later }
def FnAddrInfosUptoCardSaid : Prop := Claim7.holds Tryz.pinned (.plain (OpenSpec.upto fnAddrInfosSpec)) fnAddrInfosUptoCard

/-- THE SECOND FORM's CARD OF 'laws.FnAddrGroups'. -/
def fnAddrGroupsUptoCard : Claim7 := { stood := { row := fnAddrGroupsUptoRow, standIns := [], harness := (true, "465d437df332eaac01c5d885d4751ce959d72069832d304722ade7adcc14153f"), looks := true }, kinds := [], alts := [], laidByText := true, laidKinds := [.sentinel, .sentinel, .sentinel, .data, .data, .data, .sentinel, .sentinel, .sentinel, .pinned, .data, .sentinel, .data, .sentinel, .sentinel, .sentinel, .data, .data, .sentinel, .sentinel, .sentinel, .sentinel], laidTests := true, laidLooks := .later }
def FnAddrGroupsUptoCardSaid : Prop := Claim7.holds Tryz.pinned (.plain (OpenSpec.upto fnAddrGroupsSpec)) fnAddrGroupsUptoCard

/-- THE SECOND FORM's CARD OF 'laws.FnAddrBack'. -/
def fnAddrBackUptoCard : Claim7 := { stood := { row := fnAddrBackUptoRow, standIns := [], harness := (true, "465d437df332eaac01c5d885d4751ce959d72069832d304722ade7adcc14153f"), looks := true }, kinds := [], alts := [], laidByText := true, laidKinds := [.sentinel, .sentinel, .sentinel, .data, .data, .data, .sentinel, .sentinel, .sentinel, .pinned, .data, .sentinel, .data, .sentinel, .sentinel, .sentinel, .data, .data, .sentinel, .sentinel, .sentinel, .sentinel], laidTests := true, laidLooks := .later }
def FnAddrBackUptoCardSaid : Prop := Claim7.holds Tryz.pinned (.plain (OpenSpec.upto fnAddrBackSpec)) fnAddrBackUptoCard

/-- THE SECOND FORM's CARD OF 'laws.FnAddrSeveral'. -/
def fnAddrSeveralUptoCard : Claim7 := { stood := { row := fnAddrSeveralUptoRow, standIns := [], harness := (true, "465d437df332eaac01c5d885d4751ce959d72069832d304722ade7adcc14153f"), looks := true }, kinds := [], alts := [], laidByText := true, laidKinds := [.sentinel, .sentinel, .sentinel, .data, .data, .data, .sentinel, .sentinel, .sentinel, .pinned, .data, .sentinel, .data, .sentinel, .sentinel, .sentinel, .data, .data, .sentinel, .sentinel, .sentinel, .sentinel], laidTests := true, laidLooks := .later }
def FnAddrSeveralUptoCardSaid : Prop := Claim7.holds Tryz.pinned (.plain (OpenSpec.upto fnAddrSeveralSpec)) fnAddrSeveralUptoCard

/-- THE SECOND FORM's CARD OF 'laws.FnAddrRecorded'. -/
def fnAddrRecordedUptoCard : Claim7 := { stood := { row := fnAddrRecordedUptoRow, standIns := [], harness := (true, "465d437df332eaac01c5d885d4751ce959d72069832d304722ade7adcc14153f"), looks := true }, kinds := [], alts := [], laidByText := true, laidKinds := [.sentinel, .sentinel, .sentinel, .data, .data, .data, .sentinel, .sentinel, .sentinel, .pinned, .data, .sentinel, .data, .sentinel, .sentinel, .sentinel, .data, .data, .sentinel, .sentinel, .sentinel, .sentinel, .sentinel, .sentinel, .sentinel, .sentinel, .sentinel, .sentinel, .sentinel], laidTests := true, laidLooks := .later }
def FnAddrRecordedUptoCardSaid : Prop := Claim7.holds Tryz.pinned (.plain (OpenSpec.upto fnAddrRecordedSpec)) fnAddrRecordedUptoCard
end Rows
end Go.Proofs.YtapkmoakbfpkeaaGreatDoor
