/-
  DERIVED. GIVEN WITH THE SEED: THE CARDS: each row of YtkfiacolgkocfaaGreatDoorRows.lean that lists a variable, with what it lists TIED to the program's text (the seventh form; the later family's looks); each row that meets fmt, with fmt's text TOLD by the authors' own Lean function (tested against real Go, not proved from fmt's source: count such statements apart). THE CARD IS WHAT COUNTS. Prove the row's statement (the work); the ties are given (YtkfiacolgkocfaaGreatDoorTie.lean); close each card by the builder's one call (the guide's Derived/Test/ToyasCard.lean, 'card_holds'). Laid BY PROGRAM, IN A SANDBOX (cutbox-door.mjs). By AI agents, Wed Nov 11 2026. No macro, syntax, notation, axiom, sorry.
-/
import Derived.Test.YtkfiacolgkocfaaGreatDoorRows
import GoSem.ClaimSeven
namespace Go.Proofs.YtkfiacolgkocfaaGreatDoor
namespace Rows

/-- THE TIED CARD OF 'laws.FnAddrRight'. -/
def fnAddrRightCard : Claim7 := { stood := { row := fnAddrRightRow, standIns := [], harness := (true, "6fa0707726a56c46bdf83ad8e2ef34f3b996447b8946ceba7a8881cf21dafacc"), looks := true }, kinds := [], alts := [], laidByText := true, laidKinds := [.sentinel, .sentinel, .sentinel, .data, .data, .data, .sentinel, .sentinel, .sentinel, .pinned, .data, .sentinel, .data, .sentinel, .sentinel, .sentinel, .data, .data, .sentinel, .sentinel, .sentinel], laidTests := true, laidLooks := .later }
def FnAddrRightCardSaid : Prop := Claim7.holds Tryz.pinned (.plain (OpenSpec.ofChange fnAddrRightSpec)) fnAddrRightCard

/-- THE TIED CARD OF 'laws.FnAddrPeer'. -/
def fnAddrPeerCard : Claim7 := { stood := { row := fnAddrPeerRow, standIns := [], harness := (true, "6fa0707726a56c46bdf83ad8e2ef34f3b996447b8946ceba7a8881cf21dafacc"), looks := true }, kinds := [], alts := [], laidByText := true, laidKinds := [.sentinel, .sentinel, .sentinel, .data, .data, .data, .sentinel, .sentinel, .sentinel, .pinned, .data, .sentinel, .data, .sentinel, .sentinel, .sentinel, .data, .data, .sentinel, .sentinel, .sentinel, .sentinel], laidTests := true, laidLooks := .later }
def FnAddrPeerCardSaid : Prop := Claim7.holds Tryz.pinned (.plain (OpenSpec.ofChange fnAddrPeerSpec)) fnAddrPeerCard

/-- THE TIED CARD OF 'laws.FnAddrJoined'. -/
def fnAddrJoinedCard : Claim7 := { stood := { row := fnAddrJoinedRow, standIns := [], harness := (true, "6fa0707726a56c46bdf83ad8e2ef34f3b996447b8946ceba7a8881cf21dafacc"), looks := true }, kinds := [], alts := [], laidByText := true, laidKinds := [.sentinel, .sentinel, .sentinel, .data, .data, .data, .sentinel, .sentinel, .sentinel, .pinned, .data, .sentinel, .data, .sentinel, .sentinel, .sentinel, .data, .data, .sentinel, .sentinel, .sentinel, .sentinel], laidTests := true, laidLooks := .later }
def FnAddrJoinedCardSaid : Prop := Claim7.holds Tryz.pinned (.plain (OpenSpec.ofChange fnAddrJoinedSpec)) fnAddrJoinedCard

/-- THE TIED CARD OF 'laws.FnProtocolIDs'. -/
def fnProtocolIDsCard : Claim7 := { stood := { row := fnProtocolIDsRow, standIns := [], harness := (true, "6fa0707726a56c46bdf83ad8e2ef34f3b996447b8946ceba7a8881cf21dafacc"), looks := true }, kinds := [], alts := [], laidByText := true, laidKinds := [.sentinel, .sentinel, .sentinel, .data, .data, .data, .sentinel, .sentinel, .sentinel, .pinned, .data, .sentinel, .data, .sentinel, .sentinel, .sentinel, .data, .data, .sentinel, .sentinel, .sentinel], laidTests := true, laidLooks := .later }
def FnProtocolIDsCardSaid : Prop := Claim7.holds Tryz.pinned (.plain (OpenSpec.ofChange fnProtocolIDsSpec)) fnProtocolIDsCard

/-- THE TIED CARD OF 'laws.FnAddrCircuit'. -/
def fnAddrCircuitCard : Claim7 := { stood := { row := fnAddrCircuitRow, standIns := [], harness := (true, "6fa0707726a56c46bdf83ad8e2ef34f3b996447b8946ceba7a8881cf21dafacc"), looks := true }, kinds := [], alts := [], laidByText := true, laidKinds := [.sentinel, .sentinel, .sentinel, .data, .data, .data, .sentinel, .sentinel, .sentinel, .pinned, .data, .sentinel, .data, .sentinel, .sentinel, .sentinel, .data, .data, .sentinel, .sentinel, .sentinel, .sentinel], laidTests := true, laidLooks := .later }
def FnAddrCircuitCardSaid : Prop := Claim7.holds Tryz.pinned (.plain (OpenSpec.ofChange fnAddrCircuitSpec)) fnAddrCircuitCard

/-- THE SECOND FORM's CARD OF 'laws.FnAddrRight'. -/
def fnAddrRightUptoCard : Claim7 := { stood := { row := fnAddrRightUptoRow, standIns := [], harness := (true, "6fa0707726a56c46bdf83ad8e2ef34f3b996447b8946ceba7a8881cf21dafacc"), looks := true }, kinds := [], alts := [], laidByText := true, laidKinds := [.sentinel, .sentinel, .sentinel, .data, .data, .data, .sentinel, .sentinel, .sentinel, .pinned, .data, .sentinel, .data, .sentinel, .sentinel, .sentinel, .data, .data, .sentinel, .sentinel, .sentinel], laidTests := true, laidLooks := .later }
def FnAddrRightUptoCardSaid : Prop := Claim7.holds Tryz.pinned (.plain (OpenSpec.upto fnAddrRightSpec)) fnAddrRightUptoCard

/-- THE SECOND FORM's CARD OF 'laws.FnAddrPeer'. -/
def fnAddrPeerUptoCard : Claim7 := { stood := { row := fnAddrPeerUptoRow, standIns := [], harness := (true, "6fa0707726a56c46bdf83ad8e2ef34f3b996447b8946ceba7a8881cf21dafacc"), looks := true }, kinds := [], alts := [], laidByText := true, laidKinds := [.sentinel, .sentinel, .sentinel, .data, .data, .data, .sentinel, .sentinel, .sentinel, .pinned, .data, .sentinel, .data, .sentinel, .sentinel, .sentinel, .data, .data, .sentinel, .sentinel, .sentinel, .sentinel], laidTests := true, laidLooks := .later }
def FnAddrPeerUptoCardSaid : Prop := Claim7.holds Tryz.pinned (.plain (OpenSpec.upto fnAddrPeerSpec)) fnAddrPeerUptoCard

/-- THE SECOND FORM's CARD OF 'laws.FnAddrJoined'. -/
def fnAddrJoinedUptoCard : Claim7 := { stood := { row := fnAddrJoinedUptoRow, standIns := [], harness := (true, "6fa0707726a56c46bdf83ad8e2ef34f3b996447b8946ceba7a8881cf21dafacc"), looks := true }, kinds := [], alts := [], laidByText := true, laidKinds := [.sentinel, .sentinel, .sentinel, .data, .data, .data, .sentinel, .sentinel, .sentinel, .pinned, .data, .sentinel, .data, .sentinel, .sentinel, .sentinel, .data, .data, .sentinel, .sentinel, .sentinel, .sentinel], laidTests := true, laidLooks := .later }
def FnAddrJoinedUptoCardSaid : Prop := Claim7.holds Tryz.pinned (.plain (OpenSpec.upto fnAddrJoinedSpec)) fnAddrJoinedUptoCard

/-- THE SECOND FORM's CARD OF 'laws.FnProtocolIDs'. -/
def fnProtocolIDsUptoCard : Claim7 := { stood := { row := fnProtocolIDsUptoRow, standIns := [], harness := (true, "6fa0707726a56c46bdf83ad8e2ef34f3b996447b8946ceba7a8881cf21dafacc"), looks := true }, kinds := [], alts := [], laidByText := true, laidKinds := [.sentinel, .sentinel, .sentinel, .data, .data, .data, .sentinel, .sentinel, .sentinel, .pinned, .data, .sentinel, .data, .sentinel, .sentinel, .sentinel, .data, .data, .sentinel, .sentinel, .sentinel], laidTests := true, laidLooks := .later }
def FnProtocolIDsUptoCardSaid : Prop := Claim7.holds Tryz.pinned (.plain (OpenSpec.upto fnProtocolIDsSpec)) fnProtocolIDsUptoCard

/-- THE SECOND FORM's CARD OF 'laws.FnAddrCircuit'. -/
def fnAddrCircuitUptoCard : Claim7 := { stood := { row := fnAddrCircuitUptoRow, standIns := [], harness := (true, "6fa0707726a56c46bdf83ad8e2ef34f3b996447b8946ceba7a8881cf21dafacc"), looks := true }, kinds := [], alts := [], laidByText := true, laidKinds := [.sentinel, .sentinel, .sentinel, .data, .data, .data, .sentinel, .sentinel, .sentinel, .pinned, .data, .sentinel, .data, .sentinel, .sentinel, .sentinel, .data, .data, .sentinel, .sentinel, .sentinel, .sentinel], laidTests := true, laidLooks := .later }
def FnAddrCircuitUptoCardSaid : Prop := Claim7.holds Tryz.pinned (.plain (OpenSpec.upto fnAddrCircuitSpec)) fnAddrCircuitUptoCard
end Rows
end Go.Proofs.YtkfiacolgkocfaaGreatDoor
