/-
  DERIVED. GIVEN WITH THE SEED: THE CARDS: each row of YthejiimocbfagaaGreatDoorRows.lean that lists a variable, with what it lists TIED to the program's text (the seventh form; the later family's looks); each row that meets fmt, with fmt's text TOLD by the authors' own Lean function (tested against real Go, not proved from fmt's source: count such statements apart). THE CARD IS WHAT COUNTS. Prove the row's statement (the work); the ties are given (YthejiimocbfagaaGreatDoorTie.lean); close each card by the builder's one call (the guide's Derived/Test/ToyasCard.lean, 'card_holds'). Laid BY PROGRAM, IN A SANDBOX (cutbox-door.mjs). By AI agents, Wed Nov 11 2026. No macro, syntax, notation, axiom, sorry.
-/
import Derived.Test.YthejiimocbfagaaGreatDoorRows
import GoSem.ClaimSeven
namespace Go.Proofs.YthejiimocbfagaaGreatDoor
namespace Rows

/-- THE TIED CARD OF 'laws.FnCutOffsetFetchRequest'. -/
def fnCutOffsetFetchRequestCard : Claim7 := { stood := { row := fnCutOffsetFetchRequestRow, standIns := [], harness := (true, "db47738272ac467e69b00342e80ea34b322c59fc516e7b5665b422e35cbe31d2"), looks := false }, kinds := [], alts := [], laidByText := true, laidKinds := [.sentinel], laidTests := true, laidLooks := .later }
def FnCutOffsetFetchRequestCardSaid : Prop := Claim7.holds Tryz.pinned (.plain (OpenSpec.ofChange fnCutOffsetFetchRequestSpec)) fnCutOffsetFetchRequestCard

/-- THE TIED CARD OF 'laws.FnCutInitProducerIDRequest'. -/
def fnCutInitProducerIDRequestCard : Claim7 := { stood := { row := fnCutInitProducerIDRequestRow, standIns := [], harness := (true, "db47738272ac467e69b00342e80ea34b322c59fc516e7b5665b422e35cbe31d2"), looks := false }, kinds := [], alts := [], laidByText := true, laidKinds := [.sentinel], laidTests := true, laidLooks := .later }
def FnCutInitProducerIDRequestCardSaid : Prop := Claim7.holds Tryz.pinned (.plain (OpenSpec.ofChange fnCutInitProducerIDRequestSpec)) fnCutInitProducerIDRequestCard

/-- THE TIED CARD OF 'laws.FnCutAlterReplicaLogDirsResponse'. -/
def fnCutAlterReplicaLogDirsResponseCard : Claim7 := { stood := { row := fnCutAlterReplicaLogDirsResponseRow, standIns := [], harness := (true, "db47738272ac467e69b00342e80ea34b322c59fc516e7b5665b422e35cbe31d2"), looks := false }, kinds := [], alts := [], laidByText := true, laidKinds := [.sentinel], laidTests := true, laidLooks := .later }
def FnCutAlterReplicaLogDirsResponseCardSaid : Prop := Claim7.holds Tryz.pinned (.plain (OpenSpec.ofChange fnCutAlterReplicaLogDirsResponseSpec)) fnCutAlterReplicaLogDirsResponseCard

/-- THE TIED CARD OF 'laws.FnCutDeleteShareGroupStateRequest'. -/
def fnCutDeleteShareGroupStateRequestCard : Claim7 := { stood := { row := fnCutDeleteShareGroupStateRequestRow, standIns := [], harness := (true, "db47738272ac467e69b00342e80ea34b322c59fc516e7b5665b422e35cbe31d2"), looks := false }, kinds := [], alts := [], laidByText := true, laidKinds := [.sentinel], laidTests := true, laidLooks := .later }
def FnCutDeleteShareGroupStateRequestCardSaid : Prop := Claim7.holds Tryz.pinned (.plain (OpenSpec.ofChange fnCutDeleteShareGroupStateRequestSpec)) fnCutDeleteShareGroupStateRequestCard

/-- THE TIED CARD OF 'laws.FnCutListGroupsResponse'. -/
def fnCutListGroupsResponseCard : Claim7 := { stood := { row := fnCutListGroupsResponseRow, standIns := [], harness := (true, "db47738272ac467e69b00342e80ea34b322c59fc516e7b5665b422e35cbe31d2"), looks := false }, kinds := [], alts := [], laidByText := true, laidKinds := [.sentinel], laidTests := true, laidLooks := .later }
def FnCutListGroupsResponseCardSaid : Prop := Claim7.holds Tryz.pinned (.plain (OpenSpec.ofChange fnCutListGroupsResponseSpec)) fnCutListGroupsResponseCard

/-- THE TIED CARD OF 'laws.FnCutShareGroupHeartbeatRequest'. -/
def fnCutShareGroupHeartbeatRequestCard : Claim7 := { stood := { row := fnCutShareGroupHeartbeatRequestRow, standIns := [], harness := (true, "db47738272ac467e69b00342e80ea34b322c59fc516e7b5665b422e35cbe31d2"), looks := false }, kinds := [], alts := [], laidByText := true, laidKinds := [.sentinel], laidTests := true, laidLooks := .later }
def FnCutShareGroupHeartbeatRequestCardSaid : Prop := Claim7.holds Tryz.pinned (.plain (OpenSpec.ofChange fnCutShareGroupHeartbeatRequestSpec)) fnCutShareGroupHeartbeatRequestCard

/-- THE TIED CARD OF 'laws.FnCutCreateDelegationTokenResponse'. -/
def fnCutCreateDelegationTokenResponseCard : Claim7 := { stood := { row := fnCutCreateDelegationTokenResponseRow, standIns := [], harness := (true, "db47738272ac467e69b00342e80ea34b322c59fc516e7b5665b422e35cbe31d2"), looks := false }, kinds := [], alts := [], laidByText := true, laidKinds := [.sentinel], laidTests := true, laidLooks := .later }
def FnCutCreateDelegationTokenResponseCardSaid : Prop := Claim7.holds Tryz.pinned (.plain (OpenSpec.ofChange fnCutCreateDelegationTokenResponseSpec)) fnCutCreateDelegationTokenResponseCard

/-- THE TIED CARD OF 'laws.FnCutAddRaftVoterRequest'. -/
def fnCutAddRaftVoterRequestCard : Claim7 := { stood := { row := fnCutAddRaftVoterRequestRow, standIns := [], harness := (true, "db47738272ac467e69b00342e80ea34b322c59fc516e7b5665b422e35cbe31d2"), looks := false }, kinds := [], alts := [], laidByText := true, laidKinds := [.sentinel], laidTests := true, laidLooks := .later }
def FnCutAddRaftVoterRequestCardSaid : Prop := Claim7.holds Tryz.pinned (.plain (OpenSpec.ofChange fnCutAddRaftVoterRequestSpec)) fnCutAddRaftVoterRequestCard

/-- THE TIED CARD OF 'laws.FnCutWriteShareGroupStateRequest'. -/
def fnCutWriteShareGroupStateRequestCard : Claim7 := { stood := { row := fnCutWriteShareGroupStateRequestRow, standIns := [], harness := (true, "db47738272ac467e69b00342e80ea34b322c59fc516e7b5665b422e35cbe31d2"), looks := false }, kinds := [], alts := [], laidByText := true, laidKinds := [.sentinel], laidTests := true, laidLooks := .later }
def FnCutWriteShareGroupStateRequestCardSaid : Prop := Claim7.holds Tryz.pinned (.plain (OpenSpec.ofChange fnCutWriteShareGroupStateRequestSpec)) fnCutWriteShareGroupStateRequestCard

/-- THE TIED CARD OF 'laws.FnCutDescribeDelegationTokenResponse'. -/
def fnCutDescribeDelegationTokenResponseCard : Claim7 := { stood := { row := fnCutDescribeDelegationTokenResponseRow, standIns := [], harness := (true, "db47738272ac467e69b00342e80ea34b322c59fc516e7b5665b422e35cbe31d2"), looks := false }, kinds := [], alts := [], laidByText := true, laidKinds := [.sentinel], laidTests := true, laidLooks := .later }
def FnCutDescribeDelegationTokenResponseCardSaid : Prop := Claim7.holds Tryz.pinned (.plain (OpenSpec.ofChange fnCutDescribeDelegationTokenResponseSpec)) fnCutDescribeDelegationTokenResponseCard

/-- THE SECOND FORM's CARD OF 'laws.FnCutOffsetFetchRequest'. -/
def fnCutOffsetFetchRequestUptoCard : Claim7 := { stood := { row := fnCutOffsetFetchRequestUptoRow, standIns := [], harness := (true, "db47738272ac467e69b00342e80ea34b322c59fc516e7b5665b422e35cbe31d2"), looks := false }, kinds := [], alts := [], laidByText := true, laidKinds := [.sentinel], laidTests := true, laidLooks := .later }
def FnCutOffsetFetchRequestUptoCardSaid : Prop := Claim7.holds Tryz.pinned (.plain (OpenSpec.upto fnCutOffsetFetchRequestSpec)) fnCutOffsetFetchRequestUptoCard

/-- THE SECOND FORM's CARD OF 'laws.FnCutInitProducerIDRequest'. -/
def fnCutInitProducerIDRequestUptoCard : Claim7 := { stood := { row := fnCutInitProducerIDRequestUptoRow, standIns := [], harness := (true, "db47738272ac467e69b00342e80ea34b322c59fc516e7b5665b422e35cbe31d2"), looks := false }, kinds := [], alts := [], laidByText := true, laidKinds := [.sentinel], laidTests := true, laidLooks := .later }
def FnCutInitProducerIDRequestUptoCardSaid : Prop := Claim7.holds Tryz.pinned (.plain (OpenSpec.upto fnCutInitProducerIDRequestSpec)) fnCutInitProducerIDRequestUptoCard

/-- THE SECOND FORM's CARD OF 'laws.FnCutAlterReplicaLogDirsResponse'. -/
def fnCutAlterReplicaLogDirsResponseUptoCard : Claim7 := { stood := { row := fnCutAlterReplicaLogDirsResponseUptoRow, standIns := [], harness := (true, "db47738272ac467e69b00342e80ea34b322c59fc516e7b5665b422e35cbe31d2"), looks := false }, kinds := [], alts := [], laidByText := true, laidKinds := [.sentinel], laidTests := true, laidLooks := .later }
def FnCutAlterReplicaLogDirsResponseUptoCardSaid : Prop := Claim7.holds Tryz.pinned (.plain (OpenSpec.upto fnCutAlterReplicaLogDirsResponseSpec)) fnCutAlterReplicaLogDirsResponseUptoCard

/-- THE SECOND FORM's CARD OF 'laws.FnCutDeleteShareGroupStateRequest'. -/
def fnCutDeleteShareGroupStateRequestUptoCard : Claim7 := { stood := { row := fnCutDeleteShareGroupStateRequestUptoRow, standIns := [], harness := (true, "db47738272ac467e69b00342e80ea34b322c59fc516e7b5665b422e35cbe31d2"), looks := false }, kinds := [], alts := [], laidByText := true, laidKinds := [.sentinel], laidTests := true, laidLooks := .later }
def FnCutDeleteShareGroupStateRequestUptoCardSaid : Prop := Claim7.holds Tryz.pinned (.plain (OpenSpec.upto fnCutDeleteShareGroupStateRequestSpec)) fnCutDeleteShareGroupStateRequestUptoCard

/-- THE SECOND FORM's CARD OF 'laws.FnCutListGroupsResponse'. -/
def fnCutListGroupsResponseUptoCard : Claim7 := { stood := { row := fnCutListGroupsResponseUptoRow, standIns := [], harness := (true, "db47738272ac467e69b00342e80ea34b322c59fc516e7b5665b422e35cbe31d2"), looks := false }, kinds := [], alts := [], laidByText := true, laidKinds := [.sentinel], laidTests := true, laidLooks := .later }
def FnCutListGroupsResponseUptoCardSaid : Prop := Claim7.holds Tryz.pinned (.plain (OpenSpec.upto fnCutListGroupsResponseSpec)) fnCutListGroupsResponseUptoCard

/-- THE SECOND FORM's CARD OF 'laws.FnCutShareGroupHeartbeatRequest'. -/
def fnCutShareGroupHeartbeatRequestUptoCard : Claim7 := { stood := { row := fnCutShareGroupHeartbeatRequestUptoRow, standIns := [], harness := (true, "db47738272ac467e69b00342e80ea34b322c59fc516e7b5665b422e35cbe31d2"), looks := false }, kinds := [], alts := [], laidByText := true, laidKinds := [.sentinel], laidTests := true, laidLooks := .later }
def FnCutShareGroupHeartbeatRequestUptoCardSaid : Prop := Claim7.holds Tryz.pinned (.plain (OpenSpec.upto fnCutShareGroupHeartbeatRequestSpec)) fnCutShareGroupHeartbeatRequestUptoCard

/-- THE SECOND FORM's CARD OF 'laws.FnCutCreateDelegationTokenResponse'. -/
def fnCutCreateDelegationTokenResponseUptoCard : Claim7 := { stood := { row := fnCutCreateDelegationTokenResponseUptoRow, standIns := [], harness := (true, "db47738272ac467e69b00342e80ea34b322c59fc516e7b5665b422e35cbe31d2"), looks := false }, kinds := [], alts := [], laidByText := true, laidKinds := [.sentinel], laidTests := true, laidLooks := .later }
def FnCutCreateDelegationTokenResponseUptoCardSaid : Prop := Claim7.holds Tryz.pinned (.plain (OpenSpec.upto fnCutCreateDelegationTokenResponseSpec)) fnCutCreateDelegationTokenResponseUptoCard

/-- THE SECOND FORM's CARD OF 'laws.FnCutAddRaftVoterRequest'. -/
def fnCutAddRaftVoterRequestUptoCard : Claim7 := { stood := { row := fnCutAddRaftVoterRequestUptoRow, standIns := [], harness := (true, "db47738272ac467e69b00342e80ea34b322c59fc516e7b5665b422e35cbe31d2"), looks := false }, kinds := [], alts := [], laidByText := true, laidKinds := [.sentinel], laidTests := true, laidLooks := .later }
def FnCutAddRaftVoterRequestUptoCardSaid : Prop := Claim7.holds Tryz.pinned (.plain (OpenSpec.upto fnCutAddRaftVoterRequestSpec)) fnCutAddRaftVoterRequestUptoCard

/-- THE SECOND FORM's CARD OF 'laws.FnCutWriteShareGroupStateRequest'. -/
def fnCutWriteShareGroupStateRequestUptoCard : Claim7 := { stood := { row := fnCutWriteShareGroupStateRequestUptoRow, standIns := [], harness := (true, "db47738272ac467e69b00342e80ea34b322c59fc516e7b5665b422e35cbe31d2"), looks := false }, kinds := [], alts := [], laidByText := true, laidKinds := [.sentinel], laidTests := true, laidLooks := .later }
def FnCutWriteShareGroupStateRequestUptoCardSaid : Prop := Claim7.holds Tryz.pinned (.plain (OpenSpec.upto fnCutWriteShareGroupStateRequestSpec)) fnCutWriteShareGroupStateRequestUptoCard

/-- THE SECOND FORM's CARD OF 'laws.FnCutDescribeDelegationTokenResponse'. -/
def fnCutDescribeDelegationTokenResponseUptoCard : Claim7 := { stood := { row := fnCutDescribeDelegationTokenResponseUptoRow, standIns := [], harness := (true, "db47738272ac467e69b00342e80ea34b322c59fc516e7b5665b422e35cbe31d2"), looks := false }, kinds := [], alts := [], laidByText := true, laidKinds := [.sentinel], laidTests := true, laidLooks := .later }
def FnCutDescribeDelegationTokenResponseUptoCardSaid : Prop := Claim7.holds Tryz.pinned (.plain (OpenSpec.upto fnCutDescribeDelegationTokenResponseSpec)) fnCutDescribeDelegationTokenResponseUptoCard
end Rows
end Go.Proofs.YthejiimocbfagaaGreatDoor
