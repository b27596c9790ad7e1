/-
  DERIVED. GIVEN WITH THE SEED: THE CARDS: each row of YtkakokckdlkbpaaGreatDoorRows.lean that lists a variable, with what it lists TIED to the program's text (the seventh form; the later family's looks); each row that meets fmt, with fmt's text TOLD by the authors' own Lean function (tested against real Go, not proved from fmt's source: count such statements apart). THE CARD IS WHAT COUNTS. Prove the row's statement (the work); the ties are given (YtkakokckdlkbpaaGreatDoorTie.lean); close each card by the builder's one call (the guide's Derived/Test/ToyasCard.lean, 'card_holds'). Laid BY PROGRAM, IN A SANDBOX (cutbox-door.mjs). By AI agents, Wed Nov 11 2026. No macro, syntax, notation, axiom, sorry.
-/
import Derived.Test.YtkakokckdlkbpaaGreatDoorRows
import GoSem.ClaimSeven
namespace Go.Proofs.YtkakokckdlkbpaaGreatDoor
namespace Rows

/-- THE TIED CARD OF 'laws.FnAgainShareFetchRequest'. -/
def fnAgainShareFetchRequestCard : Claim7 := { stood := { row := fnAgainShareFetchRequestRow, standIns := [], harness := (true, "2a8792501963f26bf44e754ef62a4e1b09da5535a61e44f1ff31af7e00df0131"), looks := false }, kinds := [], alts := [], laidByText := true, laidKinds := [.sentinel], laidTests := true, laidLooks := .later }
def FnAgainShareFetchRequestCardSaid : Prop := Claim7.holds Tryz.pinned (.plain (OpenSpec.ofChange fnAgainShareFetchRequestSpec)) fnAgainShareFetchRequestCard

/-- THE TIED CARD OF 'laws.FnAgainStreamsGroupTopologyDescriptionUpdateResponse'. -/
def fnAgainStreamsGroupTopologyDescriptionUpdateResponseCard : Claim7 := { stood := { row := fnAgainStreamsGroupTopologyDescriptionUpdateResponseRow, standIns := [], harness := (true, "2a8792501963f26bf44e754ef62a4e1b09da5535a61e44f1ff31af7e00df0131"), looks := false }, kinds := [], alts := [], laidByText := true, laidKinds := [.sentinel], laidTests := true, laidLooks := .later }
def FnAgainStreamsGroupTopologyDescriptionUpdateResponseCardSaid : Prop := Claim7.holds Tryz.pinned (.plain (OpenSpec.ofChange fnAgainStreamsGroupTopologyDescriptionUpdateResponseSpec)) fnAgainStreamsGroupTopologyDescriptionUpdateResponseCard

/-- THE TIED CARD OF 'laws.FnAgainDeleteRecordsRequest'. -/
def fnAgainDeleteRecordsRequestCard : Claim7 := { stood := { row := fnAgainDeleteRecordsRequestRow, standIns := [], harness := (true, "2a8792501963f26bf44e754ef62a4e1b09da5535a61e44f1ff31af7e00df0131"), looks := false }, kinds := [], alts := [], laidByText := true, laidKinds := [.sentinel], laidTests := true, laidLooks := .later }
def FnAgainDeleteRecordsRequestCardSaid : Prop := Claim7.holds Tryz.pinned (.plain (OpenSpec.ofChange fnAgainDeleteRecordsRequestSpec)) fnAgainDeleteRecordsRequestCard

/-- THE TIED CARD OF 'laws.FnAgainDescribeShareGroupOffsetsRequest'. -/
def fnAgainDescribeShareGroupOffsetsRequestCard : Claim7 := { stood := { row := fnAgainDescribeShareGroupOffsetsRequestRow, standIns := [], harness := (true, "2a8792501963f26bf44e754ef62a4e1b09da5535a61e44f1ff31af7e00df0131"), looks := false }, kinds := [], alts := [], laidByText := true, laidKinds := [.sentinel], laidTests := true, laidLooks := .later }
def FnAgainDescribeShareGroupOffsetsRequestCardSaid : Prop := Claim7.holds Tryz.pinned (.plain (OpenSpec.ofChange fnAgainDescribeShareGroupOffsetsRequestSpec)) fnAgainDescribeShareGroupOffsetsRequestCard

/-- THE TIED CARD OF 'laws.FnAgainUpdateRaftVoterRequest'. -/
def fnAgainUpdateRaftVoterRequestCard : Claim7 := { stood := { row := fnAgainUpdateRaftVoterRequestRow, standIns := [], harness := (true, "2a8792501963f26bf44e754ef62a4e1b09da5535a61e44f1ff31af7e00df0131"), looks := false }, kinds := [], alts := [], laidByText := true, laidKinds := [.sentinel], laidTests := true, laidLooks := .later }
def FnAgainUpdateRaftVoterRequestCardSaid : Prop := Claim7.holds Tryz.pinned (.plain (OpenSpec.ofChange fnAgainUpdateRaftVoterRequestSpec)) fnAgainUpdateRaftVoterRequestCard

/-- THE TIED CARD OF 'laws.FnAgainAlterPartitionAssignmentsResponse'. -/
def fnAgainAlterPartitionAssignmentsResponseCard : Claim7 := { stood := { row := fnAgainAlterPartitionAssignmentsResponseRow, standIns := [], harness := (true, "2a8792501963f26bf44e754ef62a4e1b09da5535a61e44f1ff31af7e00df0131"), looks := false }, kinds := [], alts := [], laidByText := true, laidKinds := [.sentinel], laidTests := true, laidLooks := .later }
def FnAgainAlterPartitionAssignmentsResponseCardSaid : Prop := Claim7.holds Tryz.pinned (.plain (OpenSpec.ofChange fnAgainAlterPartitionAssignmentsResponseSpec)) fnAgainAlterPartitionAssignmentsResponseCard

/-- THE TIED CARD OF 'laws.FnAgainDescribeClusterResponse'. -/
def fnAgainDescribeClusterResponseCard : Claim7 := { stood := { row := fnAgainDescribeClusterResponseRow, standIns := [], harness := (true, "2a8792501963f26bf44e754ef62a4e1b09da5535a61e44f1ff31af7e00df0131"), looks := false }, kinds := [], alts := [], laidByText := true, laidKinds := [.sentinel], laidTests := true, laidLooks := .later }
def FnAgainDescribeClusterResponseCardSaid : Prop := Claim7.holds Tryz.pinned (.plain (OpenSpec.ofChange fnAgainDescribeClusterResponseSpec)) fnAgainDescribeClusterResponseCard

/-- THE TIED CARD OF 'laws.FnAgainReadShareGroupStateResponse'. -/
def fnAgainReadShareGroupStateResponseCard : Claim7 := { stood := { row := fnAgainReadShareGroupStateResponseRow, standIns := [], harness := (true, "2a8792501963f26bf44e754ef62a4e1b09da5535a61e44f1ff31af7e00df0131"), looks := false }, kinds := [], alts := [], laidByText := true, laidKinds := [.sentinel], laidTests := true, laidLooks := .later }
def FnAgainReadShareGroupStateResponseCardSaid : Prop := Claim7.holds Tryz.pinned (.plain (OpenSpec.ofChange fnAgainReadShareGroupStateResponseSpec)) fnAgainReadShareGroupStateResponseCard

/-- THE TIED CARD OF 'laws.FnAgainBeginQuorumEpochRequest'. -/
def fnAgainBeginQuorumEpochRequestCard : Claim7 := { stood := { row := fnAgainBeginQuorumEpochRequestRow, standIns := [], harness := (true, "2a8792501963f26bf44e754ef62a4e1b09da5535a61e44f1ff31af7e00df0131"), looks := false }, kinds := [], alts := [], laidByText := true, laidKinds := [.sentinel], laidTests := true, laidLooks := .later }
def FnAgainBeginQuorumEpochRequestCardSaid : Prop := Claim7.holds Tryz.pinned (.plain (OpenSpec.ofChange fnAgainBeginQuorumEpochRequestSpec)) fnAgainBeginQuorumEpochRequestCard

/-- THE TIED CARD OF 'laws.FnAgainOffsetCommitRequest'. -/
def fnAgainOffsetCommitRequestCard : Claim7 := { stood := { row := fnAgainOffsetCommitRequestRow, standIns := [], harness := (true, "2a8792501963f26bf44e754ef62a4e1b09da5535a61e44f1ff31af7e00df0131"), looks := false }, kinds := [], alts := [], laidByText := true, laidKinds := [.sentinel], laidTests := true, laidLooks := .later }
def FnAgainOffsetCommitRequestCardSaid : Prop := Claim7.holds Tryz.pinned (.plain (OpenSpec.ofChange fnAgainOffsetCommitRequestSpec)) fnAgainOffsetCommitRequestCard

/-- THE SECOND FORM's CARD OF 'laws.FnAgainShareFetchRequest'. -/
def fnAgainShareFetchRequestUptoCard : Claim7 := { stood := { row := fnAgainShareFetchRequestUptoRow, standIns := [], harness := (true, "2a8792501963f26bf44e754ef62a4e1b09da5535a61e44f1ff31af7e00df0131"), looks := false }, kinds := [], alts := [], laidByText := true, laidKinds := [.sentinel], laidTests := true, laidLooks := .later }
def FnAgainShareFetchRequestUptoCardSaid : Prop := Claim7.holds Tryz.pinned (.plain (OpenSpec.upto fnAgainShareFetchRequestSpec)) fnAgainShareFetchRequestUptoCard

/-- THE SECOND FORM's CARD OF 'laws.FnAgainStreamsGroupTopologyDescriptionUpdateResponse'. -/
def fnAgainStreamsGroupTopologyDescriptionUpdateResponseUptoCard : Claim7 := { stood := { row := fnAgainStreamsGroupTopologyDescriptionUpdateResponseUptoRow, standIns := [], harness := (true, "2a8792501963f26bf44e754ef62a4e1b09da5535a61e44f1ff31af7e00df0131"), looks := false }, kinds := [], alts := [], laidByText := true, laidKinds := [.sentinel], laidTests := true, laidLooks := .later }
def FnAgainStreamsGroupTopologyDescriptionUpdateResponseUptoCardSaid : Prop := Claim7.holds Tryz.pinned (.plain (OpenSpec.upto fnAgainStreamsGroupTopologyDescriptionUpdateResponseSpec)) fnAgainStreamsGroupTopologyDescriptionUpdateResponseUptoCard

/-- THE SECOND FORM's CARD OF 'laws.FnAgainDeleteRecordsRequest'. -/
def fnAgainDeleteRecordsRequestUptoCard : Claim7 := { stood := { row := fnAgainDeleteRecordsRequestUptoRow, standIns := [], harness := (true, "2a8792501963f26bf44e754ef62a4e1b09da5535a61e44f1ff31af7e00df0131"), looks := false }, kinds := [], alts := [], laidByText := true, laidKinds := [.sentinel], laidTests := true, laidLooks := .later }
def FnAgainDeleteRecordsRequestUptoCardSaid : Prop := Claim7.holds Tryz.pinned (.plain (OpenSpec.upto fnAgainDeleteRecordsRequestSpec)) fnAgainDeleteRecordsRequestUptoCard

/-- THE SECOND FORM's CARD OF 'laws.FnAgainDescribeShareGroupOffsetsRequest'. -/
def fnAgainDescribeShareGroupOffsetsRequestUptoCard : Claim7 := { stood := { row := fnAgainDescribeShareGroupOffsetsRequestUptoRow, standIns := [], harness := (true, "2a8792501963f26bf44e754ef62a4e1b09da5535a61e44f1ff31af7e00df0131"), looks := false }, kinds := [], alts := [], laidByText := true, laidKinds := [.sentinel], laidTests := true, laidLooks := .later }
def FnAgainDescribeShareGroupOffsetsRequestUptoCardSaid : Prop := Claim7.holds Tryz.pinned (.plain (OpenSpec.upto fnAgainDescribeShareGroupOffsetsRequestSpec)) fnAgainDescribeShareGroupOffsetsRequestUptoCard

/-- THE SECOND FORM's CARD OF 'laws.FnAgainUpdateRaftVoterRequest'. -/
def fnAgainUpdateRaftVoterRequestUptoCard : Claim7 := { stood := { row := fnAgainUpdateRaftVoterRequestUptoRow, standIns := [], harness := (true, "2a8792501963f26bf44e754ef62a4e1b09da5535a61e44f1ff31af7e00df0131"), looks := false }, kinds := [], alts := [], laidByText := true, laidKinds := [.sentinel], laidTests := true, laidLooks := .later }
def FnAgainUpdateRaftVoterRequestUptoCardSaid : Prop := Claim7.holds Tryz.pinned (.plain (OpenSpec.upto fnAgainUpdateRaftVoterRequestSpec)) fnAgainUpdateRaftVoterRequestUptoCard

/-- THE SECOND FORM's CARD OF 'laws.FnAgainAlterPartitionAssignmentsResponse'. -/
def fnAgainAlterPartitionAssignmentsResponseUptoCard : Claim7 := { stood := { row := fnAgainAlterPartitionAssignmentsResponseUptoRow, standIns := [], harness := (true, "2a8792501963f26bf44e754ef62a4e1b09da5535a61e44f1ff31af7e00df0131"), looks := false }, kinds := [], alts := [], laidByText := true, laidKinds := [.sentinel], laidTests := true, laidLooks := .later }
def FnAgainAlterPartitionAssignmentsResponseUptoCardSaid : Prop := Claim7.holds Tryz.pinned (.plain (OpenSpec.upto fnAgainAlterPartitionAssignmentsResponseSpec)) fnAgainAlterPartitionAssignmentsResponseUptoCard

/-- THE SECOND FORM's CARD OF 'laws.FnAgainDescribeClusterResponse'. -/
def fnAgainDescribeClusterResponseUptoCard : Claim7 := { stood := { row := fnAgainDescribeClusterResponseUptoRow, standIns := [], harness := (true, "2a8792501963f26bf44e754ef62a4e1b09da5535a61e44f1ff31af7e00df0131"), looks := false }, kinds := [], alts := [], laidByText := true, laidKinds := [.sentinel], laidTests := true, laidLooks := .later }
def FnAgainDescribeClusterResponseUptoCardSaid : Prop := Claim7.holds Tryz.pinned (.plain (OpenSpec.upto fnAgainDescribeClusterResponseSpec)) fnAgainDescribeClusterResponseUptoCard

/-- THE SECOND FORM's CARD OF 'laws.FnAgainReadShareGroupStateResponse'. -/
def fnAgainReadShareGroupStateResponseUptoCard : Claim7 := { stood := { row := fnAgainReadShareGroupStateResponseUptoRow, standIns := [], harness := (true, "2a8792501963f26bf44e754ef62a4e1b09da5535a61e44f1ff31af7e00df0131"), looks := false }, kinds := [], alts := [], laidByText := true, laidKinds := [.sentinel], laidTests := true, laidLooks := .later }
def FnAgainReadShareGroupStateResponseUptoCardSaid : Prop := Claim7.holds Tryz.pinned (.plain (OpenSpec.upto fnAgainReadShareGroupStateResponseSpec)) fnAgainReadShareGroupStateResponseUptoCard

/-- THE SECOND FORM's CARD OF 'laws.FnAgainBeginQuorumEpochRequest'. -/
def fnAgainBeginQuorumEpochRequestUptoCard : Claim7 := { stood := { row := fnAgainBeginQuorumEpochRequestUptoRow, standIns := [], harness := (true, "2a8792501963f26bf44e754ef62a4e1b09da5535a61e44f1ff31af7e00df0131"), looks := false }, kinds := [], alts := [], laidByText := true, laidKinds := [.sentinel], laidTests := true, laidLooks := .later }
def FnAgainBeginQuorumEpochRequestUptoCardSaid : Prop := Claim7.holds Tryz.pinned (.plain (OpenSpec.upto fnAgainBeginQuorumEpochRequestSpec)) fnAgainBeginQuorumEpochRequestUptoCard

/-- THE SECOND FORM's CARD OF 'laws.FnAgainOffsetCommitRequest'. -/
def fnAgainOffsetCommitRequestUptoCard : Claim7 := { stood := { row := fnAgainOffsetCommitRequestUptoRow, standIns := [], harness := (true, "2a8792501963f26bf44e754ef62a4e1b09da5535a61e44f1ff31af7e00df0131"), looks := false }, kinds := [], alts := [], laidByText := true, laidKinds := [.sentinel], laidTests := true, laidLooks := .later }
def FnAgainOffsetCommitRequestUptoCardSaid : Prop := Claim7.holds Tryz.pinned (.plain (OpenSpec.upto fnAgainOffsetCommitRequestSpec)) fnAgainOffsetCommitRequestUptoCard
end Rows
end Go.Proofs.YtkakokckdlkbpaaGreatDoor
