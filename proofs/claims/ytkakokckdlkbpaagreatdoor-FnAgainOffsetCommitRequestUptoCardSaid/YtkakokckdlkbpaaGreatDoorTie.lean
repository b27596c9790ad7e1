/-
  DERIVED. GIVEN WITH THE SEED: THE PROGRAM's TIES (one call each: nine closed facts by the kernel) AND EACH ROW's TIE, after the 31st guide's Derived/Test/Toyas{Tie, Card}.lean. No idea stands in it: it is a product of the set-up. Laid BY PROGRAM, IN A SANDBOX (cutbox-door.mjs). By AI agents, Wed Nov 11 2026. No macro, syntax, notation, axiom, sorry.
-/
import Derived.Test.YtkakokckdlkbpaaGreatDoorRows
import Derived.LaidByTextLater
import Derived.SevenTiedAt
import Derived.LaidSub
import Derived.LaidOnce
namespace Go.Proofs.YtkakokckdlkbpaaGreatDoor
open Go
set_option maxRecDepth 100000
theorem seatTie1 : Tryz.prog.laidByTextLater [("pub-kmsg/pub/kmsg/inner/kbin.ErrNotEnoughData", Rows.laid_pub_kmsg_pub_kmsg_inner_kbin_ErrNotEnoughData)] [.sentinel] true :=
  Program.laidByTextLater_by_one 28 8 2 (by kernel_rfl) (by kernel_rfl) (by kernel_rfl) (by kernel_rfl) (by kernel_rfl) (by kernel_rfl) (fun _ _ => by kernel_rfl)
theorem noOwnUnsafe : Tryz.pinned.checked.prog.headLifts.contains "ownunsafe" = false := by kernel_rfl
theorem tie : Tryz.prog.laidByTextLater [("pub-kmsg/pub/kmsg/inner/kbin.ErrNotEnoughData", Rows.laid_pub_kmsg_pub_kmsg_inner_kbin_ErrNotEnoughData)] [.sentinel] true :=
  Program.laidByTextLater.sub seatTie1 ["pub-kmsg/pub/kmsg/inner/kbin.ErrNotEnoughData"] (by kernel_rfl) (by kernel_rfl)
theorem fnAgainShareFetchRequest_row_tie : Rows.fnAgainShareFetchRequestRow.laidByTextAt .later Tryz.pinned [.sentinel] true :=
  OpenClaim.laidByTextAt_later rfl rfl tie noOwnUnsafe
theorem fnAgainStreamsGroupTopologyDescriptionUpdateResponse_row_tie : Rows.fnAgainStreamsGroupTopologyDescriptionUpdateResponseRow.laidByTextAt .later Tryz.pinned [.sentinel] true :=
  OpenClaim.laidByTextAt_later rfl rfl tie noOwnUnsafe
theorem fnAgainDeleteRecordsRequest_row_tie : Rows.fnAgainDeleteRecordsRequestRow.laidByTextAt .later Tryz.pinned [.sentinel] true :=
  OpenClaim.laidByTextAt_later rfl rfl tie noOwnUnsafe
theorem fnAgainDescribeShareGroupOffsetsRequest_row_tie : Rows.fnAgainDescribeShareGroupOffsetsRequestRow.laidByTextAt .later Tryz.pinned [.sentinel] true :=
  OpenClaim.laidByTextAt_later rfl rfl tie noOwnUnsafe
theorem fnAgainUpdateRaftVoterRequest_row_tie : Rows.fnAgainUpdateRaftVoterRequestRow.laidByTextAt .later Tryz.pinned [.sentinel] true :=
  OpenClaim.laidByTextAt_later rfl rfl tie noOwnUnsafe
theorem fnAgainAlterPartitionAssignmentsResponse_row_tie : Rows.fnAgainAlterPartitionAssignmentsResponseRow.laidByTextAt .later Tryz.pinned [.sentinel] true :=
  OpenClaim.laidByTextAt_later rfl rfl tie noOwnUnsafe
theorem fnAgainDescribeClusterResponse_row_tie : Rows.fnAgainDescribeClusterResponseRow.laidByTextAt .later Tryz.pinned [.sentinel] true :=
  OpenClaim.laidByTextAt_later rfl rfl tie noOwnUnsafe
theorem fnAgainReadShareGroupStateResponse_row_tie : Rows.fnAgainReadShareGroupStateResponseRow.laidByTextAt .later Tryz.pinned [.sentinel] true :=
  OpenClaim.laidByTextAt_later rfl rfl tie noOwnUnsafe
theorem fnAgainBeginQuorumEpochRequest_row_tie : Rows.fnAgainBeginQuorumEpochRequestRow.laidByTextAt .later Tryz.pinned [.sentinel] true :=
  OpenClaim.laidByTextAt_later rfl rfl tie noOwnUnsafe
theorem fnAgainOffsetCommitRequest_row_tie : Rows.fnAgainOffsetCommitRequestRow.laidByTextAt .later Tryz.pinned [.sentinel] true :=
  OpenClaim.laidByTextAt_later rfl rfl tie noOwnUnsafe
theorem fnAgainShareFetchRequestUpto_row_tie : Rows.fnAgainShareFetchRequestUptoRow.laidByTextAt .later Tryz.pinned [.sentinel] true :=
  OpenClaim.laidByTextAt_later rfl rfl tie noOwnUnsafe
theorem fnAgainStreamsGroupTopologyDescriptionUpdateResponseUpto_row_tie : Rows.fnAgainStreamsGroupTopologyDescriptionUpdateResponseUptoRow.laidByTextAt .later Tryz.pinned [.sentinel] true :=
  OpenClaim.laidByTextAt_later rfl rfl tie noOwnUnsafe
theorem fnAgainDeleteRecordsRequestUpto_row_tie : Rows.fnAgainDeleteRecordsRequestUptoRow.laidByTextAt .later Tryz.pinned [.sentinel] true :=
  OpenClaim.laidByTextAt_later rfl rfl tie noOwnUnsafe
theorem fnAgainDescribeShareGroupOffsetsRequestUpto_row_tie : Rows.fnAgainDescribeShareGroupOffsetsRequestUptoRow.laidByTextAt .later Tryz.pinned [.sentinel] true :=
  OpenClaim.laidByTextAt_later rfl rfl tie noOwnUnsafe
theorem fnAgainUpdateRaftVoterRequestUpto_row_tie : Rows.fnAgainUpdateRaftVoterRequestUptoRow.laidByTextAt .later Tryz.pinned [.sentinel] true :=
  OpenClaim.laidByTextAt_later rfl rfl tie noOwnUnsafe
theorem fnAgainAlterPartitionAssignmentsResponseUpto_row_tie : Rows.fnAgainAlterPartitionAssignmentsResponseUptoRow.laidByTextAt .later Tryz.pinned [.sentinel] true :=
  OpenClaim.laidByTextAt_later rfl rfl tie noOwnUnsafe
theorem fnAgainDescribeClusterResponseUpto_row_tie : Rows.fnAgainDescribeClusterResponseUptoRow.laidByTextAt .later Tryz.pinned [.sentinel] true :=
  OpenClaim.laidByTextAt_later rfl rfl tie noOwnUnsafe
theorem fnAgainReadShareGroupStateResponseUpto_row_tie : Rows.fnAgainReadShareGroupStateResponseUptoRow.laidByTextAt .later Tryz.pinned [.sentinel] true :=
  OpenClaim.laidByTextAt_later rfl rfl tie noOwnUnsafe
theorem fnAgainBeginQuorumEpochRequestUpto_row_tie : Rows.fnAgainBeginQuorumEpochRequestUptoRow.laidByTextAt .later Tryz.pinned [.sentinel] true :=
  OpenClaim.laidByTextAt_later rfl rfl tie noOwnUnsafe
theorem fnAgainOffsetCommitRequestUpto_row_tie : Rows.fnAgainOffsetCommitRequestUptoRow.laidByTextAt .later Tryz.pinned [.sentinel] true :=
  OpenClaim.laidByTextAt_later rfl rfl tie noOwnUnsafe
end Go.Proofs.YtkakokckdlkbpaaGreatDoor
