/-
  DERIVED. GIVEN WITH THE SEED: THE PROGRAM's TIES (one call each: nine closed facts by the kernel) AND EACH ROW's TIE, after the 31st guide's Derived/Test/Toyas{Tie, Card}.lean. No idea stands in it: it is a product of the set-up. Laid BY PROGRAM, IN A SANDBOX (cutbox-door.mjs). By AI agents, Wed Nov 11 2026. No macro, syntax, notation, axiom, sorry.
-/
import Derived.Test.YthejiimocbfagaaGreatDoorRows
import Derived.LaidByTextLater
import Derived.SevenTiedAt
import Derived.LaidSub
import Derived.LaidOnce
namespace Go.Proofs.YthejiimocbfagaaGreatDoor
open Go
set_option maxRecDepth 100000
theorem seatTie1 : Tryz.prog.laidByTextLater [("pub-kmsg/pub/kmsg/inner/kbin.ErrNotEnoughData", Rows.laid_pub_kmsg_pub_kmsg_inner_kbin_ErrNotEnoughData)] [.sentinel] true :=
  Program.laidByTextLater_by_one 28 8 2 (by kernel_rfl) (by kernel_rfl) (by kernel_rfl) (by kernel_rfl) (by kernel_rfl) (by kernel_rfl) (fun _ _ => by kernel_rfl)
theorem noOwnUnsafe : Tryz.pinned.checked.prog.headLifts.contains "ownunsafe" = false := by kernel_rfl
theorem tie : Tryz.prog.laidByTextLater [("pub-kmsg/pub/kmsg/inner/kbin.ErrNotEnoughData", Rows.laid_pub_kmsg_pub_kmsg_inner_kbin_ErrNotEnoughData)] [.sentinel] true :=
  Program.laidByTextLater.sub seatTie1 ["pub-kmsg/pub/kmsg/inner/kbin.ErrNotEnoughData"] (by kernel_rfl) (by kernel_rfl)
theorem fnCutOffsetFetchRequest_row_tie : Rows.fnCutOffsetFetchRequestRow.laidByTextAt .later Tryz.pinned [.sentinel] true :=
  OpenClaim.laidByTextAt_later rfl rfl tie noOwnUnsafe
theorem fnCutInitProducerIDRequest_row_tie : Rows.fnCutInitProducerIDRequestRow.laidByTextAt .later Tryz.pinned [.sentinel] true :=
  OpenClaim.laidByTextAt_later rfl rfl tie noOwnUnsafe
theorem fnCutAlterReplicaLogDirsResponse_row_tie : Rows.fnCutAlterReplicaLogDirsResponseRow.laidByTextAt .later Tryz.pinned [.sentinel] true :=
  OpenClaim.laidByTextAt_later rfl rfl tie noOwnUnsafe
theorem fnCutDeleteShareGroupStateRequest_row_tie : Rows.fnCutDeleteShareGroupStateRequestRow.laidByTextAt .later Tryz.pinned [.sentinel] true :=
  OpenClaim.laidByTextAt_later rfl rfl tie noOwnUnsafe
theorem fnCutListGroupsResponse_row_tie : Rows.fnCutListGroupsResponseRow.laidByTextAt .later Tryz.pinned [.sentinel] true :=
  OpenClaim.laidByTextAt_later rfl rfl tie noOwnUnsafe
theorem fnCutShareGroupHeartbeatRequest_row_tie : Rows.fnCutShareGroupHeartbeatRequestRow.laidByTextAt .later Tryz.pinned [.sentinel] true :=
  OpenClaim.laidByTextAt_later rfl rfl tie noOwnUnsafe
theorem fnCutCreateDelegationTokenResponse_row_tie : Rows.fnCutCreateDelegationTokenResponseRow.laidByTextAt .later Tryz.pinned [.sentinel] true :=
  OpenClaim.laidByTextAt_later rfl rfl tie noOwnUnsafe
theorem fnCutAddRaftVoterRequest_row_tie : Rows.fnCutAddRaftVoterRequestRow.laidByTextAt .later Tryz.pinned [.sentinel] true :=
  OpenClaim.laidByTextAt_later rfl rfl tie noOwnUnsafe
theorem fnCutWriteShareGroupStateRequest_row_tie : Rows.fnCutWriteShareGroupStateRequestRow.laidByTextAt .later Tryz.pinned [.sentinel] true :=
  OpenClaim.laidByTextAt_later rfl rfl tie noOwnUnsafe
theorem fnCutDescribeDelegationTokenResponse_row_tie : Rows.fnCutDescribeDelegationTokenResponseRow.laidByTextAt .later Tryz.pinned [.sentinel] true :=
  OpenClaim.laidByTextAt_later rfl rfl tie noOwnUnsafe
theorem fnCutOffsetFetchRequestUpto_row_tie : Rows.fnCutOffsetFetchRequestUptoRow.laidByTextAt .later Tryz.pinned [.sentinel] true :=
  OpenClaim.laidByTextAt_later rfl rfl tie noOwnUnsafe
theorem fnCutInitProducerIDRequestUpto_row_tie : Rows.fnCutInitProducerIDRequestUptoRow.laidByTextAt .later Tryz.pinned [.sentinel] true :=
  OpenClaim.laidByTextAt_later rfl rfl tie noOwnUnsafe
theorem fnCutAlterReplicaLogDirsResponseUpto_row_tie : Rows.fnCutAlterReplicaLogDirsResponseUptoRow.laidByTextAt .later Tryz.pinned [.sentinel] true :=
  OpenClaim.laidByTextAt_later rfl rfl tie noOwnUnsafe
theorem fnCutDeleteShareGroupStateRequestUpto_row_tie : Rows.fnCutDeleteShareGroupStateRequestUptoRow.laidByTextAt .later Tryz.pinned [.sentinel] true :=
  OpenClaim.laidByTextAt_later rfl rfl tie noOwnUnsafe
theorem fnCutListGroupsResponseUpto_row_tie : Rows.fnCutListGroupsResponseUptoRow.laidByTextAt .later Tryz.pinned [.sentinel] true :=
  OpenClaim.laidByTextAt_later rfl rfl tie noOwnUnsafe
theorem fnCutShareGroupHeartbeatRequestUpto_row_tie : Rows.fnCutShareGroupHeartbeatRequestUptoRow.laidByTextAt .later Tryz.pinned [.sentinel] true :=
  OpenClaim.laidByTextAt_later rfl rfl tie noOwnUnsafe
theorem fnCutCreateDelegationTokenResponseUpto_row_tie : Rows.fnCutCreateDelegationTokenResponseUptoRow.laidByTextAt .later Tryz.pinned [.sentinel] true :=
  OpenClaim.laidByTextAt_later rfl rfl tie noOwnUnsafe
theorem fnCutAddRaftVoterRequestUpto_row_tie : Rows.fnCutAddRaftVoterRequestUptoRow.laidByTextAt .later Tryz.pinned [.sentinel] true :=
  OpenClaim.laidByTextAt_later rfl rfl tie noOwnUnsafe
theorem fnCutWriteShareGroupStateRequestUpto_row_tie : Rows.fnCutWriteShareGroupStateRequestUptoRow.laidByTextAt .later Tryz.pinned [.sentinel] true :=
  OpenClaim.laidByTextAt_later rfl rfl tie noOwnUnsafe
theorem fnCutDescribeDelegationTokenResponseUpto_row_tie : Rows.fnCutDescribeDelegationTokenResponseUptoRow.laidByTextAt .later Tryz.pinned [.sentinel] true :=
  OpenClaim.laidByTextAt_later rfl rfl tie noOwnUnsafe
end Go.Proofs.YthejiimocbfagaaGreatDoor
