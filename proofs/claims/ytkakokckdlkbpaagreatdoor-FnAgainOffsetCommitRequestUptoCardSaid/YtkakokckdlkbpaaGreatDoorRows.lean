/-
  NARROWER THAN 'FOR EVERY INPUT', by the rows' own cells (each row's printed sentence says how): FnAgainShareFetchRequest: loops, laid · FnAgainStreamsGroupTopologyDescriptionUpdateResponse: loops, laid · FnAgainDeleteRecordsRequest: loops, laid · FnAgainDescribeShareGroupOffsetsRequest: loops, laid · FnAgainUpdateRaftVoterRequest: loops, laid · FnAgainAlterPartitionAssignmentsResponse: loops, laid · FnAgainDescribeClusterResponse: loops, laid · FnAgainReadShareGroupStateResponse: loops, laid · FnAgainBeginQuorumEpochRequest: loops, laid · FnAgainOffsetCommitRequest: loops, laid.
  DERIVED. THE GIVEN ROWS OF THIS SEAT. 10 by the template 'for every input the law returns true; each argument reads behind the call as it read before'; 0 by the template 'total and deterministic' (their statements: YtkakokckdlkbpaaGreatDoorTotals.lean).
  GIVEN WITH THE SEED: the statements are not yours to turn. If you find one false, say at which input.
  Laid BY PROGRAM, IN A SANDBOX (cutbox-rows.mjs): the forced cells as the released guide's own fill.sh prints them over the translation 56f907f134875937… (all of the seat's roots in one cut). By AI agents, Wed Nov 11 2026. No macro, syntax, notation, axiom, sorry.
-/
import Derived.Test.YtkakokckdlkbpaaGreatDoorChecked
import GoSem.Claim
import GoSem.ClaimJoined
import GoSem.ClaimMapViews
import Derived.JoinedTies
import Derived.KernelRfl
namespace Go.Proofs.YtkakokckdlkbpaaGreatDoor
/- THE CELL 'sum', in the pinned program and in every row, IS THE sha256 OF THE DUMP (.gsa) THAT YtkakokckdlkbpaaGreatDoorProg.lean LOADS. Nothing in Lean hashes anything: it is a label: what it is worth is what the hold of that sum in a sandbox is worth. -/
noncomputable def Tryz.pinned : Pinned := { name := "ytkakokckdlkbpaagreatdoor", sum := "56f907f1348759376027fd0011eccbab7de31440b3cb798b547e6bccf189dcae", checked := Tryz.checked }
namespace Rows
def none {H : Type} : Left H := { results := [], args := [] }

/- WHAT THE LISTED PACKAGE-LEVEL VARIABLES READ AS WHEN THE CALL BEGINS. Each datum BY PROGRAM (the guide's laid-datum.mjs) off the statement by which the dump's own 'gosem.cut.vars' lays the variable. In a bare row this is a premise. The card (YtkakokckdlkbpaaGreatDoorCards.lean) ties it to the program's text. -/
def laid_pub_kmsg_pub_kmsg_inner_kbin_ErrNotEnoughData {H : Type} : DataW H := .iface "*errors.errorString" (.ptr (.agg [.lit (.string [114, 101, 115, 112, 111, 110, 115, 101, 32, 100, 105, 100, 32, 110, 111, 116, 32, 99, 111, 110, 116, 97, 105, 110, 32, 101, 110, 111, 117, 103, 104, 32, 100, 97, 116, 97, 32, 116, 111, 32, 98, 101, 32, 118, 97, 108, 105, 100])]))

/-- 'laws.FnAgainShareFetchRequest': WHATEVER THE INPUT: true; the input reads as it did. -/
def fnAgainShareFetchRequestSpec : ChangeSpec := { name := "fnAgainShareFetchRequest", fn := fun _ => fun
  | [d1, d2] => { results := [.lit (.bool true)], args := [d1, d2] }
  | _ => none }
def fnAgainShareFetchRequestRow : OpenClaim := { program := "ytkakokckdlkbpaagreatdoor", sum := "56f907f1348759376027fd0011eccbab7de31440b3cb798b547e6bccf189dcae", func := "pub-kmsg/laws.FnAgainShareFetchRequest", spec := "fnAgainShareFetchRequest", inPlace := ["internal/reflectlite.ValueOf", "internal/reflectlite.Swapper", "(internal/reflectlite.Value).Len"], unfollowed := true, recurses := true, named := ["encoding/binary.BigEndian", "pub-kmsg/pub/kmsg/inner/kbin.ErrNotEnoughData"], loops := true, apart := false, laid := [("pub-kmsg/pub/kmsg/inner/kbin.ErrNotEnoughData", laid_pub_kmsg_pub_kmsg_inner_kbin_ErrNotEnoughData)] }
def FnAgainShareFetchRequestSaid : Prop := fnAgainShareFetchRequestRow.holds Tryz.pinned (OpenSpec.ofChange fnAgainShareFetchRequestSpec)

/-- ITS FALSE NEIGHBOUR: 'it returns false'. Refute it at one input. -/
def fnAgainShareFetchRequestWrong : ChangeSpec := { name := "fnAgainShareFetchRequest", fn := fun _ => fun
  | [d1, d2] => { results := [.lit (.bool false)], args := [d1, d2] }
  | _ => none }
def FnAgainShareFetchRequestWrongFalsely : Prop := fnAgainShareFetchRequestRow.holds Tryz.pinned (OpenSpec.ofChange fnAgainShareFetchRequestWrong)

/-- 'laws.FnAgainStreamsGroupTopologyDescriptionUpdateResponse': WHATEVER THE INPUT: true; the input reads as it did. -/
def fnAgainStreamsGroupTopologyDescriptionUpdateResponseSpec : ChangeSpec := { name := "fnAgainStreamsGroupTopologyDescriptionUpdateResponse", fn := fun _ => fun
  | [d1, d2] => { results := [.lit (.bool true)], args := [d1, d2] }
  | _ => none }
def fnAgainStreamsGroupTopologyDescriptionUpdateResponseRow : OpenClaim := { program := "ytkakokckdlkbpaagreatdoor", sum := "56f907f1348759376027fd0011eccbab7de31440b3cb798b547e6bccf189dcae", func := "pub-kmsg/laws.FnAgainStreamsGroupTopologyDescriptionUpdateResponse", spec := "fnAgainStreamsGroupTopologyDescriptionUpdateResponse", inPlace := ["internal/reflectlite.ValueOf", "internal/reflectlite.Swapper", "(internal/reflectlite.Value).Len"], unfollowed := true, recurses := true, named := ["encoding/binary.BigEndian", "pub-kmsg/pub/kmsg/inner/kbin.ErrNotEnoughData"], loops := true, apart := false, laid := [("pub-kmsg/pub/kmsg/inner/kbin.ErrNotEnoughData", laid_pub_kmsg_pub_kmsg_inner_kbin_ErrNotEnoughData)] }
def FnAgainStreamsGroupTopologyDescriptionUpdateResponseSaid : Prop := fnAgainStreamsGroupTopologyDescriptionUpdateResponseRow.holds Tryz.pinned (OpenSpec.ofChange fnAgainStreamsGroupTopologyDescriptionUpdateResponseSpec)

/-- ITS FALSE NEIGHBOUR: 'it returns false'. Refute it at one input. -/
def fnAgainStreamsGroupTopologyDescriptionUpdateResponseWrong : ChangeSpec := { name := "fnAgainStreamsGroupTopologyDescriptionUpdateResponse", fn := fun _ => fun
  | [d1, d2] => { results := [.lit (.bool false)], args := [d1, d2] }
  | _ => none }
def FnAgainStreamsGroupTopologyDescriptionUpdateResponseWrongFalsely : Prop := fnAgainStreamsGroupTopologyDescriptionUpdateResponseRow.holds Tryz.pinned (OpenSpec.ofChange fnAgainStreamsGroupTopologyDescriptionUpdateResponseWrong)

/-- 'laws.FnAgainDeleteRecordsRequest': WHATEVER THE INPUT: true; the input reads as it did. -/
def fnAgainDeleteRecordsRequestSpec : ChangeSpec := { name := "fnAgainDeleteRecordsRequest", fn := fun _ => fun
  | [d1, d2] => { results := [.lit (.bool true)], args := [d1, d2] }
  | _ => none }
def fnAgainDeleteRecordsRequestRow : OpenClaim := { program := "ytkakokckdlkbpaagreatdoor", sum := "56f907f1348759376027fd0011eccbab7de31440b3cb798b547e6bccf189dcae", func := "pub-kmsg/laws.FnAgainDeleteRecordsRequest", spec := "fnAgainDeleteRecordsRequest", inPlace := ["internal/reflectlite.ValueOf", "internal/reflectlite.Swapper", "(internal/reflectlite.Value).Len"], unfollowed := true, recurses := true, named := ["encoding/binary.BigEndian", "pub-kmsg/pub/kmsg/inner/kbin.ErrNotEnoughData"], loops := true, apart := false, laid := [("pub-kmsg/pub/kmsg/inner/kbin.ErrNotEnoughData", laid_pub_kmsg_pub_kmsg_inner_kbin_ErrNotEnoughData)] }
def FnAgainDeleteRecordsRequestSaid : Prop := fnAgainDeleteRecordsRequestRow.holds Tryz.pinned (OpenSpec.ofChange fnAgainDeleteRecordsRequestSpec)

/-- ITS FALSE NEIGHBOUR: 'it returns false'. Refute it at one input. -/
def fnAgainDeleteRecordsRequestWrong : ChangeSpec := { name := "fnAgainDeleteRecordsRequest", fn := fun _ => fun
  | [d1, d2] => { results := [.lit (.bool false)], args := [d1, d2] }
  | _ => none }
def FnAgainDeleteRecordsRequestWrongFalsely : Prop := fnAgainDeleteRecordsRequestRow.holds Tryz.pinned (OpenSpec.ofChange fnAgainDeleteRecordsRequestWrong)

/-- 'laws.FnAgainDescribeShareGroupOffsetsRequest': WHATEVER THE INPUT: true; the input reads as it did. -/
def fnAgainDescribeShareGroupOffsetsRequestSpec : ChangeSpec := { name := "fnAgainDescribeShareGroupOffsetsRequest", fn := fun _ => fun
  | [d1, d2] => { results := [.lit (.bool true)], args := [d1, d2] }
  | _ => none }
def fnAgainDescribeShareGroupOffsetsRequestRow : OpenClaim := { program := "ytkakokckdlkbpaagreatdoor", sum := "56f907f1348759376027fd0011eccbab7de31440b3cb798b547e6bccf189dcae", func := "pub-kmsg/laws.FnAgainDescribeShareGroupOffsetsRequest", spec := "fnAgainDescribeShareGroupOffsetsRequest", inPlace := ["internal/reflectlite.ValueOf", "internal/reflectlite.Swapper", "(internal/reflectlite.Value).Len"], unfollowed := true, recurses := true, named := ["encoding/binary.BigEndian", "pub-kmsg/pub/kmsg/inner/kbin.ErrNotEnoughData"], loops := true, apart := false, laid := [("pub-kmsg/pub/kmsg/inner/kbin.ErrNotEnoughData", laid_pub_kmsg_pub_kmsg_inner_kbin_ErrNotEnoughData)] }
def FnAgainDescribeShareGroupOffsetsRequestSaid : Prop := fnAgainDescribeShareGroupOffsetsRequestRow.holds Tryz.pinned (OpenSpec.ofChange fnAgainDescribeShareGroupOffsetsRequestSpec)

/-- ITS FALSE NEIGHBOUR: 'it returns false'. Refute it at one input. -/
def fnAgainDescribeShareGroupOffsetsRequestWrong : ChangeSpec := { name := "fnAgainDescribeShareGroupOffsetsRequest", fn := fun _ => fun
  | [d1, d2] => { results := [.lit (.bool false)], args := [d1, d2] }
  | _ => none }
def FnAgainDescribeShareGroupOffsetsRequestWrongFalsely : Prop := fnAgainDescribeShareGroupOffsetsRequestRow.holds Tryz.pinned (OpenSpec.ofChange fnAgainDescribeShareGroupOffsetsRequestWrong)

/-- 'laws.FnAgainUpdateRaftVoterRequest': WHATEVER THE INPUT: true; the input reads as it did. -/
def fnAgainUpdateRaftVoterRequestSpec : ChangeSpec := { name := "fnAgainUpdateRaftVoterRequest", fn := fun _ => fun
  | [d1, d2] => { results := [.lit (.bool true)], args := [d1, d2] }
  | _ => none }
def fnAgainUpdateRaftVoterRequestRow : OpenClaim := { program := "ytkakokckdlkbpaagreatdoor", sum := "56f907f1348759376027fd0011eccbab7de31440b3cb798b547e6bccf189dcae", func := "pub-kmsg/laws.FnAgainUpdateRaftVoterRequest", spec := "fnAgainUpdateRaftVoterRequest", inPlace := ["internal/reflectlite.ValueOf", "internal/reflectlite.Swapper", "(internal/reflectlite.Value).Len"], unfollowed := true, recurses := true, named := ["encoding/binary.BigEndian", "pub-kmsg/pub/kmsg/inner/kbin.ErrNotEnoughData"], loops := true, apart := false, laid := [("pub-kmsg/pub/kmsg/inner/kbin.ErrNotEnoughData", laid_pub_kmsg_pub_kmsg_inner_kbin_ErrNotEnoughData)] }
def FnAgainUpdateRaftVoterRequestSaid : Prop := fnAgainUpdateRaftVoterRequestRow.holds Tryz.pinned (OpenSpec.ofChange fnAgainUpdateRaftVoterRequestSpec)

/-- ITS FALSE NEIGHBOUR: 'it returns false'. Refute it at one input. -/
def fnAgainUpdateRaftVoterRequestWrong : ChangeSpec := { name := "fnAgainUpdateRaftVoterRequest", fn := fun _ => fun
  | [d1, d2] => { results := [.lit (.bool false)], args := [d1, d2] }
  | _ => none }
def FnAgainUpdateRaftVoterRequestWrongFalsely : Prop := fnAgainUpdateRaftVoterRequestRow.holds Tryz.pinned (OpenSpec.ofChange fnAgainUpdateRaftVoterRequestWrong)

/-- 'laws.FnAgainAlterPartitionAssignmentsResponse': WHATEVER THE INPUT: true; the input reads as it did. -/
def fnAgainAlterPartitionAssignmentsResponseSpec : ChangeSpec := { name := "fnAgainAlterPartitionAssignmentsResponse", fn := fun _ => fun
  | [d1, d2] => { results := [.lit (.bool true)], args := [d1, d2] }
  | _ => none }
def fnAgainAlterPartitionAssignmentsResponseRow : OpenClaim := { program := "ytkakokckdlkbpaagreatdoor", sum := "56f907f1348759376027fd0011eccbab7de31440b3cb798b547e6bccf189dcae", func := "pub-kmsg/laws.FnAgainAlterPartitionAssignmentsResponse", spec := "fnAgainAlterPartitionAssignmentsResponse", inPlace := ["internal/reflectlite.ValueOf", "internal/reflectlite.Swapper", "(internal/reflectlite.Value).Len"], unfollowed := true, recurses := true, named := ["encoding/binary.BigEndian", "pub-kmsg/pub/kmsg/inner/kbin.ErrNotEnoughData"], loops := true, apart := false, laid := [("pub-kmsg/pub/kmsg/inner/kbin.ErrNotEnoughData", laid_pub_kmsg_pub_kmsg_inner_kbin_ErrNotEnoughData)] }
def FnAgainAlterPartitionAssignmentsResponseSaid : Prop := fnAgainAlterPartitionAssignmentsResponseRow.holds Tryz.pinned (OpenSpec.ofChange fnAgainAlterPartitionAssignmentsResponseSpec)

/-- ITS FALSE NEIGHBOUR: 'it returns false'. Refute it at one input. -/
def fnAgainAlterPartitionAssignmentsResponseWrong : ChangeSpec := { name := "fnAgainAlterPartitionAssignmentsResponse", fn := fun _ => fun
  | [d1, d2] => { results := [.lit (.bool false)], args := [d1, d2] }
  | _ => none }
def FnAgainAlterPartitionAssignmentsResponseWrongFalsely : Prop := fnAgainAlterPartitionAssignmentsResponseRow.holds Tryz.pinned (OpenSpec.ofChange fnAgainAlterPartitionAssignmentsResponseWrong)

/-- 'laws.FnAgainDescribeClusterResponse': WHATEVER THE INPUT: true; the input reads as it did. -/
def fnAgainDescribeClusterResponseSpec : ChangeSpec := { name := "fnAgainDescribeClusterResponse", fn := fun _ => fun
  | [d1, d2] => { results := [.lit (.bool true)], args := [d1, d2] }
  | _ => none }
def fnAgainDescribeClusterResponseRow : OpenClaim := { program := "ytkakokckdlkbpaagreatdoor", sum := "56f907f1348759376027fd0011eccbab7de31440b3cb798b547e6bccf189dcae", func := "pub-kmsg/laws.FnAgainDescribeClusterResponse", spec := "fnAgainDescribeClusterResponse", inPlace := ["internal/reflectlite.ValueOf", "internal/reflectlite.Swapper", "(internal/reflectlite.Value).Len"], unfollowed := true, recurses := true, named := ["encoding/binary.BigEndian", "pub-kmsg/pub/kmsg/inner/kbin.ErrNotEnoughData"], loops := true, apart := false, laid := [("pub-kmsg/pub/kmsg/inner/kbin.ErrNotEnoughData", laid_pub_kmsg_pub_kmsg_inner_kbin_ErrNotEnoughData)] }
def FnAgainDescribeClusterResponseSaid : Prop := fnAgainDescribeClusterResponseRow.holds Tryz.pinned (OpenSpec.ofChange fnAgainDescribeClusterResponseSpec)

/-- ITS FALSE NEIGHBOUR: 'it returns false'. Refute it at one input. -/
def fnAgainDescribeClusterResponseWrong : ChangeSpec := { name := "fnAgainDescribeClusterResponse", fn := fun _ => fun
  | [d1, d2] => { results := [.lit (.bool false)], args := [d1, d2] }
  | _ => none }
def FnAgainDescribeClusterResponseWrongFalsely : Prop := fnAgainDescribeClusterResponseRow.holds Tryz.pinned (OpenSpec.ofChange fnAgainDescribeClusterResponseWrong)

/-- 'laws.FnAgainReadShareGroupStateResponse': WHATEVER THE INPUT: true; the input reads as it did. -/
def fnAgainReadShareGroupStateResponseSpec : ChangeSpec := { name := "fnAgainReadShareGroupStateResponse", fn := fun _ => fun
  | [d1, d2] => { results := [.lit (.bool true)], args := [d1, d2] }
  | _ => none }
def fnAgainReadShareGroupStateResponseRow : OpenClaim := { program := "ytkakokckdlkbpaagreatdoor", sum := "56f907f1348759376027fd0011eccbab7de31440b3cb798b547e6bccf189dcae", func := "pub-kmsg/laws.FnAgainReadShareGroupStateResponse", spec := "fnAgainReadShareGroupStateResponse", inPlace := ["internal/reflectlite.ValueOf", "internal/reflectlite.Swapper", "(internal/reflectlite.Value).Len"], unfollowed := true, recurses := true, named := ["encoding/binary.BigEndian", "pub-kmsg/pub/kmsg/inner/kbin.ErrNotEnoughData"], loops := true, apart := false, laid := [("pub-kmsg/pub/kmsg/inner/kbin.ErrNotEnoughData", laid_pub_kmsg_pub_kmsg_inner_kbin_ErrNotEnoughData)] }
def FnAgainReadShareGroupStateResponseSaid : Prop := fnAgainReadShareGroupStateResponseRow.holds Tryz.pinned (OpenSpec.ofChange fnAgainReadShareGroupStateResponseSpec)

/-- ITS FALSE NEIGHBOUR: 'it returns false'. Refute it at one input. -/
def fnAgainReadShareGroupStateResponseWrong : ChangeSpec := { name := "fnAgainReadShareGroupStateResponse", fn := fun _ => fun
  | [d1, d2] => { results := [.lit (.bool false)], args := [d1, d2] }
  | _ => none }
def FnAgainReadShareGroupStateResponseWrongFalsely : Prop := fnAgainReadShareGroupStateResponseRow.holds Tryz.pinned (OpenSpec.ofChange fnAgainReadShareGroupStateResponseWrong)

/-- 'laws.FnAgainBeginQuorumEpochRequest': WHATEVER THE INPUT: true; the input reads as it did. -/
def fnAgainBeginQuorumEpochRequestSpec : ChangeSpec := { name := "fnAgainBeginQuorumEpochRequest", fn := fun _ => fun
  | [d1, d2] => { results := [.lit (.bool true)], args := [d1, d2] }
  | _ => none }
def fnAgainBeginQuorumEpochRequestRow : OpenClaim := { program := "ytkakokckdlkbpaagreatdoor", sum := "56f907f1348759376027fd0011eccbab7de31440b3cb798b547e6bccf189dcae", func := "pub-kmsg/laws.FnAgainBeginQuorumEpochRequest", spec := "fnAgainBeginQuorumEpochRequest", inPlace := ["internal/reflectlite.ValueOf", "internal/reflectlite.Swapper", "(internal/reflectlite.Value).Len"], unfollowed := true, recurses := true, named := ["encoding/binary.BigEndian", "pub-kmsg/pub/kmsg/inner/kbin.ErrNotEnoughData"], loops := true, apart := false, laid := [("pub-kmsg/pub/kmsg/inner/kbin.ErrNotEnoughData", laid_pub_kmsg_pub_kmsg_inner_kbin_ErrNotEnoughData)] }
def FnAgainBeginQuorumEpochRequestSaid : Prop := fnAgainBeginQuorumEpochRequestRow.holds Tryz.pinned (OpenSpec.ofChange fnAgainBeginQuorumEpochRequestSpec)

/-- ITS FALSE NEIGHBOUR: 'it returns false'. Refute it at one input. -/
def fnAgainBeginQuorumEpochRequestWrong : ChangeSpec := { name := "fnAgainBeginQuorumEpochRequest", fn := fun _ => fun
  | [d1, d2] => { results := [.lit (.bool false)], args := [d1, d2] }
  | _ => none }
def FnAgainBeginQuorumEpochRequestWrongFalsely : Prop := fnAgainBeginQuorumEpochRequestRow.holds Tryz.pinned (OpenSpec.ofChange fnAgainBeginQuorumEpochRequestWrong)

/-- 'laws.FnAgainOffsetCommitRequest': WHATEVER THE INPUT: true; the input reads as it did. -/
def fnAgainOffsetCommitRequestSpec : ChangeSpec := { name := "fnAgainOffsetCommitRequest", fn := fun _ => fun
  | [d1, d2] => { results := [.lit (.bool true)], args := [d1, d2] }
  | _ => none }
def fnAgainOffsetCommitRequestRow : OpenClaim := { program := "ytkakokckdlkbpaagreatdoor", sum := "56f907f1348759376027fd0011eccbab7de31440b3cb798b547e6bccf189dcae", func := "pub-kmsg/laws.FnAgainOffsetCommitRequest", spec := "fnAgainOffsetCommitRequest", inPlace := ["internal/reflectlite.ValueOf", "internal/reflectlite.Swapper", "(internal/reflectlite.Value).Len"], unfollowed := true, recurses := true, named := ["encoding/binary.BigEndian", "pub-kmsg/pub/kmsg/inner/kbin.ErrNotEnoughData"], loops := true, apart := false, laid := [("pub-kmsg/pub/kmsg/inner/kbin.ErrNotEnoughData", laid_pub_kmsg_pub_kmsg_inner_kbin_ErrNotEnoughData)] }
def FnAgainOffsetCommitRequestSaid : Prop := fnAgainOffsetCommitRequestRow.holds Tryz.pinned (OpenSpec.ofChange fnAgainOffsetCommitRequestSpec)

/-- ITS FALSE NEIGHBOUR: 'it returns false'. Refute it at one input. -/
def fnAgainOffsetCommitRequestWrong : ChangeSpec := { name := "fnAgainOffsetCommitRequest", fn := fun _ => fun
  | [d1, d2] => { results := [.lit (.bool false)], args := [d1, d2] }
  | _ => none }
def FnAgainOffsetCommitRequestWrongFalsely : Prop := fnAgainOffsetCommitRequestRow.holds Tryz.pinned (OpenSpec.ofChange fnAgainOffsetCommitRequestWrong)

/- THE SECOND FORM. 'bulk': how many values and letters a reading holds, each counted each time it is reached (what is shared counts as often as it is met; a slice's spare places count too). A statement '..UptoSaid' is the law's where the arguments, and the package variables that the reading takes, are together of bulk at most 1048576: NARROWER than '..Said'. Prove '..Said' where nothing that the law and all that it calls make is longer than what came in: it says more and counts as full. Else prove '..UptoSaid'. A law counts once. -/
mutual
def uptoBulk {H : Type} : DataW H → Nat
  | .lit (.string bytes) => bytes.length + 1
  | .lit _ => 1
  | .nil => 1
  | .ptr d => uptoBulk d + 1
  | .slice elems spare => uptoBulkAll elems + uptoBulkAll spare + 1
  | .agg parts => uptoBulkAll parts + 1
  | .iface _ d => uptoBulk d + 1
  | .map entries => uptoBulkEntries entries + 1
  | .held _ => 1
def uptoBulkAll {H : Type} : List (DataW H) → Nat
  | [] => 0
  | d :: r => uptoBulk d + uptoBulkAll r
def uptoBulkEntries {H : Type} : List (Lit × DataW H) → Nat
  | [] => 0
  | x :: r => uptoBulkEntry x + uptoBulkEntries r
def uptoBulkEntry {H : Type} : Lit × DataW H → Nat
  | (.string bytes, d) => bytes.length + uptoBulk d + 1
  | (_, d) => uptoBulk d + 1
 end
def uptoSmall : (H : Type) → List (DataW H) → Bool := fun _ ds => decide (uptoBulkAll ds ≤ 1048576)
def OpenSpec.upto (s : _root_.Go.ChangeSpec) : _root_.Go.OpenSpec := { _root_.Go.OpenSpec.ofChange s with cond := some uptoSmall }

/-- 'laws.FnAgainShareFetchRequest', WHERE WHAT IT READS IS OF BULK AT MOST 1048576: true; the input reads as it did. -/
def fnAgainShareFetchRequestUptoRow : OpenClaim := { program := "ytkakokckdlkbpaagreatdoor", sum := "56f907f1348759376027fd0011eccbab7de31440b3cb798b547e6bccf189dcae", func := "pub-kmsg/laws.FnAgainShareFetchRequest", spec := "fnAgainShareFetchRequest", inPlace := ["internal/reflectlite.ValueOf", "internal/reflectlite.Swapper", "(internal/reflectlite.Value).Len"], unfollowed := true, recurses := true, named := ["encoding/binary.BigEndian", "pub-kmsg/pub/kmsg/inner/kbin.ErrNotEnoughData"], loops := true, apart := false, laid := [("pub-kmsg/pub/kmsg/inner/kbin.ErrNotEnoughData", laid_pub_kmsg_pub_kmsg_inner_kbin_ErrNotEnoughData)], narrowed := true }
def FnAgainShareFetchRequestUptoSaid : Prop := fnAgainShareFetchRequestUptoRow.holds Tryz.pinned (OpenSpec.upto fnAgainShareFetchRequestSpec)

/-- 'laws.FnAgainStreamsGroupTopologyDescriptionUpdateResponse', WHERE WHAT IT READS IS OF BULK AT MOST 1048576: true; the input reads as it did. -/
def fnAgainStreamsGroupTopologyDescriptionUpdateResponseUptoRow : OpenClaim := { program := "ytkakokckdlkbpaagreatdoor", sum := "56f907f1348759376027fd0011eccbab7de31440b3cb798b547e6bccf189dcae", func := "pub-kmsg/laws.FnAgainStreamsGroupTopologyDescriptionUpdateResponse", spec := "fnAgainStreamsGroupTopologyDescriptionUpdateResponse", inPlace := ["internal/reflectlite.ValueOf", "internal/reflectlite.Swapper", "(internal/reflectlite.Value).Len"], unfollowed := true, recurses := true, named := ["encoding/binary.BigEndian", "pub-kmsg/pub/kmsg/inner/kbin.ErrNotEnoughData"], loops := true, apart := false, laid := [("pub-kmsg/pub/kmsg/inner/kbin.ErrNotEnoughData", laid_pub_kmsg_pub_kmsg_inner_kbin_ErrNotEnoughData)], narrowed := true }
def FnAgainStreamsGroupTopologyDescriptionUpdateResponseUptoSaid : Prop := fnAgainStreamsGroupTopologyDescriptionUpdateResponseUptoRow.holds Tryz.pinned (OpenSpec.upto fnAgainStreamsGroupTopologyDescriptionUpdateResponseSpec)

/-- 'laws.FnAgainDeleteRecordsRequest', WHERE WHAT IT READS IS OF BULK AT MOST 1048576: true; the input reads as it did. -/
def fnAgainDeleteRecordsRequestUptoRow : OpenClaim := { program := "ytkakokckdlkbpaagreatdoor", sum := "56f907f1348759376027fd0011eccbab7de31440b3cb798b547e6bccf189dcae", func := "pub-kmsg/laws.FnAgainDeleteRecordsRequest", spec := "fnAgainDeleteRecordsRequest", inPlace := ["internal/reflectlite.ValueOf", "internal/reflectlite.Swapper", "(internal/reflectlite.Value).Len"], unfollowed := true, recurses := true, named := ["encoding/binary.BigEndian", "pub-kmsg/pub/kmsg/inner/kbin.ErrNotEnoughData"], loops := true, apart := false, laid := [("pub-kmsg/pub/kmsg/inner/kbin.ErrNotEnoughData", laid_pub_kmsg_pub_kmsg_inner_kbin_ErrNotEnoughData)], narrowed := true }
def FnAgainDeleteRecordsRequestUptoSaid : Prop := fnAgainDeleteRecordsRequestUptoRow.holds Tryz.pinned (OpenSpec.upto fnAgainDeleteRecordsRequestSpec)

/-- 'laws.FnAgainDescribeShareGroupOffsetsRequest', WHERE WHAT IT READS IS OF BULK AT MOST 1048576: true; the input reads as it did. -/
def fnAgainDescribeShareGroupOffsetsRequestUptoRow : OpenClaim := { program := "ytkakokckdlkbpaagreatdoor", sum := "56f907f1348759376027fd0011eccbab7de31440b3cb798b547e6bccf189dcae", func := "pub-kmsg/laws.FnAgainDescribeShareGroupOffsetsRequest", spec := "fnAgainDescribeShareGroupOffsetsRequest", inPlace := ["internal/reflectlite.ValueOf", "internal/reflectlite.Swapper", "(internal/reflectlite.Value).Len"], unfollowed := true, recurses := true, named := ["encoding/binary.BigEndian", "pub-kmsg/pub/kmsg/inner/kbin.ErrNotEnoughData"], loops := true, apart := false, laid := [("pub-kmsg/pub/kmsg/inner/kbin.ErrNotEnoughData", laid_pub_kmsg_pub_kmsg_inner_kbin_ErrNotEnoughData)], narrowed := true }
def FnAgainDescribeShareGroupOffsetsRequestUptoSaid : Prop := fnAgainDescribeShareGroupOffsetsRequestUptoRow.holds Tryz.pinned (OpenSpec.upto fnAgainDescribeShareGroupOffsetsRequestSpec)

/-- 'laws.FnAgainUpdateRaftVoterRequest', WHERE WHAT IT READS IS OF BULK AT MOST 1048576: true; the input reads as it did. -/
def fnAgainUpdateRaftVoterRequestUptoRow : OpenClaim := { program := "ytkakokckdlkbpaagreatdoor", sum := "56f907f1348759376027fd0011eccbab7de31440b3cb798b547e6bccf189dcae", func := "pub-kmsg/laws.FnAgainUpdateRaftVoterRequest", spec := "fnAgainUpdateRaftVoterRequest", inPlace := ["internal/reflectlite.ValueOf", "internal/reflectlite.Swapper", "(internal/reflectlite.Value).Len"], unfollowed := true, recurses := true, named := ["encoding/binary.BigEndian", "pub-kmsg/pub/kmsg/inner/kbin.ErrNotEnoughData"], loops := true, apart := false, laid := [("pub-kmsg/pub/kmsg/inner/kbin.ErrNotEnoughData", laid_pub_kmsg_pub_kmsg_inner_kbin_ErrNotEnoughData)], narrowed := true }
def FnAgainUpdateRaftVoterRequestUptoSaid : Prop := fnAgainUpdateRaftVoterRequestUptoRow.holds Tryz.pinned (OpenSpec.upto fnAgainUpdateRaftVoterRequestSpec)

/-- 'laws.FnAgainAlterPartitionAssignmentsResponse', WHERE WHAT IT READS IS OF BULK AT MOST 1048576: true; the input reads as it did. -/
def fnAgainAlterPartitionAssignmentsResponseUptoRow : OpenClaim := { program := "ytkakokckdlkbpaagreatdoor", sum := "56f907f1348759376027fd0011eccbab7de31440b3cb798b547e6bccf189dcae", func := "pub-kmsg/laws.FnAgainAlterPartitionAssignmentsResponse", spec := "fnAgainAlterPartitionAssignmentsResponse", inPlace := ["internal/reflectlite.ValueOf", "internal/reflectlite.Swapper", "(internal/reflectlite.Value).Len"], unfollowed := true, recurses := true, named := ["encoding/binary.BigEndian", "pub-kmsg/pub/kmsg/inner/kbin.ErrNotEnoughData"], loops := true, apart := false, laid := [("pub-kmsg/pub/kmsg/inner/kbin.ErrNotEnoughData", laid_pub_kmsg_pub_kmsg_inner_kbin_ErrNotEnoughData)], narrowed := true }
def FnAgainAlterPartitionAssignmentsResponseUptoSaid : Prop := fnAgainAlterPartitionAssignmentsResponseUptoRow.holds Tryz.pinned (OpenSpec.upto fnAgainAlterPartitionAssignmentsResponseSpec)

/-- 'laws.FnAgainDescribeClusterResponse', WHERE WHAT IT READS IS OF BULK AT MOST 1048576: true; the input reads as it did. -/
def fnAgainDescribeClusterResponseUptoRow : OpenClaim := { program := "ytkakokckdlkbpaagreatdoor", sum := "56f907f1348759376027fd0011eccbab7de31440b3cb798b547e6bccf189dcae", func := "pub-kmsg/laws.FnAgainDescribeClusterResponse", spec := "fnAgainDescribeClusterResponse", inPlace := ["internal/reflectlite.ValueOf", "internal/reflectlite.Swapper", "(internal/reflectlite.Value).Len"], unfollowed := true, recurses := true, named := ["encoding/binary.BigEndian", "pub-kmsg/pub/kmsg/inner/kbin.ErrNotEnoughData"], loops := true, apart := false, laid := [("pub-kmsg/pub/kmsg/inner/kbin.ErrNotEnoughData", laid_pub_kmsg_pub_kmsg_inner_kbin_ErrNotEnoughData)], narrowed := true }
def FnAgainDescribeClusterResponseUptoSaid : Prop := fnAgainDescribeClusterResponseUptoRow.holds Tryz.pinned (OpenSpec.upto fnAgainDescribeClusterResponseSpec)

/-- 'laws.FnAgainReadShareGroupStateResponse', WHERE WHAT IT READS IS OF BULK AT MOST 1048576: true; the input reads as it did. -/
def fnAgainReadShareGroupStateResponseUptoRow : OpenClaim := { program := "ytkakokckdlkbpaagreatdoor", sum := "56f907f1348759376027fd0011eccbab7de31440b3cb798b547e6bccf189dcae", func := "pub-kmsg/laws.FnAgainReadShareGroupStateResponse", spec := "fnAgainReadShareGroupStateResponse", inPlace := ["internal/reflectlite.ValueOf", "internal/reflectlite.Swapper", "(internal/reflectlite.Value).Len"], unfollowed := true, recurses := true, named := ["encoding/binary.BigEndian", "pub-kmsg/pub/kmsg/inner/kbin.ErrNotEnoughData"], loops := true, apart := false, laid := [("pub-kmsg/pub/kmsg/inner/kbin.ErrNotEnoughData", laid_pub_kmsg_pub_kmsg_inner_kbin_ErrNotEnoughData)], narrowed := true }
def FnAgainReadShareGroupStateResponseUptoSaid : Prop := fnAgainReadShareGroupStateResponseUptoRow.holds Tryz.pinned (OpenSpec.upto fnAgainReadShareGroupStateResponseSpec)

/-- 'laws.FnAgainBeginQuorumEpochRequest', WHERE WHAT IT READS IS OF BULK AT MOST 1048576: true; the input reads as it did. -/
def fnAgainBeginQuorumEpochRequestUptoRow : OpenClaim := { program := "ytkakokckdlkbpaagreatdoor", sum := "56f907f1348759376027fd0011eccbab7de31440b3cb798b547e6bccf189dcae", func := "pub-kmsg/laws.FnAgainBeginQuorumEpochRequest", spec := "fnAgainBeginQuorumEpochRequest", inPlace := ["internal/reflectlite.ValueOf", "internal/reflectlite.Swapper", "(internal/reflectlite.Value).Len"], unfollowed := true, recurses := true, named := ["encoding/binary.BigEndian", "pub-kmsg/pub/kmsg/inner/kbin.ErrNotEnoughData"], loops := true, apart := false, laid := [("pub-kmsg/pub/kmsg/inner/kbin.ErrNotEnoughData", laid_pub_kmsg_pub_kmsg_inner_kbin_ErrNotEnoughData)], narrowed := true }
def FnAgainBeginQuorumEpochRequestUptoSaid : Prop := fnAgainBeginQuorumEpochRequestUptoRow.holds Tryz.pinned (OpenSpec.upto fnAgainBeginQuorumEpochRequestSpec)

/-- 'laws.FnAgainOffsetCommitRequest', WHERE WHAT IT READS IS OF BULK AT MOST 1048576: true; the input reads as it did. -/
def fnAgainOffsetCommitRequestUptoRow : OpenClaim := { program := "ytkakokckdlkbpaagreatdoor", sum := "56f907f1348759376027fd0011eccbab7de31440b3cb798b547e6bccf189dcae", func := "pub-kmsg/laws.FnAgainOffsetCommitRequest", spec := "fnAgainOffsetCommitRequest", inPlace := ["internal/reflectlite.ValueOf", "internal/reflectlite.Swapper", "(internal/reflectlite.Value).Len"], unfollowed := true, recurses := true, named := ["encoding/binary.BigEndian", "pub-kmsg/pub/kmsg/inner/kbin.ErrNotEnoughData"], loops := true, apart := false, laid := [("pub-kmsg/pub/kmsg/inner/kbin.ErrNotEnoughData", laid_pub_kmsg_pub_kmsg_inner_kbin_ErrNotEnoughData)], narrowed := true }
def FnAgainOffsetCommitRequestUptoSaid : Prop := fnAgainOffsetCommitRequestUptoRow.holds Tryz.pinned (OpenSpec.upto fnAgainOffsetCommitRequestSpec)

end Rows
end Go.Proofs.YtkakokckdlkbpaaGreatDoor
