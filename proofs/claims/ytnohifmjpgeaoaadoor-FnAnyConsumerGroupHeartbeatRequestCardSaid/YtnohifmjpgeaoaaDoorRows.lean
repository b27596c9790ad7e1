/-
  NARROWER THAN 'FOR EVERY INPUT', by the rows' own cells (each row's printed sentence says how): FnCutExpireDelegationTokenResponse: loops, laid · FnAgainAddOffsetsToTxnRequest: loops, laid · FnAnyStreamsGroupDescribeRequest: laid · FnAnyElectLeadersRequest: laid · FnAnyJoinGroupRequest: laid · FnAnyListPartitionReassignmentsResponse: laid · FnAnyConsumerGroupHeartbeatRequest: laid.
  DERIVED. THE GIVEN ROWS OF THIS SEAT. 7 by the template 'for every input the law returns true; each argument reads behind the call as it read before'; 0 by the template 'total and deterministic' (their statements: YtnohifmjpgeaoaaDoorTotals.lean).
  GIVEN WITH THE SEED: the statements are not yours to turn. If you find one false, say at which input.
  Laid BY PROGRAM, IN A SANDBOX (cutbox-rows.mjs): the forced cells as the released guide's own fill.sh prints them over the translation 8bdfc2809369994c… (all of the seat's roots in one cut). By AI agents, Wed Nov 11 2026. No macro, syntax, notation, axiom, sorry.
-/
import Derived.Test.YtnohifmjpgeaoaaDoorChecked
import GoSem.Claim
import GoSem.ClaimJoined
import GoSem.ClaimMapViews
import Derived.JoinedTies
import Derived.KernelRfl
namespace Go.Proofs.YtnohifmjpgeaoaaDoor
/- THE CELL 'sum', in the pinned program and in every row, IS THE sha256 OF THE DUMP (.gsa) THAT YtnohifmjpgeaoaaDoorProg.lean LOADS. Nothing in Lean hashes anything: it is a label: what it is worth is what the hold of that sum in a sandbox is worth. -/
noncomputable def Tryd.pinned : Pinned := { name := "ytnohifmjpgeaoaadoor", sum := "8bdfc2809369994cf9bb3b93db0c7169635f90eca5974d3505d37a9bb477f99b", checked := Tryd.checked }
namespace Rows
def none {H : Type} : Left H := { results := [], args := [] }

/- WHAT THE LISTED PACKAGE-LEVEL VARIABLES READ AS WHEN THE CALL BEGINS. Each datum BY PROGRAM (the guide's laid-datum.mjs) off the statement by which the dump's own 'gosem.cut.vars' lays the variable. In a bare row this is a premise. The card (YtnohifmjpgeaoaaDoorCards.lean) ties it to the program's text. -/
def laid_pub_kmsg_pub_kmsg_inner_kbin_ErrNotEnoughData {H : Type} : DataW H := .iface "*errors.errorString" (.ptr (.agg [.lit (.string [114, 101, 115, 112, 111, 110, 115, 101, 32, 100, 105, 100, 32, 110, 111, 116, 32, 99, 111, 110, 116, 97, 105, 110, 32, 101, 110, 111, 117, 103, 104, 32, 100, 97, 116, 97, 32, 116, 111, 32, 98, 101, 32, 118, 97, 108, 105, 100])]))

/-- 'laws.FnCutExpireDelegationTokenResponse': WHATEVER THE INPUT: true; the input reads as it did. -/
def fnCutExpireDelegationTokenResponseSpec : ChangeSpec := { name := "fnCutExpireDelegationTokenResponse", fn := fun _ => fun
  | [d1, d2, d3] => { results := [.lit (.bool true)], args := [d1, d2, d3] }
  | _ => none }
def fnCutExpireDelegationTokenResponseRow : OpenClaim := { program := "ytnohifmjpgeaoaadoor", sum := "8bdfc2809369994cf9bb3b93db0c7169635f90eca5974d3505d37a9bb477f99b", func := "pub-kmsg/laws.FnCutExpireDelegationTokenResponse", spec := "fnCutExpireDelegationTokenResponse", inPlace := ["internal/reflectlite.ValueOf", "internal/reflectlite.Swapper", "(internal/reflectlite.Value).Len"], unfollowed := true, recurses := true, named := ["encoding/binary.BigEndian", "pub-kmsg/pub/kmsg/inner/kbin.ErrNotEnoughData"], loops := true, apart := false, laid := [("pub-kmsg/pub/kmsg/inner/kbin.ErrNotEnoughData", laid_pub_kmsg_pub_kmsg_inner_kbin_ErrNotEnoughData)] }
def FnCutExpireDelegationTokenResponseSaid : Prop := fnCutExpireDelegationTokenResponseRow.holds Tryd.pinned (OpenSpec.ofChange fnCutExpireDelegationTokenResponseSpec)

/-- ITS FALSE NEIGHBOUR: 'it returns false'. Refute it at one input. -/
def fnCutExpireDelegationTokenResponseWrong : ChangeSpec := { name := "fnCutExpireDelegationTokenResponse", fn := fun _ => fun
  | [d1, d2, d3] => { results := [.lit (.bool false)], args := [d1, d2, d3] }
  | _ => none }
def FnCutExpireDelegationTokenResponseWrongFalsely : Prop := fnCutExpireDelegationTokenResponseRow.holds Tryd.pinned (OpenSpec.ofChange fnCutExpireDelegationTokenResponseWrong)

/-- 'laws.FnAgainAddOffsetsToTxnRequest': WHATEVER THE INPUT: true; the input reads as it did. -/
def fnAgainAddOffsetsToTxnRequestSpec : ChangeSpec := { name := "fnAgainAddOffsetsToTxnRequest", fn := fun _ => fun
  | [d1, d2] => { results := [.lit (.bool true)], args := [d1, d2] }
  | _ => none }
def fnAgainAddOffsetsToTxnRequestRow : OpenClaim := { program := "ytnohifmjpgeaoaadoor", sum := "8bdfc2809369994cf9bb3b93db0c7169635f90eca5974d3505d37a9bb477f99b", func := "pub-kmsg/laws.FnAgainAddOffsetsToTxnRequest", spec := "fnAgainAddOffsetsToTxnRequest", inPlace := ["internal/reflectlite.ValueOf", "internal/reflectlite.Swapper", "(internal/reflectlite.Value).Len"], unfollowed := true, recurses := true, named := ["encoding/binary.BigEndian", "pub-kmsg/pub/kmsg/inner/kbin.ErrNotEnoughData"], loops := true, apart := false, laid := [("pub-kmsg/pub/kmsg/inner/kbin.ErrNotEnoughData", laid_pub_kmsg_pub_kmsg_inner_kbin_ErrNotEnoughData)] }
def FnAgainAddOffsetsToTxnRequestSaid : Prop := fnAgainAddOffsetsToTxnRequestRow.holds Tryd.pinned (OpenSpec.ofChange fnAgainAddOffsetsToTxnRequestSpec)

/-- ITS FALSE NEIGHBOUR: 'it returns false'. Refute it at one input. -/
def fnAgainAddOffsetsToTxnRequestWrong : ChangeSpec := { name := "fnAgainAddOffsetsToTxnRequest", fn := fun _ => fun
  | [d1, d2] => { results := [.lit (.bool false)], args := [d1, d2] }
  | _ => none }
def FnAgainAddOffsetsToTxnRequestWrongFalsely : Prop := fnAgainAddOffsetsToTxnRequestRow.holds Tryd.pinned (OpenSpec.ofChange fnAgainAddOffsetsToTxnRequestWrong)

/-- 'laws.FnAnyStreamsGroupDescribeRequest': WHATEVER THE INPUT: true; the input reads as it did. -/
def fnAnyStreamsGroupDescribeRequestSpec : ChangeSpec := { name := "fnAnyStreamsGroupDescribeRequest", fn := fun _ => fun
  | [d1, d2] => { results := [.lit (.bool true)], args := [d1, d2] }
  | _ => none }
def fnAnyStreamsGroupDescribeRequestRow : OpenClaim := { program := "ytnohifmjpgeaoaadoor", sum := "8bdfc2809369994cf9bb3b93db0c7169635f90eca5974d3505d37a9bb477f99b", func := "pub-kmsg/laws.FnAnyStreamsGroupDescribeRequest", spec := "fnAnyStreamsGroupDescribeRequest", inPlace := ["internal/reflectlite.ValueOf", "internal/reflectlite.Swapper", "(internal/reflectlite.Value).Len"], unfollowed := true, recurses := true, named := ["encoding/binary.BigEndian", "pub-kmsg/pub/kmsg/inner/kbin.ErrNotEnoughData"], apart := false, laid := [("pub-kmsg/pub/kmsg/inner/kbin.ErrNotEnoughData", laid_pub_kmsg_pub_kmsg_inner_kbin_ErrNotEnoughData)] }
def FnAnyStreamsGroupDescribeRequestSaid : Prop := fnAnyStreamsGroupDescribeRequestRow.holds Tryd.pinned (OpenSpec.ofChange fnAnyStreamsGroupDescribeRequestSpec)

/-- ITS FALSE NEIGHBOUR: 'it returns false'. Refute it at one input. -/
def fnAnyStreamsGroupDescribeRequestWrong : ChangeSpec := { name := "fnAnyStreamsGroupDescribeRequest", fn := fun _ => fun
  | [d1, d2] => { results := [.lit (.bool false)], args := [d1, d2] }
  | _ => none }
def FnAnyStreamsGroupDescribeRequestWrongFalsely : Prop := fnAnyStreamsGroupDescribeRequestRow.holds Tryd.pinned (OpenSpec.ofChange fnAnyStreamsGroupDescribeRequestWrong)

/-- 'laws.FnAnyElectLeadersRequest': WHATEVER THE INPUT: true; the input reads as it did. -/
def fnAnyElectLeadersRequestSpec : ChangeSpec := { name := "fnAnyElectLeadersRequest", fn := fun _ => fun
  | [d1, d2] => { results := [.lit (.bool true)], args := [d1, d2] }
  | _ => none }
def fnAnyElectLeadersRequestRow : OpenClaim := { program := "ytnohifmjpgeaoaadoor", sum := "8bdfc2809369994cf9bb3b93db0c7169635f90eca5974d3505d37a9bb477f99b", func := "pub-kmsg/laws.FnAnyElectLeadersRequest", spec := "fnAnyElectLeadersRequest", inPlace := ["internal/reflectlite.ValueOf", "internal/reflectlite.Swapper", "(internal/reflectlite.Value).Len"], unfollowed := true, recurses := true, named := ["encoding/binary.BigEndian", "pub-kmsg/pub/kmsg/inner/kbin.ErrNotEnoughData"], apart := false, laid := [("pub-kmsg/pub/kmsg/inner/kbin.ErrNotEnoughData", laid_pub_kmsg_pub_kmsg_inner_kbin_ErrNotEnoughData)] }
def FnAnyElectLeadersRequestSaid : Prop := fnAnyElectLeadersRequestRow.holds Tryd.pinned (OpenSpec.ofChange fnAnyElectLeadersRequestSpec)

/-- ITS FALSE NEIGHBOUR: 'it returns false'. Refute it at one input. -/
def fnAnyElectLeadersRequestWrong : ChangeSpec := { name := "fnAnyElectLeadersRequest", fn := fun _ => fun
  | [d1, d2] => { results := [.lit (.bool false)], args := [d1, d2] }
  | _ => none }
def FnAnyElectLeadersRequestWrongFalsely : Prop := fnAnyElectLeadersRequestRow.holds Tryd.pinned (OpenSpec.ofChange fnAnyElectLeadersRequestWrong)

/-- 'laws.FnAnyJoinGroupRequest': WHATEVER THE INPUT: true; the input reads as it did. -/
def fnAnyJoinGroupRequestSpec : ChangeSpec := { name := "fnAnyJoinGroupRequest", fn := fun _ => fun
  | [d1, d2] => { results := [.lit (.bool true)], args := [d1, d2] }
  | _ => none }
def fnAnyJoinGroupRequestRow : OpenClaim := { program := "ytnohifmjpgeaoaadoor", sum := "8bdfc2809369994cf9bb3b93db0c7169635f90eca5974d3505d37a9bb477f99b", func := "pub-kmsg/laws.FnAnyJoinGroupRequest", spec := "fnAnyJoinGroupRequest", inPlace := ["internal/reflectlite.ValueOf", "internal/reflectlite.Swapper", "(internal/reflectlite.Value).Len"], unfollowed := true, recurses := true, named := ["encoding/binary.BigEndian", "pub-kmsg/pub/kmsg/inner/kbin.ErrNotEnoughData"], apart := false, laid := [("pub-kmsg/pub/kmsg/inner/kbin.ErrNotEnoughData", laid_pub_kmsg_pub_kmsg_inner_kbin_ErrNotEnoughData)] }
def FnAnyJoinGroupRequestSaid : Prop := fnAnyJoinGroupRequestRow.holds Tryd.pinned (OpenSpec.ofChange fnAnyJoinGroupRequestSpec)

/-- ITS FALSE NEIGHBOUR: 'it returns false'. Refute it at one input. -/
def fnAnyJoinGroupRequestWrong : ChangeSpec := { name := "fnAnyJoinGroupRequest", fn := fun _ => fun
  | [d1, d2] => { results := [.lit (.bool false)], args := [d1, d2] }
  | _ => none }
def FnAnyJoinGroupRequestWrongFalsely : Prop := fnAnyJoinGroupRequestRow.holds Tryd.pinned (OpenSpec.ofChange fnAnyJoinGroupRequestWrong)

/-- 'laws.FnAnyListPartitionReassignmentsResponse': WHATEVER THE INPUT: true; the input reads as it did. -/
def fnAnyListPartitionReassignmentsResponseSpec : ChangeSpec := { name := "fnAnyListPartitionReassignmentsResponse", fn := fun _ => fun
  | [d1, d2] => { results := [.lit (.bool true)], args := [d1, d2] }
  | _ => none }
def fnAnyListPartitionReassignmentsResponseRow : OpenClaim := { program := "ytnohifmjpgeaoaadoor", sum := "8bdfc2809369994cf9bb3b93db0c7169635f90eca5974d3505d37a9bb477f99b", func := "pub-kmsg/laws.FnAnyListPartitionReassignmentsResponse", spec := "fnAnyListPartitionReassignmentsResponse", inPlace := ["internal/reflectlite.ValueOf", "internal/reflectlite.Swapper", "(internal/reflectlite.Value).Len"], unfollowed := true, recurses := true, named := ["encoding/binary.BigEndian", "pub-kmsg/pub/kmsg/inner/kbin.ErrNotEnoughData"], apart := false, laid := [("pub-kmsg/pub/kmsg/inner/kbin.ErrNotEnoughData", laid_pub_kmsg_pub_kmsg_inner_kbin_ErrNotEnoughData)] }
def FnAnyListPartitionReassignmentsResponseSaid : Prop := fnAnyListPartitionReassignmentsResponseRow.holds Tryd.pinned (OpenSpec.ofChange fnAnyListPartitionReassignmentsResponseSpec)

/-- ITS FALSE NEIGHBOUR: 'it returns false'. Refute it at one input. -/
def fnAnyListPartitionReassignmentsResponseWrong : ChangeSpec := { name := "fnAnyListPartitionReassignmentsResponse", fn := fun _ => fun
  | [d1, d2] => { results := [.lit (.bool false)], args := [d1, d2] }
  | _ => none }
def FnAnyListPartitionReassignmentsResponseWrongFalsely : Prop := fnAnyListPartitionReassignmentsResponseRow.holds Tryd.pinned (OpenSpec.ofChange fnAnyListPartitionReassignmentsResponseWrong)

/-- 'laws.FnAnyConsumerGroupHeartbeatRequest': WHATEVER THE INPUT: true; the input reads as it did. -/
def fnAnyConsumerGroupHeartbeatRequestSpec : ChangeSpec := { name := "fnAnyConsumerGroupHeartbeatRequest", fn := fun _ => fun
  | [d1, d2] => { results := [.lit (.bool true)], args := [d1, d2] }
  | _ => none }
def fnAnyConsumerGroupHeartbeatRequestRow : OpenClaim := { program := "ytnohifmjpgeaoaadoor", sum := "8bdfc2809369994cf9bb3b93db0c7169635f90eca5974d3505d37a9bb477f99b", func := "pub-kmsg/laws.FnAnyConsumerGroupHeartbeatRequest", spec := "fnAnyConsumerGroupHeartbeatRequest", inPlace := ["internal/reflectlite.ValueOf", "internal/reflectlite.Swapper", "(internal/reflectlite.Value).Len"], unfollowed := true, recurses := true, named := ["encoding/binary.BigEndian", "pub-kmsg/pub/kmsg/inner/kbin.ErrNotEnoughData"], apart := false, laid := [("pub-kmsg/pub/kmsg/inner/kbin.ErrNotEnoughData", laid_pub_kmsg_pub_kmsg_inner_kbin_ErrNotEnoughData)] }
def FnAnyConsumerGroupHeartbeatRequestSaid : Prop := fnAnyConsumerGroupHeartbeatRequestRow.holds Tryd.pinned (OpenSpec.ofChange fnAnyConsumerGroupHeartbeatRequestSpec)

/-- ITS FALSE NEIGHBOUR: 'it returns false'. Refute it at one input. -/
def fnAnyConsumerGroupHeartbeatRequestWrong : ChangeSpec := { name := "fnAnyConsumerGroupHeartbeatRequest", fn := fun _ => fun
  | [d1, d2] => { results := [.lit (.bool false)], args := [d1, d2] }
  | _ => none }
def FnAnyConsumerGroupHeartbeatRequestWrongFalsely : Prop := fnAnyConsumerGroupHeartbeatRequestRow.holds Tryd.pinned (OpenSpec.ofChange fnAnyConsumerGroupHeartbeatRequestWrong)

/- THE SECOND FORM. 'bulk': how many values and letters a reading holds, each counted each time it is reached (what is shared counts as often as it is met; a slice's spare places count too). A statement '..UptoSaid' is the law's where the arguments, and the package variables that the reading takes, are together of bulk at most 1048576: NARROWER than '..Said'. Prove '..Said' where nothing that the law and all that it calls make is longer than what came in: it says more and counts as full. Else prove '..UptoSaid'. A law counts once. -/
mutual
def uptoBulk {H : Type} : DataW H → Nat
  | .lit (.string bytes) => bytes.length + 1
  | .lit _ => 1
  | .nil => 1
  | .ptr d => uptoBulk d + 1
  | .slice elems spare => uptoBulkAll elems + uptoBulkAll spare + 1
  | .agg parts => uptoBulkAll parts + 1
  | .iface _ d => uptoBulk d + 1
  | .map entries => uptoBulkEntries entries + 1
  | .held _ => 1
def uptoBulkAll {H : Type} : List (DataW H) → Nat
  | [] => 0
  | d :: r => uptoBulk d + uptoBulkAll r
def uptoBulkEntries {H : Type} : List (Lit × DataW H) → Nat
  | [] => 0
  | x :: r => uptoBulkEntry x + uptoBulkEntries r
def uptoBulkEntry {H : Type} : Lit × DataW H → Nat
  | (.string bytes, d) => bytes.length + uptoBulk d + 1
  | (_, d) => uptoBulk d + 1
 end
def uptoSmall : (H : Type) → List (DataW H) → Bool := fun _ ds => decide (uptoBulkAll ds ≤ 1048576)
def OpenSpec.upto (s : _root_.Go.ChangeSpec) : _root_.Go.OpenSpec := { _root_.Go.OpenSpec.ofChange s with cond := some uptoSmall }

/-- 'laws.FnCutExpireDelegationTokenResponse', WHERE WHAT IT READS IS OF BULK AT MOST 1048576: true; the input reads as it did. -/
def fnCutExpireDelegationTokenResponseUptoRow : OpenClaim := { program := "ytnohifmjpgeaoaadoor", sum := "8bdfc2809369994cf9bb3b93db0c7169635f90eca5974d3505d37a9bb477f99b", func := "pub-kmsg/laws.FnCutExpireDelegationTokenResponse", spec := "fnCutExpireDelegationTokenResponse", inPlace := ["internal/reflectlite.ValueOf", "internal/reflectlite.Swapper", "(internal/reflectlite.Value).Len"], unfollowed := true, recurses := true, named := ["encoding/binary.BigEndian", "pub-kmsg/pub/kmsg/inner/kbin.ErrNotEnoughData"], loops := true, apart := false, laid := [("pub-kmsg/pub/kmsg/inner/kbin.ErrNotEnoughData", laid_pub_kmsg_pub_kmsg_inner_kbin_ErrNotEnoughData)], narrowed := true }
def FnCutExpireDelegationTokenResponseUptoSaid : Prop := fnCutExpireDelegationTokenResponseUptoRow.holds Tryd.pinned (OpenSpec.upto fnCutExpireDelegationTokenResponseSpec)

/-- 'laws.FnAgainAddOffsetsToTxnRequest', WHERE WHAT IT READS IS OF BULK AT MOST 1048576: true; the input reads as it did. -/
def fnAgainAddOffsetsToTxnRequestUptoRow : OpenClaim := { program := "ytnohifmjpgeaoaadoor", sum := "8bdfc2809369994cf9bb3b93db0c7169635f90eca5974d3505d37a9bb477f99b", func := "pub-kmsg/laws.FnAgainAddOffsetsToTxnRequest", spec := "fnAgainAddOffsetsToTxnRequest", inPlace := ["internal/reflectlite.ValueOf", "internal/reflectlite.Swapper", "(internal/reflectlite.Value).Len"], unfollowed := true, recurses := true, named := ["encoding/binary.BigEndian", "pub-kmsg/pub/kmsg/inner/kbin.ErrNotEnoughData"], loops := true, apart := false, laid := [("pub-kmsg/pub/kmsg/inner/kbin.ErrNotEnoughData", laid_pub_kmsg_pub_kmsg_inner_kbin_ErrNotEnoughData)], narrowed := true }
def FnAgainAddOffsetsToTxnRequestUptoSaid : Prop := fnAgainAddOffsetsToTxnRequestUptoRow.holds Tryd.pinned (OpenSpec.upto fnAgainAddOffsetsToTxnRequestSpec)

/-- 'laws.FnAnyStreamsGroupDescribeRequest', WHERE WHAT IT READS IS OF BULK AT MOST 1048576: true; the input reads as it did. -/
def fnAnyStreamsGroupDescribeRequestUptoRow : OpenClaim := { program := "ytnohifmjpgeaoaadoor", sum := "8bdfc2809369994cf9bb3b93db0c7169635f90eca5974d3505d37a9bb477f99b", func := "pub-kmsg/laws.FnAnyStreamsGroupDescribeRequest", spec := "fnAnyStreamsGroupDescribeRequest", inPlace := ["internal/reflectlite.ValueOf", "internal/reflectlite.Swapper", "(internal/reflectlite.Value).Len"], unfollowed := true, recurses := true, named := ["encoding/binary.BigEndian", "pub-kmsg/pub/kmsg/inner/kbin.ErrNotEnoughData"], apart := false, laid := [("pub-kmsg/pub/kmsg/inner/kbin.ErrNotEnoughData", laid_pub_kmsg_pub_kmsg_inner_kbin_ErrNotEnoughData)], narrowed := true }
def FnAnyStreamsGroupDescribeRequestUptoSaid : Prop := fnAnyStreamsGroupDescribeRequestUptoRow.holds Tryd.pinned (OpenSpec.upto fnAnyStreamsGroupDescribeRequestSpec)

/-- 'laws.FnAnyElectLeadersRequest', WHERE WHAT IT READS IS OF BULK AT MOST 1048576: true; the input reads as it did. -/
def fnAnyElectLeadersRequestUptoRow : OpenClaim := { program := "ytnohifmjpgeaoaadoor", sum := "8bdfc2809369994cf9bb3b93db0c7169635f90eca5974d3505d37a9bb477f99b", func := "pub-kmsg/laws.FnAnyElectLeadersRequest", spec := "fnAnyElectLeadersRequest", inPlace := ["internal/reflectlite.ValueOf", "internal/reflectlite.Swapper", "(internal/reflectlite.Value).Len"], unfollowed := true, recurses := true, named := ["encoding/binary.BigEndian", "pub-kmsg/pub/kmsg/inner/kbin.ErrNotEnoughData"], apart := false, laid := [("pub-kmsg/pub/kmsg/inner/kbin.ErrNotEnoughData", laid_pub_kmsg_pub_kmsg_inner_kbin_ErrNotEnoughData)], narrowed := true }
def FnAnyElectLeadersRequestUptoSaid : Prop := fnAnyElectLeadersRequestUptoRow.holds Tryd.pinned (OpenSpec.upto fnAnyElectLeadersRequestSpec)

/-- 'laws.FnAnyJoinGroupRequest', WHERE WHAT IT READS IS OF BULK AT MOST 1048576: true; the input reads as it did. -/
def fnAnyJoinGroupRequestUptoRow : OpenClaim := { program := "ytnohifmjpgeaoaadoor", sum := "8bdfc2809369994cf9bb3b93db0c7169635f90eca5974d3505d37a9bb477f99b", func := "pub-kmsg/laws.FnAnyJoinGroupRequest", spec := "fnAnyJoinGroupRequest", inPlace := ["internal/reflectlite.ValueOf", "internal/reflectlite.Swapper", "(internal/reflectlite.Value).Len"], unfollowed := true, recurses := true, named := ["encoding/binary.BigEndian", "pub-kmsg/pub/kmsg/inner/kbin.ErrNotEnoughData"], apart := false, laid := [("pub-kmsg/pub/kmsg/inner/kbin.ErrNotEnoughData", laid_pub_kmsg_pub_kmsg_inner_kbin_ErrNotEnoughData)], narrowed := true }
def FnAnyJoinGroupRequestUptoSaid : Prop := fnAnyJoinGroupRequestUptoRow.holds Tryd.pinned (OpenSpec.upto fnAnyJoinGroupRequestSpec)

/-- 'laws.FnAnyListPartitionReassignmentsResponse', WHERE WHAT IT READS IS OF BULK AT MOST 1048576: true; the input reads as it did. -/
def fnAnyListPartitionReassignmentsResponseUptoRow : OpenClaim := { program := "ytnohifmjpgeaoaadoor", sum := "8bdfc2809369994cf9bb3b93db0c7169635f90eca5974d3505d37a9bb477f99b", func := "pub-kmsg/laws.FnAnyListPartitionReassignmentsResponse", spec := "fnAnyListPartitionReassignmentsResponse", inPlace := ["internal/reflectlite.ValueOf", "internal/reflectlite.Swapper", "(internal/reflectlite.Value).Len"], unfollowed := true, recurses := true, named := ["encoding/binary.BigEndian", "pub-kmsg/pub/kmsg/inner/kbin.ErrNotEnoughData"], apart := false, laid := [("pub-kmsg/pub/kmsg/inner/kbin.ErrNotEnoughData", laid_pub_kmsg_pub_kmsg_inner_kbin_ErrNotEnoughData)], narrowed := true }
def FnAnyListPartitionReassignmentsResponseUptoSaid : Prop := fnAnyListPartitionReassignmentsResponseUptoRow.holds Tryd.pinned (OpenSpec.upto fnAnyListPartitionReassignmentsResponseSpec)

/-- 'laws.FnAnyConsumerGroupHeartbeatRequest', WHERE WHAT IT READS IS OF BULK AT MOST 1048576: true; the input reads as it did. -/
def fnAnyConsumerGroupHeartbeatRequestUptoRow : OpenClaim := { program := "ytnohifmjpgeaoaadoor", sum := "8bdfc2809369994cf9bb3b93db0c7169635f90eca5974d3505d37a9bb477f99b", func := "pub-kmsg/laws.FnAnyConsumerGroupHeartbeatRequest", spec := "fnAnyConsumerGroupHeartbeatRequest", inPlace := ["internal/reflectlite.ValueOf", "internal/reflectlite.Swapper", "(internal/reflectlite.Value).Len"], unfollowed := true, recurses := true, named := ["encoding/binary.BigEndian", "pub-kmsg/pub/kmsg/inner/kbin.ErrNotEnoughData"], apart := false, laid := [("pub-kmsg/pub/kmsg/inner/kbin.ErrNotEnoughData", laid_pub_kmsg_pub_kmsg_inner_kbin_ErrNotEnoughData)], narrowed := true }
def FnAnyConsumerGroupHeartbeatRequestUptoSaid : Prop := fnAnyConsumerGroupHeartbeatRequestUptoRow.holds Tryd.pinned (OpenSpec.upto fnAnyConsumerGroupHeartbeatRequestSpec)

end Rows
end Go.Proofs.YtnohifmjpgeaoaaDoor
