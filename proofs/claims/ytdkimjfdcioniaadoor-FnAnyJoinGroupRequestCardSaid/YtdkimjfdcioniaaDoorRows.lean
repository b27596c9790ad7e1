/-
  NARROWER THAN 'FOR EVERY INPUT', by the rows' own cells (each row's printed sentence says how): FnAnyAlterClientQuotasRequest: laid · FnAnyAlterUserSCRAMCredentialsResponse: laid · FnAnyConsumerGroupHeartbeatRequest: laid · FnAnyDescribeACLsRequest: laid · FnAnyDescribeLogDirsResponse: laid · FnAnyElectLeadersRequest: laid · FnAnyJoinGroupRequest: laid · FnAnyListPartitionReassignmentsResponse: laid · FnAnyProduceRequest: laid · FnAnySASLAuthenticateResponse: laid · FnAnyUnregisterControllerResponse: laid.
  DERIVED. THE GIVEN ROWS OF THIS SEAT. 11 by the template 'for every input the law returns true; each argument reads behind the call as it read before'; 0 by the template 'total and deterministic' (their statements: YtdkimjfdcioniaaDoorTotals.lean).
  GIVEN WITH THE SEED: the statements are not yours to turn. If you find one false, say at which input.
  Laid BY PROGRAM, IN A SANDBOX (cutbox-rows.mjs): the forced cells as the released guide's own fill.sh prints them over the translation a5ed88c51b01e61c… (all of the seat's roots in one cut). By AI agents, Wed Nov 11 2026. No macro, syntax, notation, axiom, sorry.
-/
import Derived.Test.YtdkimjfdcioniaaDoorChecked
import GoSem.Claim
import GoSem.ClaimJoined
import GoSem.ClaimMapViews
import Derived.JoinedTies
import Derived.KernelRfl
namespace Go.Proofs.YtdkimjfdcioniaaDoor
/- THE CELL 'sum', in the pinned program and in every row, IS THE sha256 OF THE DUMP (.gsa) THAT YtdkimjfdcioniaaDoorProg.lean LOADS. Nothing in Lean hashes anything: it is a label: what it is worth is what the hold of that sum in a sandbox is worth. -/
noncomputable def Tryd.pinned : Pinned := { name := "ytdkimjfdcioniaadoor", sum := "a5ed88c51b01e61cf91bf300f63679d01e42d4a10dc1ed19a8ce6b660c2bca6f", checked := Tryd.checked }
namespace Rows
def none {H : Type} : Left H := { results := [], args := [] }

/- WHAT THE LISTED PACKAGE-LEVEL VARIABLES READ AS WHEN THE CALL BEGINS. Each datum BY PROGRAM (the guide's laid-datum.mjs) off the statement by which the dump's own 'gosem.cut.vars' lays the variable. In a bare row this is a premise. The card (YtdkimjfdcioniaaDoorCards.lean) ties it to the program's text. -/
def laid_pub_kmsg_pub_kmsg_inner_kbin_ErrNotEnoughData {H : Type} : DataW H := .iface "*errors.errorString" (.ptr (.agg [.lit (.string [114, 101, 115, 112, 111, 110, 115, 101, 32, 100, 105, 100, 32, 110, 111, 116, 32, 99, 111, 110, 116, 97, 105, 110, 32, 101, 110, 111, 117, 103, 104, 32, 100, 97, 116, 97, 32, 116, 111, 32, 98, 101, 32, 118, 97, 108, 105, 100])]))

/-- 'laws.FnAnyAlterClientQuotasRequest': WHATEVER THE INPUT: true; the input reads as it did. -/
def fnAnyAlterClientQuotasRequestSpec : ChangeSpec := { name := "fnAnyAlterClientQuotasRequest", fn := fun _ => fun
  | [d1, d2] => { results := [.lit (.bool true)], args := [d1, d2] }
  | _ => none }
def fnAnyAlterClientQuotasRequestRow : OpenClaim := { program := "ytdkimjfdcioniaadoor", sum := "a5ed88c51b01e61cf91bf300f63679d01e42d4a10dc1ed19a8ce6b660c2bca6f", func := "pub-kmsg/laws.FnAnyAlterClientQuotasRequest", spec := "fnAnyAlterClientQuotasRequest", inPlace := ["math.Float64frombits", "internal/reflectlite.ValueOf", "internal/reflectlite.Swapper", "(internal/reflectlite.Value).Len", "math.Float64bits"], unfollowed := true, recurses := true, named := ["encoding/binary.BigEndian", "pub-kmsg/pub/kmsg/inner/kbin.ErrNotEnoughData"], apart := false, laid := [("pub-kmsg/pub/kmsg/inner/kbin.ErrNotEnoughData", laid_pub_kmsg_pub_kmsg_inner_kbin_ErrNotEnoughData)] }
def FnAnyAlterClientQuotasRequestSaid : Prop := fnAnyAlterClientQuotasRequestRow.holds Tryd.pinned (OpenSpec.ofChange fnAnyAlterClientQuotasRequestSpec)

/-- ITS FALSE NEIGHBOUR: 'it returns false'. Refute it at one input. -/
def fnAnyAlterClientQuotasRequestWrong : ChangeSpec := { name := "fnAnyAlterClientQuotasRequest", fn := fun _ => fun
  | [d1, d2] => { results := [.lit (.bool false)], args := [d1, d2] }
  | _ => none }
def FnAnyAlterClientQuotasRequestWrongFalsely : Prop := fnAnyAlterClientQuotasRequestRow.holds Tryd.pinned (OpenSpec.ofChange fnAnyAlterClientQuotasRequestWrong)

/-- 'laws.FnAnyAlterUserSCRAMCredentialsResponse': WHATEVER THE INPUT: true; the input reads as it did. -/
def fnAnyAlterUserSCRAMCredentialsResponseSpec : ChangeSpec := { name := "fnAnyAlterUserSCRAMCredentialsResponse", fn := fun _ => fun
  | [d1, d2] => { results := [.lit (.bool true)], args := [d1, d2] }
  | _ => none }
def fnAnyAlterUserSCRAMCredentialsResponseRow : OpenClaim := { program := "ytdkimjfdcioniaadoor", sum := "a5ed88c51b01e61cf91bf300f63679d01e42d4a10dc1ed19a8ce6b660c2bca6f", func := "pub-kmsg/laws.FnAnyAlterUserSCRAMCredentialsResponse", spec := "fnAnyAlterUserSCRAMCredentialsResponse", inPlace := ["internal/reflectlite.ValueOf", "internal/reflectlite.Swapper", "(internal/reflectlite.Value).Len"], unfollowed := true, recurses := true, named := ["encoding/binary.BigEndian", "pub-kmsg/pub/kmsg/inner/kbin.ErrNotEnoughData"], apart := false, laid := [("pub-kmsg/pub/kmsg/inner/kbin.ErrNotEnoughData", laid_pub_kmsg_pub_kmsg_inner_kbin_ErrNotEnoughData)] }
def FnAnyAlterUserSCRAMCredentialsResponseSaid : Prop := fnAnyAlterUserSCRAMCredentialsResponseRow.holds Tryd.pinned (OpenSpec.ofChange fnAnyAlterUserSCRAMCredentialsResponseSpec)

/-- ITS FALSE NEIGHBOUR: 'it returns false'. Refute it at one input. -/
def fnAnyAlterUserSCRAMCredentialsResponseWrong : ChangeSpec := { name := "fnAnyAlterUserSCRAMCredentialsResponse", fn := fun _ => fun
  | [d1, d2] => { results := [.lit (.bool false)], args := [d1, d2] }
  | _ => none }
def FnAnyAlterUserSCRAMCredentialsResponseWrongFalsely : Prop := fnAnyAlterUserSCRAMCredentialsResponseRow.holds Tryd.pinned (OpenSpec.ofChange fnAnyAlterUserSCRAMCredentialsResponseWrong)

/-- 'laws.FnAnyConsumerGroupHeartbeatRequest': WHATEVER THE INPUT: true; the input reads as it did. -/
def fnAnyConsumerGroupHeartbeatRequestSpec : ChangeSpec := { name := "fnAnyConsumerGroupHeartbeatRequest", fn := fun _ => fun
  | [d1, d2] => { results := [.lit (.bool true)], args := [d1, d2] }
  | _ => none }
def fnAnyConsumerGroupHeartbeatRequestRow : OpenClaim := { program := "ytdkimjfdcioniaadoor", sum := "a5ed88c51b01e61cf91bf300f63679d01e42d4a10dc1ed19a8ce6b660c2bca6f", func := "pub-kmsg/laws.FnAnyConsumerGroupHeartbeatRequest", spec := "fnAnyConsumerGroupHeartbeatRequest", inPlace := ["internal/reflectlite.ValueOf", "internal/reflectlite.Swapper", "(internal/reflectlite.Value).Len"], unfollowed := true, recurses := true, named := ["encoding/binary.BigEndian", "pub-kmsg/pub/kmsg/inner/kbin.ErrNotEnoughData"], apart := false, laid := [("pub-kmsg/pub/kmsg/inner/kbin.ErrNotEnoughData", laid_pub_kmsg_pub_kmsg_inner_kbin_ErrNotEnoughData)] }
def FnAnyConsumerGroupHeartbeatRequestSaid : Prop := fnAnyConsumerGroupHeartbeatRequestRow.holds Tryd.pinned (OpenSpec.ofChange fnAnyConsumerGroupHeartbeatRequestSpec)

/-- ITS FALSE NEIGHBOUR: 'it returns false'. Refute it at one input. -/
def fnAnyConsumerGroupHeartbeatRequestWrong : ChangeSpec := { name := "fnAnyConsumerGroupHeartbeatRequest", fn := fun _ => fun
  | [d1, d2] => { results := [.lit (.bool false)], args := [d1, d2] }
  | _ => none }
def FnAnyConsumerGroupHeartbeatRequestWrongFalsely : Prop := fnAnyConsumerGroupHeartbeatRequestRow.holds Tryd.pinned (OpenSpec.ofChange fnAnyConsumerGroupHeartbeatRequestWrong)

/-- 'laws.FnAnyDescribeACLsRequest': WHATEVER THE INPUT: true; the input reads as it did. -/
def fnAnyDescribeACLsRequestSpec : ChangeSpec := { name := "fnAnyDescribeACLsRequest", fn := fun _ => fun
  | [d1, d2] => { results := [.lit (.bool true)], args := [d1, d2] }
  | _ => none }
def fnAnyDescribeACLsRequestRow : OpenClaim := { program := "ytdkimjfdcioniaadoor", sum := "a5ed88c51b01e61cf91bf300f63679d01e42d4a10dc1ed19a8ce6b660c2bca6f", func := "pub-kmsg/laws.FnAnyDescribeACLsRequest", spec := "fnAnyDescribeACLsRequest", inPlace := ["internal/reflectlite.ValueOf", "internal/reflectlite.Swapper", "(internal/reflectlite.Value).Len"], unfollowed := true, recurses := true, named := ["encoding/binary.BigEndian", "pub-kmsg/pub/kmsg/inner/kbin.ErrNotEnoughData"], apart := false, laid := [("pub-kmsg/pub/kmsg/inner/kbin.ErrNotEnoughData", laid_pub_kmsg_pub_kmsg_inner_kbin_ErrNotEnoughData)] }
def FnAnyDescribeACLsRequestSaid : Prop := fnAnyDescribeACLsRequestRow.holds Tryd.pinned (OpenSpec.ofChange fnAnyDescribeACLsRequestSpec)

/-- ITS FALSE NEIGHBOUR: 'it returns false'. Refute it at one input. -/
def fnAnyDescribeACLsRequestWrong : ChangeSpec := { name := "fnAnyDescribeACLsRequest", fn := fun _ => fun
  | [d1, d2] => { results := [.lit (.bool false)], args := [d1, d2] }
  | _ => none }
def FnAnyDescribeACLsRequestWrongFalsely : Prop := fnAnyDescribeACLsRequestRow.holds Tryd.pinned (OpenSpec.ofChange fnAnyDescribeACLsRequestWrong)

/-- 'laws.FnAnyDescribeLogDirsResponse': WHATEVER THE INPUT: true; the input reads as it did. -/
def fnAnyDescribeLogDirsResponseSpec : ChangeSpec := { name := "fnAnyDescribeLogDirsResponse", fn := fun _ => fun
  | [d1, d2] => { results := [.lit (.bool true)], args := [d1, d2] }
  | _ => none }
def fnAnyDescribeLogDirsResponseRow : OpenClaim := { program := "ytdkimjfdcioniaadoor", sum := "a5ed88c51b01e61cf91bf300f63679d01e42d4a10dc1ed19a8ce6b660c2bca6f", func := "pub-kmsg/laws.FnAnyDescribeLogDirsResponse", spec := "fnAnyDescribeLogDirsResponse", inPlace := ["internal/reflectlite.ValueOf", "internal/reflectlite.Swapper", "(internal/reflectlite.Value).Len"], unfollowed := true, recurses := true, named := ["encoding/binary.BigEndian", "pub-kmsg/pub/kmsg/inner/kbin.ErrNotEnoughData"], apart := false, laid := [("pub-kmsg/pub/kmsg/inner/kbin.ErrNotEnoughData", laid_pub_kmsg_pub_kmsg_inner_kbin_ErrNotEnoughData)] }
def FnAnyDescribeLogDirsResponseSaid : Prop := fnAnyDescribeLogDirsResponseRow.holds Tryd.pinned (OpenSpec.ofChange fnAnyDescribeLogDirsResponseSpec)

/-- ITS FALSE NEIGHBOUR: 'it returns false'. Refute it at one input. -/
def fnAnyDescribeLogDirsResponseWrong : ChangeSpec := { name := "fnAnyDescribeLogDirsResponse", fn := fun _ => fun
  | [d1, d2] => { results := [.lit (.bool false)], args := [d1, d2] }
  | _ => none }
def FnAnyDescribeLogDirsResponseWrongFalsely : Prop := fnAnyDescribeLogDirsResponseRow.holds Tryd.pinned (OpenSpec.ofChange fnAnyDescribeLogDirsResponseWrong)

/-- 'laws.FnAnyElectLeadersRequest': WHATEVER THE INPUT: true; the input reads as it did. -/
def fnAnyElectLeadersRequestSpec : ChangeSpec := { name := "fnAnyElectLeadersRequest", fn := fun _ => fun
  | [d1, d2] => { results := [.lit (.bool true)], args := [d1, d2] }
  | _ => none }
def fnAnyElectLeadersRequestRow : OpenClaim := { program := "ytdkimjfdcioniaadoor", sum := "a5ed88c51b01e61cf91bf300f63679d01e42d4a10dc1ed19a8ce6b660c2bca6f", func := "pub-kmsg/laws.FnAnyElectLeadersRequest", spec := "fnAnyElectLeadersRequest", inPlace := ["internal/reflectlite.ValueOf", "internal/reflectlite.Swapper", "(internal/reflectlite.Value).Len"], unfollowed := true, recurses := true, named := ["encoding/binary.BigEndian", "pub-kmsg/pub/kmsg/inner/kbin.ErrNotEnoughData"], apart := false, laid := [("pub-kmsg/pub/kmsg/inner/kbin.ErrNotEnoughData", laid_pub_kmsg_pub_kmsg_inner_kbin_ErrNotEnoughData)] }
def FnAnyElectLeadersRequestSaid : Prop := fnAnyElectLeadersRequestRow.holds Tryd.pinned (OpenSpec.ofChange fnAnyElectLeadersRequestSpec)

/-- ITS FALSE NEIGHBOUR: 'it returns false'. Refute it at one input. -/
def fnAnyElectLeadersRequestWrong : ChangeSpec := { name := "fnAnyElectLeadersRequest", fn := fun _ => fun
  | [d1, d2] => { results := [.lit (.bool false)], args := [d1, d2] }
  | _ => none }
def FnAnyElectLeadersRequestWrongFalsely : Prop := fnAnyElectLeadersRequestRow.holds Tryd.pinned (OpenSpec.ofChange fnAnyElectLeadersRequestWrong)

/-- 'laws.FnAnyJoinGroupRequest': WHATEVER THE INPUT: true; the input reads as it did. -/
def fnAnyJoinGroupRequestSpec : ChangeSpec := { name := "fnAnyJoinGroupRequest", fn := fun _ => fun
  | [d1, d2] => { results := [.lit (.bool true)], args := [d1, d2] }
  | _ => none }
def fnAnyJoinGroupRequestRow : OpenClaim := { program := "ytdkimjfdcioniaadoor", sum := "a5ed88c51b01e61cf91bf300f63679d01e42d4a10dc1ed19a8ce6b660c2bca6f", func := "pub-kmsg/laws.FnAnyJoinGroupRequest", spec := "fnAnyJoinGroupRequest", inPlace := ["internal/reflectlite.ValueOf", "internal/reflectlite.Swapper", "(internal/reflectlite.Value).Len"], unfollowed := true, recurses := true, named := ["encoding/binary.BigEndian", "pub-kmsg/pub/kmsg/inner/kbin.ErrNotEnoughData"], apart := false, laid := [("pub-kmsg/pub/kmsg/inner/kbin.ErrNotEnoughData", laid_pub_kmsg_pub_kmsg_inner_kbin_ErrNotEnoughData)] }
def FnAnyJoinGroupRequestSaid : Prop := fnAnyJoinGroupRequestRow.holds Tryd.pinned (OpenSpec.ofChange fnAnyJoinGroupRequestSpec)

/-- ITS FALSE NEIGHBOUR: 'it returns false'. Refute it at one input. -/
def fnAnyJoinGroupRequestWrong : ChangeSpec := { name := "fnAnyJoinGroupRequest", fn := fun _ => fun
  | [d1, d2] => { results := [.lit (.bool false)], args := [d1, d2] }
  | _ => none }
def FnAnyJoinGroupRequestWrongFalsely : Prop := fnAnyJoinGroupRequestRow.holds Tryd.pinned (OpenSpec.ofChange fnAnyJoinGroupRequestWrong)

/-- 'laws.FnAnyListPartitionReassignmentsResponse': WHATEVER THE INPUT: true; the input reads as it did. -/
def fnAnyListPartitionReassignmentsResponseSpec : ChangeSpec := { name := "fnAnyListPartitionReassignmentsResponse", fn := fun _ => fun
  | [d1, d2] => { results := [.lit (.bool true)], args := [d1, d2] }
  | _ => none }
def fnAnyListPartitionReassignmentsResponseRow : OpenClaim := { program := "ytdkimjfdcioniaadoor", sum := "a5ed88c51b01e61cf91bf300f63679d01e42d4a10dc1ed19a8ce6b660c2bca6f", func := "pub-kmsg/laws.FnAnyListPartitionReassignmentsResponse", spec := "fnAnyListPartitionReassignmentsResponse", inPlace := ["internal/reflectlite.ValueOf", "internal/reflectlite.Swapper", "(internal/reflectlite.Value).Len"], unfollowed := true, recurses := true, named := ["encoding/binary.BigEndian", "pub-kmsg/pub/kmsg/inner/kbin.ErrNotEnoughData"], apart := false, laid := [("pub-kmsg/pub/kmsg/inner/kbin.ErrNotEnoughData", laid_pub_kmsg_pub_kmsg_inner_kbin_ErrNotEnoughData)] }
def FnAnyListPartitionReassignmentsResponseSaid : Prop := fnAnyListPartitionReassignmentsResponseRow.holds Tryd.pinned (OpenSpec.ofChange fnAnyListPartitionReassignmentsResponseSpec)

/-- ITS FALSE NEIGHBOUR: 'it returns false'. Refute it at one input. -/
def fnAnyListPartitionReassignmentsResponseWrong : ChangeSpec := { name := "fnAnyListPartitionReassignmentsResponse", fn := fun _ => fun
  | [d1, d2] => { results := [.lit (.bool false)], args := [d1, d2] }
  | _ => none }
def FnAnyListPartitionReassignmentsResponseWrongFalsely : Prop := fnAnyListPartitionReassignmentsResponseRow.holds Tryd.pinned (OpenSpec.ofChange fnAnyListPartitionReassignmentsResponseWrong)

/-- 'laws.FnAnyProduceRequest': WHATEVER THE INPUT: true; the input reads as it did. -/
def fnAnyProduceRequestSpec : ChangeSpec := { name := "fnAnyProduceRequest", fn := fun _ => fun
  | [d1, d2] => { results := [.lit (.bool true)], args := [d1, d2] }
  | _ => none }
def fnAnyProduceRequestRow : OpenClaim := { program := "ytdkimjfdcioniaadoor", sum := "a5ed88c51b01e61cf91bf300f63679d01e42d4a10dc1ed19a8ce6b660c2bca6f", func := "pub-kmsg/laws.FnAnyProduceRequest", spec := "fnAnyProduceRequest", inPlace := ["internal/reflectlite.ValueOf", "internal/reflectlite.Swapper", "(internal/reflectlite.Value).Len"], unfollowed := true, recurses := true, named := ["encoding/binary.BigEndian", "pub-kmsg/pub/kmsg/inner/kbin.ErrNotEnoughData"], apart := false, laid := [("pub-kmsg/pub/kmsg/inner/kbin.ErrNotEnoughData", laid_pub_kmsg_pub_kmsg_inner_kbin_ErrNotEnoughData)] }
def FnAnyProduceRequestSaid : Prop := fnAnyProduceRequestRow.holds Tryd.pinned (OpenSpec.ofChange fnAnyProduceRequestSpec)

/-- ITS FALSE NEIGHBOUR: 'it returns false'. Refute it at one input. -/
def fnAnyProduceRequestWrong : ChangeSpec := { name := "fnAnyProduceRequest", fn := fun _ => fun
  | [d1, d2] => { results := [.lit (.bool false)], args := [d1, d2] }
  | _ => none }
def FnAnyProduceRequestWrongFalsely : Prop := fnAnyProduceRequestRow.holds Tryd.pinned (OpenSpec.ofChange fnAnyProduceRequestWrong)

/-- 'laws.FnAnySASLAuthenticateResponse': WHATEVER THE INPUT: true; the input reads as it did. -/
def fnAnySASLAuthenticateResponseSpec : ChangeSpec := { name := "fnAnySASLAuthenticateResponse", fn := fun _ => fun
  | [d1, d2] => { results := [.lit (.bool true)], args := [d1, d2] }
  | _ => none }
def fnAnySASLAuthenticateResponseRow : OpenClaim := { program := "ytdkimjfdcioniaadoor", sum := "a5ed88c51b01e61cf91bf300f63679d01e42d4a10dc1ed19a8ce6b660c2bca6f", func := "pub-kmsg/laws.FnAnySASLAuthenticateResponse", spec := "fnAnySASLAuthenticateResponse", inPlace := ["internal/reflectlite.ValueOf", "internal/reflectlite.Swapper", "(internal/reflectlite.Value).Len"], unfollowed := true, recurses := true, named := ["encoding/binary.BigEndian", "pub-kmsg/pub/kmsg/inner/kbin.ErrNotEnoughData"], apart := false, laid := [("pub-kmsg/pub/kmsg/inner/kbin.ErrNotEnoughData", laid_pub_kmsg_pub_kmsg_inner_kbin_ErrNotEnoughData)] }
def FnAnySASLAuthenticateResponseSaid : Prop := fnAnySASLAuthenticateResponseRow.holds Tryd.pinned (OpenSpec.ofChange fnAnySASLAuthenticateResponseSpec)

/-- ITS FALSE NEIGHBOUR: 'it returns false'. Refute it at one input. -/
def fnAnySASLAuthenticateResponseWrong : ChangeSpec := { name := "fnAnySASLAuthenticateResponse", fn := fun _ => fun
  | [d1, d2] => { results := [.lit (.bool false)], args := [d1, d2] }
  | _ => none }
def FnAnySASLAuthenticateResponseWrongFalsely : Prop := fnAnySASLAuthenticateResponseRow.holds Tryd.pinned (OpenSpec.ofChange fnAnySASLAuthenticateResponseWrong)

/-- 'laws.FnAnyUnregisterControllerResponse': WHATEVER THE INPUT: true; the input reads as it did. -/
def fnAnyUnregisterControllerResponseSpec : ChangeSpec := { name := "fnAnyUnregisterControllerResponse", fn := fun _ => fun
  | [d1, d2] => { results := [.lit (.bool true)], args := [d1, d2] }
  | _ => none }
def fnAnyUnregisterControllerResponseRow : OpenClaim := { program := "ytdkimjfdcioniaadoor", sum := "a5ed88c51b01e61cf91bf300f63679d01e42d4a10dc1ed19a8ce6b660c2bca6f", func := "pub-kmsg/laws.FnAnyUnregisterControllerResponse", spec := "fnAnyUnregisterControllerResponse", inPlace := ["internal/reflectlite.ValueOf", "internal/reflectlite.Swapper", "(internal/reflectlite.Value).Len"], unfollowed := true, recurses := true, named := ["encoding/binary.BigEndian", "pub-kmsg/pub/kmsg/inner/kbin.ErrNotEnoughData"], apart := false, laid := [("pub-kmsg/pub/kmsg/inner/kbin.ErrNotEnoughData", laid_pub_kmsg_pub_kmsg_inner_kbin_ErrNotEnoughData)] }
def FnAnyUnregisterControllerResponseSaid : Prop := fnAnyUnregisterControllerResponseRow.holds Tryd.pinned (OpenSpec.ofChange fnAnyUnregisterControllerResponseSpec)

/-- ITS FALSE NEIGHBOUR: 'it returns false'. Refute it at one input. -/
def fnAnyUnregisterControllerResponseWrong : ChangeSpec := { name := "fnAnyUnregisterControllerResponse", fn := fun _ => fun
  | [d1, d2] => { results := [.lit (.bool false)], args := [d1, d2] }
  | _ => none }
def FnAnyUnregisterControllerResponseWrongFalsely : Prop := fnAnyUnregisterControllerResponseRow.holds Tryd.pinned (OpenSpec.ofChange fnAnyUnregisterControllerResponseWrong)

/- THE SECOND FORM. 'bulk': how many values and letters a reading holds, each counted each time it is reached (what is shared counts as often as it is met; a slice's spare places count too). A statement '..UptoSaid' is the law's where the arguments, and the package variables that the reading takes, are together of bulk at most 1048576: NARROWER than '..Said'. Prove '..Said' where nothing that the law and all that it calls make is longer than what came in: it says more and counts as full. Else prove '..UptoSaid'. A law counts once. -/
mutual
def uptoBulk {H : Type} : DataW H → Nat
  | .lit (.string bytes) => bytes.length + 1
  | .lit _ => 1
  | .nil => 1
  | .ptr d => uptoBulk d + 1
  | .slice elems spare => uptoBulkAll elems + uptoBulkAll spare + 1
  | .agg parts => uptoBulkAll parts + 1
  | .iface _ d => uptoBulk d + 1
  | .map entries => uptoBulkEntries entries + 1
  | .held _ => 1
def uptoBulkAll {H : Type} : List (DataW H) → Nat
  | [] => 0
  | d :: r => uptoBulk d + uptoBulkAll r
def uptoBulkEntries {H : Type} : List (Lit × DataW H) → Nat
  | [] => 0
  | x :: r => uptoBulkEntry x + uptoBulkEntries r
def uptoBulkEntry {H : Type} : Lit × DataW H → Nat
  | (.string bytes, d) => bytes.length + uptoBulk d + 1
  | (_, d) => uptoBulk d + 1
 end
def uptoSmall : (H : Type) → List (DataW H) → Bool := fun _ ds => decide (uptoBulkAll ds ≤ 1048576)
def OpenSpec.upto (s : _root_.Go.ChangeSpec) : _root_.Go.OpenSpec := { _root_.Go.OpenSpec.ofChange s with cond := some uptoSmall }

/-- 'laws.FnAnyAlterClientQuotasRequest', WHERE WHAT IT READS IS OF BULK AT MOST 1048576: true; the input reads as it did. -/
def fnAnyAlterClientQuotasRequestUptoRow : OpenClaim := { program := "ytdkimjfdcioniaadoor", sum := "a5ed88c51b01e61cf91bf300f63679d01e42d4a10dc1ed19a8ce6b660c2bca6f", func := "pub-kmsg/laws.FnAnyAlterClientQuotasRequest", spec := "fnAnyAlterClientQuotasRequest", inPlace := ["math.Float64frombits", "internal/reflectlite.ValueOf", "internal/reflectlite.Swapper", "(internal/reflectlite.Value).Len", "math.Float64bits"], unfollowed := true, recurses := true, named := ["encoding/binary.BigEndian", "pub-kmsg/pub/kmsg/inner/kbin.ErrNotEnoughData"], apart := false, laid := [("pub-kmsg/pub/kmsg/inner/kbin.ErrNotEnoughData", laid_pub_kmsg_pub_kmsg_inner_kbin_ErrNotEnoughData)], narrowed := true }
def FnAnyAlterClientQuotasRequestUptoSaid : Prop := fnAnyAlterClientQuotasRequestUptoRow.holds Tryd.pinned (OpenSpec.upto fnAnyAlterClientQuotasRequestSpec)

/-- 'laws.FnAnyAlterUserSCRAMCredentialsResponse', WHERE WHAT IT READS IS OF BULK AT MOST 1048576: true; the input reads as it did. -/
def fnAnyAlterUserSCRAMCredentialsResponseUptoRow : OpenClaim := { program := "ytdkimjfdcioniaadoor", sum := "a5ed88c51b01e61cf91bf300f63679d01e42d4a10dc1ed19a8ce6b660c2bca6f", func := "pub-kmsg/laws.FnAnyAlterUserSCRAMCredentialsResponse", spec := "fnAnyAlterUserSCRAMCredentialsResponse", inPlace := ["internal/reflectlite.ValueOf", "internal/reflectlite.Swapper", "(internal/reflectlite.Value).Len"], unfollowed := true, recurses := true, named := ["encoding/binary.BigEndian", "pub-kmsg/pub/kmsg/inner/kbin.ErrNotEnoughData"], apart := false, laid := [("pub-kmsg/pub/kmsg/inner/kbin.ErrNotEnoughData", laid_pub_kmsg_pub_kmsg_inner_kbin_ErrNotEnoughData)], narrowed := true }
def FnAnyAlterUserSCRAMCredentialsResponseUptoSaid : Prop := fnAnyAlterUserSCRAMCredentialsResponseUptoRow.holds Tryd.pinned (OpenSpec.upto fnAnyAlterUserSCRAMCredentialsResponseSpec)

/-- 'laws.FnAnyConsumerGroupHeartbeatRequest', WHERE WHAT IT READS IS OF BULK AT MOST 1048576: true; the input reads as it did. -/
def fnAnyConsumerGroupHeartbeatRequestUptoRow : OpenClaim := { program := "ytdkimjfdcioniaadoor", sum := "a5ed88c51b01e61cf91bf300f63679d01e42d4a10dc1ed19a8ce6b660c2bca6f", func := "pub-kmsg/laws.FnAnyConsumerGroupHeartbeatRequest", spec := "fnAnyConsumerGroupHeartbeatRequest", inPlace := ["internal/reflectlite.ValueOf", "internal/reflectlite.Swapper", "(internal/reflectlite.Value).Len"], unfollowed := true, recurses := true, named := ["encoding/binary.BigEndian", "pub-kmsg/pub/kmsg/inner/kbin.ErrNotEnoughData"], apart := false, laid := [("pub-kmsg/pub/kmsg/inner/kbin.ErrNotEnoughData", laid_pub_kmsg_pub_kmsg_inner_kbin_ErrNotEnoughData)], narrowed := true }
def FnAnyConsumerGroupHeartbeatRequestUptoSaid : Prop := fnAnyConsumerGroupHeartbeatRequestUptoRow.holds Tryd.pinned (OpenSpec.upto fnAnyConsumerGroupHeartbeatRequestSpec)

/-- 'laws.FnAnyDescribeACLsRequest', WHERE WHAT IT READS IS OF BULK AT MOST 1048576: true; the input reads as it did. -/
def fnAnyDescribeACLsRequestUptoRow : OpenClaim := { program := "ytdkimjfdcioniaadoor", sum := "a5ed88c51b01e61cf91bf300f63679d01e42d4a10dc1ed19a8ce6b660c2bca6f", func := "pub-kmsg/laws.FnAnyDescribeACLsRequest", spec := "fnAnyDescribeACLsRequest", inPlace := ["internal/reflectlite.ValueOf", "internal/reflectlite.Swapper", "(internal/reflectlite.Value).Len"], unfollowed := true, recurses := true, named := ["encoding/binary.BigEndian", "pub-kmsg/pub/kmsg/inner/kbin.ErrNotEnoughData"], apart := false, laid := [("pub-kmsg/pub/kmsg/inner/kbin.ErrNotEnoughData", laid_pub_kmsg_pub_kmsg_inner_kbin_ErrNotEnoughData)], narrowed := true }
def FnAnyDescribeACLsRequestUptoSaid : Prop := fnAnyDescribeACLsRequestUptoRow.holds Tryd.pinned (OpenSpec.upto fnAnyDescribeACLsRequestSpec)

/-- 'laws.FnAnyDescribeLogDirsResponse', WHERE WHAT IT READS IS OF BULK AT MOST 1048576: true; the input reads as it did. -/
def fnAnyDescribeLogDirsResponseUptoRow : OpenClaim := { program := "ytdkimjfdcioniaadoor", sum := "a5ed88c51b01e61cf91bf300f63679d01e42d4a10dc1ed19a8ce6b660c2bca6f", func := "pub-kmsg/laws.FnAnyDescribeLogDirsResponse", spec := "fnAnyDescribeLogDirsResponse", inPlace := ["internal/reflectlite.ValueOf", "internal/reflectlite.Swapper", "(internal/reflectlite.Value).Len"], unfollowed := true, recurses := true, named := ["encoding/binary.BigEndian", "pub-kmsg/pub/kmsg/inner/kbin.ErrNotEnoughData"], apart := false, laid := [("pub-kmsg/pub/kmsg/inner/kbin.ErrNotEnoughData", laid_pub_kmsg_pub_kmsg_inner_kbin_ErrNotEnoughData)], narrowed := true }
def FnAnyDescribeLogDirsResponseUptoSaid : Prop := fnAnyDescribeLogDirsResponseUptoRow.holds Tryd.pinned (OpenSpec.upto fnAnyDescribeLogDirsResponseSpec)

/-- 'laws.FnAnyElectLeadersRequest', WHERE WHAT IT READS IS OF BULK AT MOST 1048576: true; the input reads as it did. -/
def fnAnyElectLeadersRequestUptoRow : OpenClaim := { program := "ytdkimjfdcioniaadoor", sum := "a5ed88c51b01e61cf91bf300f63679d01e42d4a10dc1ed19a8ce6b660c2bca6f", func := "pub-kmsg/laws.FnAnyElectLeadersRequest", spec := "fnAnyElectLeadersRequest", inPlace := ["internal/reflectlite.ValueOf", "internal/reflectlite.Swapper", "(internal/reflectlite.Value).Len"], unfollowed := true, recurses := true, named := ["encoding/binary.BigEndian", "pub-kmsg/pub/kmsg/inner/kbin.ErrNotEnoughData"], apart := false, laid := [("pub-kmsg/pub/kmsg/inner/kbin.ErrNotEnoughData", laid_pub_kmsg_pub_kmsg_inner_kbin_ErrNotEnoughData)], narrowed := true }
def FnAnyElectLeadersRequestUptoSaid : Prop := fnAnyElectLeadersRequestUptoRow.holds Tryd.pinned (OpenSpec.upto fnAnyElectLeadersRequestSpec)

/-- 'laws.FnAnyJoinGroupRequest', WHERE WHAT IT READS IS OF BULK AT MOST 1048576: true; the input reads as it did. -/
def fnAnyJoinGroupRequestUptoRow : OpenClaim := { program := "ytdkimjfdcioniaadoor", sum := "a5ed88c51b01e61cf91bf300f63679d01e42d4a10dc1ed19a8ce6b660c2bca6f", func := "pub-kmsg/laws.FnAnyJoinGroupRequest", spec := "fnAnyJoinGroupRequest", inPlace := ["internal/reflectlite.ValueOf", "internal/reflectlite.Swapper", "(internal/reflectlite.Value).Len"], unfollowed := true, recurses := true, named := ["encoding/binary.BigEndian", "pub-kmsg/pub/kmsg/inner/kbin.ErrNotEnoughData"], apart := false, laid := [("pub-kmsg/pub/kmsg/inner/kbin.ErrNotEnoughData", laid_pub_kmsg_pub_kmsg_inner_kbin_ErrNotEnoughData)], narrowed := true }
def FnAnyJoinGroupRequestUptoSaid : Prop := fnAnyJoinGroupRequestUptoRow.holds Tryd.pinned (OpenSpec.upto fnAnyJoinGroupRequestSpec)

/-- 'laws.FnAnyListPartitionReassignmentsResponse', WHERE WHAT IT READS IS OF BULK AT MOST 1048576: true; the input reads as it did. -/
def fnAnyListPartitionReassignmentsResponseUptoRow : OpenClaim := { program := "ytdkimjfdcioniaadoor", sum := "a5ed88c51b01e61cf91bf300f63679d01e42d4a10dc1ed19a8ce6b660c2bca6f", func := "pub-kmsg/laws.FnAnyListPartitionReassignmentsResponse", spec := "fnAnyListPartitionReassignmentsResponse", inPlace := ["internal/reflectlite.ValueOf", "internal/reflectlite.Swapper", "(internal/reflectlite.Value).Len"], unfollowed := true, recurses := true, named := ["encoding/binary.BigEndian", "pub-kmsg/pub/kmsg/inner/kbin.ErrNotEnoughData"], apart := false, laid := [("pub-kmsg/pub/kmsg/inner/kbin.ErrNotEnoughData", laid_pub_kmsg_pub_kmsg_inner_kbin_ErrNotEnoughData)], narrowed := true }
def FnAnyListPartitionReassignmentsResponseUptoSaid : Prop := fnAnyListPartitionReassignmentsResponseUptoRow.holds Tryd.pinned (OpenSpec.upto fnAnyListPartitionReassignmentsResponseSpec)

/-- 'laws.FnAnyProduceRequest', WHERE WHAT IT READS IS OF BULK AT MOST 1048576: true; the input reads as it did. -/
def fnAnyProduceRequestUptoRow : OpenClaim := { program := "ytdkimjfdcioniaadoor", sum := "a5ed88c51b01e61cf91bf300f63679d01e42d4a10dc1ed19a8ce6b660c2bca6f", func := "pub-kmsg/laws.FnAnyProduceRequest", spec := "fnAnyProduceRequest", inPlace := ["internal/reflectlite.ValueOf", "internal/reflectlite.Swapper", "(internal/reflectlite.Value).Len"], unfollowed := true, recurses := true, named := ["encoding/binary.BigEndian", "pub-kmsg/pub/kmsg/inner/kbin.ErrNotEnoughData"], apart := false, laid := [("pub-kmsg/pub/kmsg/inner/kbin.ErrNotEnoughData", laid_pub_kmsg_pub_kmsg_inner_kbin_ErrNotEnoughData)], narrowed := true }
def FnAnyProduceRequestUptoSaid : Prop := fnAnyProduceRequestUptoRow.holds Tryd.pinned (OpenSpec.upto fnAnyProduceRequestSpec)

/-- 'laws.FnAnySASLAuthenticateResponse', WHERE WHAT IT READS IS OF BULK AT MOST 1048576: true; the input reads as it did. -/
def fnAnySASLAuthenticateResponseUptoRow : OpenClaim := { program := "ytdkimjfdcioniaadoor", sum := "a5ed88c51b01e61cf91bf300f63679d01e42d4a10dc1ed19a8ce6b660c2bca6f", func := "pub-kmsg/laws.FnAnySASLAuthenticateResponse", spec := "fnAnySASLAuthenticateResponse", inPlace := ["internal/reflectlite.ValueOf", "internal/reflectlite.Swapper", "(internal/reflectlite.Value).Len"], unfollowed := true, recurses := true, named := ["encoding/binary.BigEndian", "pub-kmsg/pub/kmsg/inner/kbin.ErrNotEnoughData"], apart := false, laid := [("pub-kmsg/pub/kmsg/inner/kbin.ErrNotEnoughData", laid_pub_kmsg_pub_kmsg_inner_kbin_ErrNotEnoughData)], narrowed := true }
def FnAnySASLAuthenticateResponseUptoSaid : Prop := fnAnySASLAuthenticateResponseUptoRow.holds Tryd.pinned (OpenSpec.upto fnAnySASLAuthenticateResponseSpec)

/-- 'laws.FnAnyUnregisterControllerResponse', WHERE WHAT IT READS IS OF BULK AT MOST 1048576: true; the input reads as it did. -/
def fnAnyUnregisterControllerResponseUptoRow : OpenClaim := { program := "ytdkimjfdcioniaadoor", sum := "a5ed88c51b01e61cf91bf300f63679d01e42d4a10dc1ed19a8ce6b660c2bca6f", func := "pub-kmsg/laws.FnAnyUnregisterControllerResponse", spec := "fnAnyUnregisterControllerResponse", inPlace := ["internal/reflectlite.ValueOf", "internal/reflectlite.Swapper", "(internal/reflectlite.Value).Len"], unfollowed := true, recurses := true, named := ["encoding/binary.BigEndian", "pub-kmsg/pub/kmsg/inner/kbin.ErrNotEnoughData"], apart := false, laid := [("pub-kmsg/pub/kmsg/inner/kbin.ErrNotEnoughData", laid_pub_kmsg_pub_kmsg_inner_kbin_ErrNotEnoughData)], narrowed := true }
def FnAnyUnregisterControllerResponseUptoSaid : Prop := fnAnyUnregisterControllerResponseUptoRow.holds Tryd.pinned (OpenSpec.upto fnAnyUnregisterControllerResponseSpec)

end Rows
end Go.Proofs.YtdkimjfdcioniaaDoor
