/-
  NARROWER THAN 'FOR EVERY INPUT', by the rows' own cells (each row's printed sentence says how): FnCutOffsetFetchRequest: loops, laid · FnCutInitProducerIDRequest: loops, laid · FnCutAlterReplicaLogDirsResponse: loops, laid · FnCutDeleteShareGroupStateRequest: loops, laid · FnCutListGroupsResponse: loops, laid · FnCutShareGroupHeartbeatRequest: loops, laid · FnCutCreateDelegationTokenResponse: loops, laid · FnCutAddRaftVoterRequest: loops, laid · FnCutWriteShareGroupStateRequest: loops, laid · FnCutDescribeDelegationTokenResponse: loops, laid.
  DERIVED. THE GIVEN ROWS OF THIS SEAT. 10 by the template 'for every input the law returns true; each argument reads behind the call as it read before'; 0 by the template 'total and deterministic' (their statements: YthejiimocbfagaaGreatDoorTotals.lean).
  GIVEN WITH THE SEED: the statements are not yours to turn. If you find one false, say at which input.
  Laid BY PROGRAM, IN A SANDBOX (cutbox-rows.mjs): the forced cells as the released guide's own fill.sh prints them over the translation 2b7fa27285c99e74… (all of the seat's roots in one cut). By AI agents, Wed Nov 11 2026. No macro, syntax, notation, axiom, sorry.
-/
import Derived.Test.YthejiimocbfagaaGreatDoorChecked
import GoSem.Claim
import GoSem.ClaimJoined
import GoSem.ClaimMapViews
import Derived.JoinedTies
import Derived.KernelRfl
namespace Go.Proofs.YthejiimocbfagaaGreatDoor
/- THE CELL 'sum', in the pinned program and in every row, IS THE sha256 OF THE DUMP (.gsa) THAT YthejiimocbfagaaGreatDoorProg.lean LOADS. Nothing in Lean hashes anything: it is a label: what it is worth is what the hold of that sum in a sandbox is worth. -/
noncomputable def Tryz.pinned : Pinned := { name := "ythejiimocbfagaagreatdoor", sum := "2b7fa27285c99e740a413b41cebc32aef9e42b01ab7d5efa298f672a64cd154a", checked := Tryz.checked }
namespace Rows
def none {H : Type} : Left H := { results := [], args := [] }

/- WHAT THE LISTED PACKAGE-LEVEL VARIABLES READ AS WHEN THE CALL BEGINS. Each datum BY PROGRAM (the guide's laid-datum.mjs) off the statement by which the dump's own 'gosem.cut.vars' lays the variable. In a bare row this is a premise. The card (YthejiimocbfagaaGreatDoorCards.lean) ties it to the program's text. -/
def laid_pub_kmsg_pub_kmsg_inner_kbin_ErrNotEnoughData {H : Type} : DataW H := .iface "*errors.errorString" (.ptr (.agg [.lit (.string [114, 101, 115, 112, 111, 110, 115, 101, 32, 100, 105, 100, 32, 110, 111, 116, 32, 99, 111, 110, 116, 97, 105, 110, 32, 101, 110, 111, 117, 103, 104, 32, 100, 97, 116, 97, 32, 116, 111, 32, 98, 101, 32, 118, 97, 108, 105, 100])]))

/-- 'laws.FnCutOffsetFetchRequest': WHATEVER THE INPUT: true; the input reads as it did. -/
def fnCutOffsetFetchRequestSpec : ChangeSpec := { name := "fnCutOffsetFetchRequest", fn := fun _ => fun
  | [d1, d2, d3] => { results := [.lit (.bool true)], args := [d1, d2, d3] }
  | _ => none }
def fnCutOffsetFetchRequestRow : OpenClaim := { program := "ythejiimocbfagaagreatdoor", sum := "2b7fa27285c99e740a413b41cebc32aef9e42b01ab7d5efa298f672a64cd154a", func := "pub-kmsg/laws.FnCutOffsetFetchRequest", spec := "fnCutOffsetFetchRequest", inPlace := ["internal/reflectlite.ValueOf", "internal/reflectlite.Swapper", "(internal/reflectlite.Value).Len"], unfollowed := true, recurses := true, named := ["encoding/binary.BigEndian", "pub-kmsg/pub/kmsg/inner/kbin.ErrNotEnoughData"], loops := true, apart := false, laid := [("pub-kmsg/pub/kmsg/inner/kbin.ErrNotEnoughData", laid_pub_kmsg_pub_kmsg_inner_kbin_ErrNotEnoughData)] }
def FnCutOffsetFetchRequestSaid : Prop := fnCutOffsetFetchRequestRow.holds Tryz.pinned (OpenSpec.ofChange fnCutOffsetFetchRequestSpec)

/-- ITS FALSE NEIGHBOUR: 'it returns false'. Refute it at one input. -/
def fnCutOffsetFetchRequestWrong : ChangeSpec := { name := "fnCutOffsetFetchRequest", fn := fun _ => fun
  | [d1, d2, d3] => { results := [.lit (.bool false)], args := [d1, d2, d3] }
  | _ => none }
def FnCutOffsetFetchRequestWrongFalsely : Prop := fnCutOffsetFetchRequestRow.holds Tryz.pinned (OpenSpec.ofChange fnCutOffsetFetchRequestWrong)

/-- 'laws.FnCutInitProducerIDRequest': WHATEVER THE INPUT: true; the input reads as it did. -/
def fnCutInitProducerIDRequestSpec : ChangeSpec := { name := "fnCutInitProducerIDRequest", fn := fun _ => fun
  | [d1, d2, d3] => { results := [.lit (.bool true)], args := [d1, d2, d3] }
  | _ => none }
def fnCutInitProducerIDRequestRow : OpenClaim := { program := "ythejiimocbfagaagreatdoor", sum := "2b7fa27285c99e740a413b41cebc32aef9e42b01ab7d5efa298f672a64cd154a", func := "pub-kmsg/laws.FnCutInitProducerIDRequest", spec := "fnCutInitProducerIDRequest", inPlace := ["internal/reflectlite.ValueOf", "internal/reflectlite.Swapper", "(internal/reflectlite.Value).Len"], unfollowed := true, recurses := true, named := ["encoding/binary.BigEndian", "pub-kmsg/pub/kmsg/inner/kbin.ErrNotEnoughData"], loops := true, apart := false, laid := [("pub-kmsg/pub/kmsg/inner/kbin.ErrNotEnoughData", laid_pub_kmsg_pub_kmsg_inner_kbin_ErrNotEnoughData)] }
def FnCutInitProducerIDRequestSaid : Prop := fnCutInitProducerIDRequestRow.holds Tryz.pinned (OpenSpec.ofChange fnCutInitProducerIDRequestSpec)

/-- ITS FALSE NEIGHBOUR: 'it returns false'. Refute it at one input. -/
def fnCutInitProducerIDRequestWrong : ChangeSpec := { name := "fnCutInitProducerIDRequest", fn := fun _ => fun
  | [d1, d2, d3] => { results := [.lit (.bool false)], args := [d1, d2, d3] }
  | _ => none }
def FnCutInitProducerIDRequestWrongFalsely : Prop := fnCutInitProducerIDRequestRow.holds Tryz.pinned (OpenSpec.ofChange fnCutInitProducerIDRequestWrong)

/-- 'laws.FnCutAlterReplicaLogDirsResponse': WHATEVER THE INPUT: true; the input reads as it did. -/
def fnCutAlterReplicaLogDirsResponseSpec : ChangeSpec := { name := "fnCutAlterReplicaLogDirsResponse", fn := fun _ => fun
  | [d1, d2, d3] => { results := [.lit (.bool true)], args := [d1, d2, d3] }
  | _ => none }
def fnCutAlterReplicaLogDirsResponseRow : OpenClaim := { program := "ythejiimocbfagaagreatdoor", sum := "2b7fa27285c99e740a413b41cebc32aef9e42b01ab7d5efa298f672a64cd154a", func := "pub-kmsg/laws.FnCutAlterReplicaLogDirsResponse", spec := "fnCutAlterReplicaLogDirsResponse", inPlace := ["internal/reflectlite.ValueOf", "internal/reflectlite.Swapper", "(internal/reflectlite.Value).Len"], unfollowed := true, recurses := true, named := ["encoding/binary.BigEndian", "pub-kmsg/pub/kmsg/inner/kbin.ErrNotEnoughData"], loops := true, apart := false, laid := [("pub-kmsg/pub/kmsg/inner/kbin.ErrNotEnoughData", laid_pub_kmsg_pub_kmsg_inner_kbin_ErrNotEnoughData)] }
def FnCutAlterReplicaLogDirsResponseSaid : Prop := fnCutAlterReplicaLogDirsResponseRow.holds Tryz.pinned (OpenSpec.ofChange fnCutAlterReplicaLogDirsResponseSpec)

/-- ITS FALSE NEIGHBOUR: 'it returns false'. Refute it at one input. -/
def fnCutAlterReplicaLogDirsResponseWrong : ChangeSpec := { name := "fnCutAlterReplicaLogDirsResponse", fn := fun _ => fun
  | [d1, d2, d3] => { results := [.lit (.bool false)], args := [d1, d2, d3] }
  | _ => none }
def FnCutAlterReplicaLogDirsResponseWrongFalsely : Prop := fnCutAlterReplicaLogDirsResponseRow.holds Tryz.pinned (OpenSpec.ofChange fnCutAlterReplicaLogDirsResponseWrong)

/-- 'laws.FnCutDeleteShareGroupStateRequest': WHATEVER THE INPUT: true; the input reads as it did. -/
def fnCutDeleteShareGroupStateRequestSpec : ChangeSpec := { name := "fnCutDeleteShareGroupStateRequest", fn := fun _ => fun
  | [d1, d2, d3] => { results := [.lit (.bool true)], args := [d1, d2, d3] }
  | _ => none }
def fnCutDeleteShareGroupStateRequestRow : OpenClaim := { program := "ythejiimocbfagaagreatdoor", sum := "2b7fa27285c99e740a413b41cebc32aef9e42b01ab7d5efa298f672a64cd154a", func := "pub-kmsg/laws.FnCutDeleteShareGroupStateRequest", spec := "fnCutDeleteShareGroupStateRequest", inPlace := ["internal/reflectlite.ValueOf", "internal/reflectlite.Swapper", "(internal/reflectlite.Value).Len"], unfollowed := true, recurses := true, named := ["encoding/binary.BigEndian", "pub-kmsg/pub/kmsg/inner/kbin.ErrNotEnoughData"], loops := true, apart := false, laid := [("pub-kmsg/pub/kmsg/inner/kbin.ErrNotEnoughData", laid_pub_kmsg_pub_kmsg_inner_kbin_ErrNotEnoughData)] }
def FnCutDeleteShareGroupStateRequestSaid : Prop := fnCutDeleteShareGroupStateRequestRow.holds Tryz.pinned (OpenSpec.ofChange fnCutDeleteShareGroupStateRequestSpec)

/-- ITS FALSE NEIGHBOUR: 'it returns false'. Refute it at one input. -/
def fnCutDeleteShareGroupStateRequestWrong : ChangeSpec := { name := "fnCutDeleteShareGroupStateRequest", fn := fun _ => fun
  | [d1, d2, d3] => { results := [.lit (.bool false)], args := [d1, d2, d3] }
  | _ => none }
def FnCutDeleteShareGroupStateRequestWrongFalsely : Prop := fnCutDeleteShareGroupStateRequestRow.holds Tryz.pinned (OpenSpec.ofChange fnCutDeleteShareGroupStateRequestWrong)

/-- 'laws.FnCutListGroupsResponse': WHATEVER THE INPUT: true; the input reads as it did. -/
def fnCutListGroupsResponseSpec : ChangeSpec := { name := "fnCutListGroupsResponse", fn := fun _ => fun
  | [d1, d2, d3] => { results := [.lit (.bool true)], args := [d1, d2, d3] }
  | _ => none }
def fnCutListGroupsResponseRow : OpenClaim := { program := "ythejiimocbfagaagreatdoor", sum := "2b7fa27285c99e740a413b41cebc32aef9e42b01ab7d5efa298f672a64cd154a", func := "pub-kmsg/laws.FnCutListGroupsResponse", spec := "fnCutListGroupsResponse", inPlace := ["internal/reflectlite.ValueOf", "internal/reflectlite.Swapper", "(internal/reflectlite.Value).Len"], unfollowed := true, recurses := true, named := ["encoding/binary.BigEndian", "pub-kmsg/pub/kmsg/inner/kbin.ErrNotEnoughData"], loops := true, apart := false, laid := [("pub-kmsg/pub/kmsg/inner/kbin.ErrNotEnoughData", laid_pub_kmsg_pub_kmsg_inner_kbin_ErrNotEnoughData)] }
def FnCutListGroupsResponseSaid : Prop := fnCutListGroupsResponseRow.holds Tryz.pinned (OpenSpec.ofChange fnCutListGroupsResponseSpec)

/-- ITS FALSE NEIGHBOUR: 'it returns false'. Refute it at one input. -/
def fnCutListGroupsResponseWrong : ChangeSpec := { name := "fnCutListGroupsResponse", fn := fun _ => fun
  | [d1, d2, d3] => { results := [.lit (.bool false)], args := [d1, d2, d3] }
  | _ => none }
def FnCutListGroupsResponseWrongFalsely : Prop := fnCutListGroupsResponseRow.holds Tryz.pinned (OpenSpec.ofChange fnCutListGroupsResponseWrong)

/-- 'laws.FnCutShareGroupHeartbeatRequest': WHATEVER THE INPUT: true; the input reads as it did. -/
def fnCutShareGroupHeartbeatRequestSpec : ChangeSpec := { name := "fnCutShareGroupHeartbeatRequest", fn := fun _ => fun
  | [d1, d2, d3] => { results := [.lit (.bool true)], args := [d1, d2, d3] }
  | _ => none }
def fnCutShareGroupHeartbeatRequestRow : OpenClaim := { program := "ythejiimocbfagaagreatdoor", sum := "2b7fa27285c99e740a413b41cebc32aef9e42b01ab7d5efa298f672a64cd154a", func := "pub-kmsg/laws.FnCutShareGroupHeartbeatRequest", spec := "fnCutShareGroupHeartbeatRequest", inPlace := ["internal/reflectlite.ValueOf", "internal/reflectlite.Swapper", "(internal/reflectlite.Value).Len"], unfollowed := true, recurses := true, named := ["encoding/binary.BigEndian", "pub-kmsg/pub/kmsg/inner/kbin.ErrNotEnoughData"], loops := true, apart := false, laid := [("pub-kmsg/pub/kmsg/inner/kbin.ErrNotEnoughData", laid_pub_kmsg_pub_kmsg_inner_kbin_ErrNotEnoughData)] }
def FnCutShareGroupHeartbeatRequestSaid : Prop := fnCutShareGroupHeartbeatRequestRow.holds Tryz.pinned (OpenSpec.ofChange fnCutShareGroupHeartbeatRequestSpec)

/-- ITS FALSE NEIGHBOUR: 'it returns false'. Refute it at one input. -/
def fnCutShareGroupHeartbeatRequestWrong : ChangeSpec := { name := "fnCutShareGroupHeartbeatRequest", fn := fun _ => fun
  | [d1, d2, d3] => { results := [.lit (.bool false)], args := [d1, d2, d3] }
  | _ => none }
def FnCutShareGroupHeartbeatRequestWrongFalsely : Prop := fnCutShareGroupHeartbeatRequestRow.holds Tryz.pinned (OpenSpec.ofChange fnCutShareGroupHeartbeatRequestWrong)

/-- 'laws.FnCutCreateDelegationTokenResponse': WHATEVER THE INPUT: true; the input reads as it did. -/
def fnCutCreateDelegationTokenResponseSpec : ChangeSpec := { name := "fnCutCreateDelegationTokenResponse", fn := fun _ => fun
  | [d1, d2, d3] => { results := [.lit (.bool true)], args := [d1, d2, d3] }
  | _ => none }
def fnCutCreateDelegationTokenResponseRow : OpenClaim := { program := "ythejiimocbfagaagreatdoor", sum := "2b7fa27285c99e740a413b41cebc32aef9e42b01ab7d5efa298f672a64cd154a", func := "pub-kmsg/laws.FnCutCreateDelegationTokenResponse", spec := "fnCutCreateDelegationTokenResponse", inPlace := ["internal/reflectlite.ValueOf", "internal/reflectlite.Swapper", "(internal/reflectlite.Value).Len"], unfollowed := true, recurses := true, named := ["encoding/binary.BigEndian", "pub-kmsg/pub/kmsg/inner/kbin.ErrNotEnoughData"], loops := true, apart := false, laid := [("pub-kmsg/pub/kmsg/inner/kbin.ErrNotEnoughData", laid_pub_kmsg_pub_kmsg_inner_kbin_ErrNotEnoughData)] }
def FnCutCreateDelegationTokenResponseSaid : Prop := fnCutCreateDelegationTokenResponseRow.holds Tryz.pinned (OpenSpec.ofChange fnCutCreateDelegationTokenResponseSpec)

/-- ITS FALSE NEIGHBOUR: 'it returns false'. Refute it at one input. -/
def fnCutCreateDelegationTokenResponseWrong : ChangeSpec := { name := "fnCutCreateDelegationTokenResponse", fn := fun _ => fun
  | [d1, d2, d3] => { results := [.lit (.bool false)], args := [d1, d2, d3] }
  | _ => none }
def FnCutCreateDelegationTokenResponseWrongFalsely : Prop := fnCutCreateDelegationTokenResponseRow.holds Tryz.pinned (OpenSpec.ofChange fnCutCreateDelegationTokenResponseWrong)

/-- 'laws.FnCutAddRaftVoterRequest': WHATEVER THE INPUT: true; the input reads as it did. -/
def fnCutAddRaftVoterRequestSpec : ChangeSpec := { name := "fnCutAddRaftVoterRequest", fn := fun _ => fun
  | [d1, d2, d3] => { results := [.lit (.bool true)], args := [d1, d2, d3] }
  | _ => none }
def fnCutAddRaftVoterRequestRow : OpenClaim := { program := "ythejiimocbfagaagreatdoor", sum := "2b7fa27285c99e740a413b41cebc32aef9e42b01ab7d5efa298f672a64cd154a", func := "pub-kmsg/laws.FnCutAddRaftVoterRequest", spec := "fnCutAddRaftVoterRequest", inPlace := ["internal/reflectlite.ValueOf", "internal/reflectlite.Swapper", "(internal/reflectlite.Value).Len"], unfollowed := true, recurses := true, named := ["encoding/binary.BigEndian", "pub-kmsg/pub/kmsg/inner/kbin.ErrNotEnoughData"], loops := true, apart := false, laid := [("pub-kmsg/pub/kmsg/inner/kbin.ErrNotEnoughData", laid_pub_kmsg_pub_kmsg_inner_kbin_ErrNotEnoughData)] }
def FnCutAddRaftVoterRequestSaid : Prop := fnCutAddRaftVoterRequestRow.holds Tryz.pinned (OpenSpec.ofChange fnCutAddRaftVoterRequestSpec)

/-- ITS FALSE NEIGHBOUR: 'it returns false'. Refute it at one input. -/
def fnCutAddRaftVoterRequestWrong : ChangeSpec := { name := "fnCutAddRaftVoterRequest", fn := fun _ => fun
  | [d1, d2, d3] => { results := [.lit (.bool false)], args := [d1, d2, d3] }
  | _ => none }
def FnCutAddRaftVoterRequestWrongFalsely : Prop := fnCutAddRaftVoterRequestRow.holds Tryz.pinned (OpenSpec.ofChange fnCutAddRaftVoterRequestWrong)

/-- 'laws.FnCutWriteShareGroupStateRequest': WHATEVER THE INPUT: true; the input reads as it did. -/
def fnCutWriteShareGroupStateRequestSpec : ChangeSpec := { name := "fnCutWriteShareGroupStateRequest", fn := fun _ => fun
  | [d1, d2, d3] => { results := [.lit (.bool true)], args := [d1, d2, d3] }
  | _ => none }
def fnCutWriteShareGroupStateRequestRow : OpenClaim := { program := "ythejiimocbfagaagreatdoor", sum := "2b7fa27285c99e740a413b41cebc32aef9e42b01ab7d5efa298f672a64cd154a", func := "pub-kmsg/laws.FnCutWriteShareGroupStateRequest", spec := "fnCutWriteShareGroupStateRequest", inPlace := ["internal/reflectlite.ValueOf", "internal/reflectlite.Swapper", "(internal/reflectlite.Value).Len"], unfollowed := true, recurses := true, named := ["encoding/binary.BigEndian", "pub-kmsg/pub/kmsg/inner/kbin.ErrNotEnoughData"], loops := true, apart := false, laid := [("pub-kmsg/pub/kmsg/inner/kbin.ErrNotEnoughData", laid_pub_kmsg_pub_kmsg_inner_kbin_ErrNotEnoughData)] }
def FnCutWriteShareGroupStateRequestSaid : Prop := fnCutWriteShareGroupStateRequestRow.holds Tryz.pinned (OpenSpec.ofChange fnCutWriteShareGroupStateRequestSpec)

/-- ITS FALSE NEIGHBOUR: 'it returns false'. Refute it at one input. -/
def fnCutWriteShareGroupStateRequestWrong : ChangeSpec := { name := "fnCutWriteShareGroupStateRequest", fn := fun _ => fun
  | [d1, d2, d3] => { results := [.lit (.bool false)], args := [d1, d2, d3] }
  | _ => none }
def FnCutWriteShareGroupStateRequestWrongFalsely : Prop := fnCutWriteShareGroupStateRequestRow.holds Tryz.pinned (OpenSpec.ofChange fnCutWriteShareGroupStateRequestWrong)

/-- 'laws.FnCutDescribeDelegationTokenResponse': WHATEVER THE INPUT: true; the input reads as it did. -/
def fnCutDescribeDelegationTokenResponseSpec : ChangeSpec := { name := "fnCutDescribeDelegationTokenResponse", fn := fun _ => fun
  | [d1, d2, d3] => { results := [.lit (.bool true)], args := [d1, d2, d3] }
  | _ => none }
def fnCutDescribeDelegationTokenResponseRow : OpenClaim := { program := "ythejiimocbfagaagreatdoor", sum := "2b7fa27285c99e740a413b41cebc32aef9e42b01ab7d5efa298f672a64cd154a", func := "pub-kmsg/laws.FnCutDescribeDelegationTokenResponse", spec := "fnCutDescribeDelegationTokenResponse", inPlace := ["internal/reflectlite.ValueOf", "internal/reflectlite.Swapper", "(internal/reflectlite.Value).Len"], unfollowed := true, recurses := true, named := ["encoding/binary.BigEndian", "pub-kmsg/pub/kmsg/inner/kbin.ErrNotEnoughData"], loops := true, apart := false, laid := [("pub-kmsg/pub/kmsg/inner/kbin.ErrNotEnoughData", laid_pub_kmsg_pub_kmsg_inner_kbin_ErrNotEnoughData)] }
def FnCutDescribeDelegationTokenResponseSaid : Prop := fnCutDescribeDelegationTokenResponseRow.holds Tryz.pinned (OpenSpec.ofChange fnCutDescribeDelegationTokenResponseSpec)

/-- ITS FALSE NEIGHBOUR: 'it returns false'. Refute it at one input. -/
def fnCutDescribeDelegationTokenResponseWrong : ChangeSpec := { name := "fnCutDescribeDelegationTokenResponse", fn := fun _ => fun
  | [d1, d2, d3] => { results := [.lit (.bool false)], args := [d1, d2, d3] }
  | _ => none }
def FnCutDescribeDelegationTokenResponseWrongFalsely : Prop := fnCutDescribeDelegationTokenResponseRow.holds Tryz.pinned (OpenSpec.ofChange fnCutDescribeDelegationTokenResponseWrong)

/- THE SECOND FORM. 'bulk': how many values and letters a reading holds, each counted each time it is reached (what is shared counts as often as it is met; a slice's spare places count too). A statement '..UptoSaid' is the law's where the arguments, and the package variables that the reading takes, are together of bulk at most 1048576: NARROWER than '..Said'. Prove '..Said' where nothing that the law and all that it calls make is longer than what came in: it says more and counts as full. Else prove '..UptoSaid'. A law counts once. -/
mutual
def uptoBulk {H : Type} : DataW H → Nat
  | .lit (.string bytes) => bytes.length + 1
  | .lit _ => 1
  | .nil => 1
  | .ptr d => uptoBulk d + 1
  | .slice elems spare => uptoBulkAll elems + uptoBulkAll spare + 1
  | .agg parts => uptoBulkAll parts + 1
  | .iface _ d => uptoBulk d + 1
  | .map entries => uptoBulkEntries entries + 1
  | .held _ => 1
def uptoBulkAll {H : Type} : List (DataW H) → Nat
  | [] => 0
  | d :: r => uptoBulk d + uptoBulkAll r
def uptoBulkEntries {H : Type} : List (Lit × DataW H) → Nat
  | [] => 0
  | x :: r => uptoBulkEntry x + uptoBulkEntries r
def uptoBulkEntry {H : Type} : Lit × DataW H → Nat
  | (.string bytes, d) => bytes.length + uptoBulk d + 1
  | (_, d) => uptoBulk d + 1
 end
def uptoSmall : (H : Type) → List (DataW H) → Bool := fun _ ds => decide (uptoBulkAll ds ≤ 1048576)
def OpenSpec.upto (s : _root_.Go.ChangeSpec) : _root_.Go.OpenSpec := { _root_.Go.OpenSpec.ofChange s with cond := some uptoSmall }

/-- 'laws.FnCutOffsetFetchRequest', WHERE WHAT IT READS IS OF BULK AT MOST 1048576: true; the input reads as it did. -/
def fnCutOffsetFetchRequestUptoRow : OpenClaim := { program := "ythejiimocbfagaagreatdoor", sum := "2b7fa27285c99e740a413b41cebc32aef9e42b01ab7d5efa298f672a64cd154a", func := "pub-kmsg/laws.FnCutOffsetFetchRequest", spec := "fnCutOffsetFetchRequest", inPlace := ["internal/reflectlite.ValueOf", "internal/reflectlite.Swapper", "(internal/reflectlite.Value).Len"], unfollowed := true, recurses := true, named := ["encoding/binary.BigEndian", "pub-kmsg/pub/kmsg/inner/kbin.ErrNotEnoughData"], loops := true, apart := false, laid := [("pub-kmsg/pub/kmsg/inner/kbin.ErrNotEnoughData", laid_pub_kmsg_pub_kmsg_inner_kbin_ErrNotEnoughData)], narrowed := true }
def FnCutOffsetFetchRequestUptoSaid : Prop := fnCutOffsetFetchRequestUptoRow.holds Tryz.pinned (OpenSpec.upto fnCutOffsetFetchRequestSpec)

/-- 'laws.FnCutInitProducerIDRequest', WHERE WHAT IT READS IS OF BULK AT MOST 1048576: true; the input reads as it did. -/
def fnCutInitProducerIDRequestUptoRow : OpenClaim := { program := "ythejiimocbfagaagreatdoor", sum := "2b7fa27285c99e740a413b41cebc32aef9e42b01ab7d5efa298f672a64cd154a", func := "pub-kmsg/laws.FnCutInitProducerIDRequest", spec := "fnCutInitProducerIDRequest", inPlace := ["internal/reflectlite.ValueOf", "internal/reflectlite.Swapper", "(internal/reflectlite.Value).Len"], unfollowed := true, recurses := true, named := ["encoding/binary.BigEndian", "pub-kmsg/pub/kmsg/inner/kbin.ErrNotEnoughData"], loops := true, apart := false, laid := [("pub-kmsg/pub/kmsg/inner/kbin.ErrNotEnoughData", laid_pub_kmsg_pub_kmsg_inner_kbin_ErrNotEnoughData)], narrowed := true }
def FnCutInitProducerIDRequestUptoSaid : Prop := fnCutInitProducerIDRequestUptoRow.holds Tryz.pinned (OpenSpec.upto fnCutInitProducerIDRequestSpec)

/-- 'laws.FnCutAlterReplicaLogDirsResponse', WHERE WHAT IT READS IS OF BULK AT MOST 1048576: true; the input reads as it did. -/
def fnCutAlterReplicaLogDirsResponseUptoRow : OpenClaim := { program := "ythejiimocbfagaagreatdoor", sum := "2b7fa27285c99e740a413b41cebc32aef9e42b01ab7d5efa298f672a64cd154a", func := "pub-kmsg/laws.FnCutAlterReplicaLogDirsResponse", spec := "fnCutAlterReplicaLogDirsResponse", inPlace := ["internal/reflectlite.ValueOf", "internal/reflectlite.Swapper", "(internal/reflectlite.Value).Len"], unfollowed := true, recurses := true, named := ["encoding/binary.BigEndian", "pub-kmsg/pub/kmsg/inner/kbin.ErrNotEnoughData"], loops := true, apart := false, laid := [("pub-kmsg/pub/kmsg/inner/kbin.ErrNotEnoughData", laid_pub_kmsg_pub_kmsg_inner_kbin_ErrNotEnoughData)], narrowed := true }
def FnCutAlterReplicaLogDirsResponseUptoSaid : Prop := fnCutAlterReplicaLogDirsResponseUptoRow.holds Tryz.pinned (OpenSpec.upto fnCutAlterReplicaLogDirsResponseSpec)

/-- 'laws.FnCutDeleteShareGroupStateRequest', WHERE WHAT IT READS IS OF BULK AT MOST 1048576: true; the input reads as it did. -/
def fnCutDeleteShareGroupStateRequestUptoRow : OpenClaim := { program := "ythejiimocbfagaagreatdoor", sum := "2b7fa27285c99e740a413b41cebc32aef9e42b01ab7d5efa298f672a64cd154a", func := "pub-kmsg/laws.FnCutDeleteShareGroupStateRequest", spec := "fnCutDeleteShareGroupStateRequest", inPlace := ["internal/reflectlite.ValueOf", "internal/reflectlite.Swapper", "(internal/reflectlite.Value).Len"], unfollowed := true, recurses := true, named := ["encoding/binary.BigEndian", "pub-kmsg/pub/kmsg/inner/kbin.ErrNotEnoughData"], loops := true, apart := false, laid := [("pub-kmsg/pub/kmsg/inner/kbin.ErrNotEnoughData", laid_pub_kmsg_pub_kmsg_inner_kbin_ErrNotEnoughData)], narrowed := true }
def FnCutDeleteShareGroupStateRequestUptoSaid : Prop := fnCutDeleteShareGroupStateRequestUptoRow.holds Tryz.pinned (OpenSpec.upto fnCutDeleteShareGroupStateRequestSpec)

/-- 'laws.FnCutListGroupsResponse', WHERE WHAT IT READS IS OF BULK AT MOST 1048576: true; the input reads as it did. -/
def fnCutListGroupsResponseUptoRow : OpenClaim := { program := "ythejiimocbfagaagreatdoor", sum := "2b7fa27285c99e740a413b41cebc32aef9e42b01ab7d5efa298f672a64cd154a", func := "pub-kmsg/laws.FnCutListGroupsResponse", spec := "fnCutListGroupsResponse", inPlace := ["internal/reflectlite.ValueOf", "internal/reflectlite.Swapper", "(internal/reflectlite.Value).Len"], unfollowed := true, recurses := true, named := ["encoding/binary.BigEndian", "pub-kmsg/pub/kmsg/inner/kbin.ErrNotEnoughData"], loops := true, apart := false, laid := [("pub-kmsg/pub/kmsg/inner/kbin.ErrNotEnoughData", laid_pub_kmsg_pub_kmsg_inner_kbin_ErrNotEnoughData)], narrowed := true }
def FnCutListGroupsResponseUptoSaid : Prop := fnCutListGroupsResponseUptoRow.holds Tryz.pinned (OpenSpec.upto fnCutListGroupsResponseSpec)

/-- 'laws.FnCutShareGroupHeartbeatRequest', WHERE WHAT IT READS IS OF BULK AT MOST 1048576: true; the input reads as it did. -/
def fnCutShareGroupHeartbeatRequestUptoRow : OpenClaim := { program := "ythejiimocbfagaagreatdoor", sum := "2b7fa27285c99e740a413b41cebc32aef9e42b01ab7d5efa298f672a64cd154a", func := "pub-kmsg/laws.FnCutShareGroupHeartbeatRequest", spec := "fnCutShareGroupHeartbeatRequest", inPlace := ["internal/reflectlite.ValueOf", "internal/reflectlite.Swapper", "(internal/reflectlite.Value).Len"], unfollowed := true, recurses := true, named := ["encoding/binary.BigEndian", "pub-kmsg/pub/kmsg/inner/kbin.ErrNotEnoughData"], loops := true, apart := false, laid := [("pub-kmsg/pub/kmsg/inner/kbin.ErrNotEnoughData", laid_pub_kmsg_pub_kmsg_inner_kbin_ErrNotEnoughData)], narrowed := true }
def FnCutShareGroupHeartbeatRequestUptoSaid : Prop := fnCutShareGroupHeartbeatRequestUptoRow.holds Tryz.pinned (OpenSpec.upto fnCutShareGroupHeartbeatRequestSpec)

/-- 'laws.FnCutCreateDelegationTokenResponse', WHERE WHAT IT READS IS OF BULK AT MOST 1048576: true; the input reads as it did. -/
def fnCutCreateDelegationTokenResponseUptoRow : OpenClaim := { program := "ythejiimocbfagaagreatdoor", sum := "2b7fa27285c99e740a413b41cebc32aef9e42b01ab7d5efa298f672a64cd154a", func := "pub-kmsg/laws.FnCutCreateDelegationTokenResponse", spec := "fnCutCreateDelegationTokenResponse", inPlace := ["internal/reflectlite.ValueOf", "internal/reflectlite.Swapper", "(internal/reflectlite.Value).Len"], unfollowed := true, recurses := true, named := ["encoding/binary.BigEndian", "pub-kmsg/pub/kmsg/inner/kbin.ErrNotEnoughData"], loops := true, apart := false, laid := [("pub-kmsg/pub/kmsg/inner/kbin.ErrNotEnoughData", laid_pub_kmsg_pub_kmsg_inner_kbin_ErrNotEnoughData)], narrowed := true }
def FnCutCreateDelegationTokenResponseUptoSaid : Prop := fnCutCreateDelegationTokenResponseUptoRow.holds Tryz.pinned (OpenSpec.upto fnCutCreateDelegationTokenResponseSpec)

/-- 'laws.FnCutAddRaftVoterRequest', WHERE WHAT IT READS IS OF BULK AT MOST 1048576: true; the input reads as it did. -/
def fnCutAddRaftVoterRequestUptoRow : OpenClaim := { program := "ythejiimocbfagaagreatdoor", sum := "2b7fa27285c99e740a413b41cebc32aef9e42b01ab7d5efa298f672a64cd154a", func := "pub-kmsg/laws.FnCutAddRaftVoterRequest", spec := "fnCutAddRaftVoterRequest", inPlace := ["internal/reflectlite.ValueOf", "internal/reflectlite.Swapper", "(internal/reflectlite.Value).Len"], unfollowed := true, recurses := true, named := ["encoding/binary.BigEndian", "pub-kmsg/pub/kmsg/inner/kbin.ErrNotEnoughData"], loops := true, apart := false, laid := [("pub-kmsg/pub/kmsg/inner/kbin.ErrNotEnoughData", laid_pub_kmsg_pub_kmsg_inner_kbin_ErrNotEnoughData)], narrowed := true }
def FnCutAddRaftVoterRequestUptoSaid : Prop := fnCutAddRaftVoterRequestUptoRow.holds Tryz.pinned (OpenSpec.upto fnCutAddRaftVoterRequestSpec)

/-- 'laws.FnCutWriteShareGroupStateRequest', WHERE WHAT IT READS IS OF BULK AT MOST 1048576: true; the input reads as it did. -/
def fnCutWriteShareGroupStateRequestUptoRow : OpenClaim := { program := "ythejiimocbfagaagreatdoor", sum := "2b7fa27285c99e740a413b41cebc32aef9e42b01ab7d5efa298f672a64cd154a", func := "pub-kmsg/laws.FnCutWriteShareGroupStateRequest", spec := "fnCutWriteShareGroupStateRequest", inPlace := ["internal/reflectlite.ValueOf", "internal/reflectlite.Swapper", "(internal/reflectlite.Value).Len"], unfollowed := true, recurses := true, named := ["encoding/binary.BigEndian", "pub-kmsg/pub/kmsg/inner/kbin.ErrNotEnoughData"], loops := true, apart := false, laid := [("pub-kmsg/pub/kmsg/inner/kbin.ErrNotEnoughData", laid_pub_kmsg_pub_kmsg_inner_kbin_ErrNotEnoughData)], narrowed := true }
def FnCutWriteShareGroupStateRequestUptoSaid : Prop := fnCutWriteShareGroupStateRequestUptoRow.holds Tryz.pinned (OpenSpec.upto fnCutWriteShareGroupStateRequestSpec)

/-- 'laws.FnCutDescribeDelegationTokenResponse', WHERE WHAT IT READS IS OF BULK AT MOST 1048576: true; the input reads as it did. -/
def fnCutDescribeDelegationTokenResponseUptoRow : OpenClaim := { program := "ythejiimocbfagaagreatdoor", sum := "2b7fa27285c99e740a413b41cebc32aef9e42b01ab7d5efa298f672a64cd154a", func := "pub-kmsg/laws.FnCutDescribeDelegationTokenResponse", spec := "fnCutDescribeDelegationTokenResponse", inPlace := ["internal/reflectlite.ValueOf", "internal/reflectlite.Swapper", "(internal/reflectlite.Value).Len"], unfollowed := true, recurses := true, named := ["encoding/binary.BigEndian", "pub-kmsg/pub/kmsg/inner/kbin.ErrNotEnoughData"], loops := true, apart := false, laid := [("pub-kmsg/pub/kmsg/inner/kbin.ErrNotEnoughData", laid_pub_kmsg_pub_kmsg_inner_kbin_ErrNotEnoughData)], narrowed := true }
def FnCutDescribeDelegationTokenResponseUptoSaid : Prop := fnCutDescribeDelegationTokenResponseUptoRow.holds Tryz.pinned (OpenSpec.upto fnCutDescribeDelegationTokenResponseSpec)

end Rows
end Go.Proofs.YthejiimocbfagaaGreatDoor
