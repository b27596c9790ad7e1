/-
  NARROWER THAN 'FOR EVERY INPUT', by the rows' own cells (each row's printed sentence says how): FnAgainConnectMemberMetadata: loops, laid · FnAnyFetchSnapshotResponse: laid · FnAgainEndTxnResponse: loops, laid · FnCutDefaultPrincipalData: loops, laid · FnAnyLeaderChangeMessage: laid · FnAnyCreateTopicsResponse: laid.
  DERIVED. THE GIVEN ROWS OF THIS SEAT. 6 by the template 'for every input the law returns true; each argument reads behind the call as it read before'; 0 by the template 'total and deterministic' (their statements: YtobeonhmomiaaaaDoorTotals.lean).
  GIVEN WITH THE SEED: the statements are not yours to turn. If you find one false, say at which input.
  Laid BY PROGRAM, IN A SANDBOX (cutbox-rows.mjs): the forced cells as the released guide's own fill.sh prints them over the translation cc0745ac0fb7c252… (all of the seat's roots in one cut). By AI agents, Wed Nov 11 2026. No macro, syntax, notation, axiom, sorry.
-/
import Derived.Test.YtobeonhmomiaaaaDoorChecked
import GoSem.Claim
import GoSem.ClaimJoined
import GoSem.ClaimMapViews
import Derived.JoinedTies
import Derived.KernelRfl
namespace Go.Proofs.YtobeonhmomiaaaaDoor
/- THE CELL 'sum', in the pinned program and in every row, IS THE sha256 OF THE DUMP (.gsa) THAT YtobeonhmomiaaaaDoorProg.lean LOADS. Nothing in Lean hashes anything: it is a label: what it is worth is what the hold of that sum in a sandbox is worth. -/
noncomputable def Tryd.pinned : Pinned := { name := "ytobeonhmomiaaaadoor", sum := "cc0745ac0fb7c25264af04757d342817282cba510c99f974371c2ab3f23ba6cf", checked := Tryd.checked }
namespace Rows
def none {H : Type} : Left H := { results := [], args := [] }

/- WHAT THE LISTED PACKAGE-LEVEL VARIABLES READ AS WHEN THE CALL BEGINS. Each datum BY PROGRAM (the guide's laid-datum.mjs) off the statement by which the dump's own 'gosem.cut.vars' lays the variable. In a bare row this is a premise. The card (YtobeonhmomiaaaaDoorCards.lean) ties it to the program's text. -/
def laid_pub_kmsg_pub_kmsg_inner_kbin_ErrNotEnoughData {H : Type} : DataW H := .iface "*errors.errorString" (.ptr (.agg [.lit (.string [114, 101, 115, 112, 111, 110, 115, 101, 32, 100, 105, 100, 32, 110, 111, 116, 32, 99, 111, 110, 116, 97, 105, 110, 32, 101, 110, 111, 117, 103, 104, 32, 100, 97, 116, 97, 32, 116, 111, 32, 98, 101, 32, 118, 97, 108, 105, 100])]))

/-- 'laws.FnAgainConnectMemberMetadata': WHATEVER THE INPUT: true; the input reads as it did. -/
def fnAgainConnectMemberMetadataSpec : ChangeSpec := { name := "fnAgainConnectMemberMetadata", fn := fun _ => fun
  | [d1, d2] => { results := [.lit (.bool true)], args := [d1, d2] }
  | _ => none }
def fnAgainConnectMemberMetadataRow : OpenClaim := { program := "ytobeonhmomiaaaadoor", sum := "cc0745ac0fb7c25264af04757d342817282cba510c99f974371c2ab3f23ba6cf", func := "pub-kmsg/laws.FnAgainConnectMemberMetadata", spec := "fnAgainConnectMemberMetadata", recurses := true, named := ["encoding/binary.BigEndian", "pub-kmsg/pub/kmsg/inner/kbin.ErrNotEnoughData"], loops := true, apart := false, laid := [("pub-kmsg/pub/kmsg/inner/kbin.ErrNotEnoughData", laid_pub_kmsg_pub_kmsg_inner_kbin_ErrNotEnoughData)] }
def FnAgainConnectMemberMetadataSaid : Prop := fnAgainConnectMemberMetadataRow.holds Tryd.pinned (OpenSpec.ofChange fnAgainConnectMemberMetadataSpec)

/-- ITS FALSE NEIGHBOUR: 'it returns false'. Refute it at one input. -/
def fnAgainConnectMemberMetadataWrong : ChangeSpec := { name := "fnAgainConnectMemberMetadata", fn := fun _ => fun
  | [d1, d2] => { results := [.lit (.bool false)], args := [d1, d2] }
  | _ => none }
def FnAgainConnectMemberMetadataWrongFalsely : Prop := fnAgainConnectMemberMetadataRow.holds Tryd.pinned (OpenSpec.ofChange fnAgainConnectMemberMetadataWrong)

/-- 'laws.FnAnyFetchSnapshotResponse': WHATEVER THE INPUT: true; the input reads as it did. -/
def fnAnyFetchSnapshotResponseSpec : ChangeSpec := { name := "fnAnyFetchSnapshotResponse", fn := fun _ => fun
  | [d1, d2] => { results := [.lit (.bool true)], args := [d1, d2] }
  | _ => none }
def fnAnyFetchSnapshotResponseRow : OpenClaim := { program := "ytobeonhmomiaaaadoor", sum := "cc0745ac0fb7c25264af04757d342817282cba510c99f974371c2ab3f23ba6cf", func := "pub-kmsg/laws.FnAnyFetchSnapshotResponse", spec := "fnAnyFetchSnapshotResponse", inPlace := ["internal/reflectlite.ValueOf", "internal/reflectlite.Swapper", "(internal/reflectlite.Value).Len"], unfollowed := true, recurses := true, named := ["encoding/binary.BigEndian", "pub-kmsg/pub/kmsg/inner/kbin.ErrNotEnoughData"], apart := false, laid := [("pub-kmsg/pub/kmsg/inner/kbin.ErrNotEnoughData", laid_pub_kmsg_pub_kmsg_inner_kbin_ErrNotEnoughData)] }
def FnAnyFetchSnapshotResponseSaid : Prop := fnAnyFetchSnapshotResponseRow.holds Tryd.pinned (OpenSpec.ofChange fnAnyFetchSnapshotResponseSpec)

/-- ITS FALSE NEIGHBOUR: 'it returns false'. Refute it at one input. -/
def fnAnyFetchSnapshotResponseWrong : ChangeSpec := { name := "fnAnyFetchSnapshotResponse", fn := fun _ => fun
  | [d1, d2] => { results := [.lit (.bool false)], args := [d1, d2] }
  | _ => none }
def FnAnyFetchSnapshotResponseWrongFalsely : Prop := fnAnyFetchSnapshotResponseRow.holds Tryd.pinned (OpenSpec.ofChange fnAnyFetchSnapshotResponseWrong)

/-- 'laws.FnAgainEndTxnResponse': WHATEVER THE INPUT: true; the input reads as it did. -/
def fnAgainEndTxnResponseSpec : ChangeSpec := { name := "fnAgainEndTxnResponse", fn := fun _ => fun
  | [d1, d2] => { results := [.lit (.bool true)], args := [d1, d2] }
  | _ => none }
def fnAgainEndTxnResponseRow : OpenClaim := { program := "ytobeonhmomiaaaadoor", sum := "cc0745ac0fb7c25264af04757d342817282cba510c99f974371c2ab3f23ba6cf", func := "pub-kmsg/laws.FnAgainEndTxnResponse", spec := "fnAgainEndTxnResponse", inPlace := ["internal/reflectlite.ValueOf", "internal/reflectlite.Swapper", "(internal/reflectlite.Value).Len"], unfollowed := true, recurses := true, named := ["encoding/binary.BigEndian", "pub-kmsg/pub/kmsg/inner/kbin.ErrNotEnoughData"], loops := true, apart := false, laid := [("pub-kmsg/pub/kmsg/inner/kbin.ErrNotEnoughData", laid_pub_kmsg_pub_kmsg_inner_kbin_ErrNotEnoughData)] }
def FnAgainEndTxnResponseSaid : Prop := fnAgainEndTxnResponseRow.holds Tryd.pinned (OpenSpec.ofChange fnAgainEndTxnResponseSpec)

/-- ITS FALSE NEIGHBOUR: 'it returns false'. Refute it at one input. -/
def fnAgainEndTxnResponseWrong : ChangeSpec := { name := "fnAgainEndTxnResponse", fn := fun _ => fun
  | [d1, d2] => { results := [.lit (.bool false)], args := [d1, d2] }
  | _ => none }
def FnAgainEndTxnResponseWrongFalsely : Prop := fnAgainEndTxnResponseRow.holds Tryd.pinned (OpenSpec.ofChange fnAgainEndTxnResponseWrong)

/-- 'laws.FnCutDefaultPrincipalData': WHATEVER THE INPUT: true; the input reads as it did. -/
def fnCutDefaultPrincipalDataSpec : ChangeSpec := { name := "fnCutDefaultPrincipalData", fn := fun _ => fun
  | [d1, d2, d3] => { results := [.lit (.bool true)], args := [d1, d2, d3] }
  | _ => none }
def fnCutDefaultPrincipalDataRow : OpenClaim := { program := "ytobeonhmomiaaaadoor", sum := "cc0745ac0fb7c25264af04757d342817282cba510c99f974371c2ab3f23ba6cf", func := "pub-kmsg/laws.FnCutDefaultPrincipalData", spec := "fnCutDefaultPrincipalData", inPlace := ["internal/reflectlite.ValueOf", "internal/reflectlite.Swapper", "(internal/reflectlite.Value).Len"], unfollowed := true, recurses := true, named := ["encoding/binary.BigEndian", "pub-kmsg/pub/kmsg/inner/kbin.ErrNotEnoughData"], loops := true, apart := false, laid := [("pub-kmsg/pub/kmsg/inner/kbin.ErrNotEnoughData", laid_pub_kmsg_pub_kmsg_inner_kbin_ErrNotEnoughData)] }
def FnCutDefaultPrincipalDataSaid : Prop := fnCutDefaultPrincipalDataRow.holds Tryd.pinned (OpenSpec.ofChange fnCutDefaultPrincipalDataSpec)

/-- ITS FALSE NEIGHBOUR: 'it returns false'. Refute it at one input. -/
def fnCutDefaultPrincipalDataWrong : ChangeSpec := { name := "fnCutDefaultPrincipalData", fn := fun _ => fun
  | [d1, d2, d3] => { results := [.lit (.bool false)], args := [d1, d2, d3] }
  | _ => none }
def FnCutDefaultPrincipalDataWrongFalsely : Prop := fnCutDefaultPrincipalDataRow.holds Tryd.pinned (OpenSpec.ofChange fnCutDefaultPrincipalDataWrong)

/-- 'laws.FnAnyLeaderChangeMessage': WHATEVER THE INPUT: true; the input reads as it did. -/
def fnAnyLeaderChangeMessageSpec : ChangeSpec := { name := "fnAnyLeaderChangeMessage", fn := fun _ => fun
  | [d] => { results := [.lit (.bool true)], args := [d] }
  | _ => none }
def fnAnyLeaderChangeMessageRow : OpenClaim := { program := "ytobeonhmomiaaaadoor", sum := "cc0745ac0fb7c25264af04757d342817282cba510c99f974371c2ab3f23ba6cf", func := "pub-kmsg/laws.FnAnyLeaderChangeMessage", spec := "fnAnyLeaderChangeMessage", inPlace := ["internal/reflectlite.ValueOf", "internal/reflectlite.Swapper", "(internal/reflectlite.Value).Len"], unfollowed := true, recurses := true, named := ["encoding/binary.BigEndian", "pub-kmsg/pub/kmsg/inner/kbin.ErrNotEnoughData"], apart := false, laid := [("pub-kmsg/pub/kmsg/inner/kbin.ErrNotEnoughData", laid_pub_kmsg_pub_kmsg_inner_kbin_ErrNotEnoughData)] }
def FnAnyLeaderChangeMessageSaid : Prop := fnAnyLeaderChangeMessageRow.holds Tryd.pinned (OpenSpec.ofChange fnAnyLeaderChangeMessageSpec)

/-- ITS FALSE NEIGHBOUR: 'it returns false'. Refute it at one input. -/
def fnAnyLeaderChangeMessageWrong : ChangeSpec := { name := "fnAnyLeaderChangeMessage", fn := fun _ => fun
  | [d] => { results := [.lit (.bool false)], args := [d] }
  | _ => none }
def FnAnyLeaderChangeMessageWrongFalsely : Prop := fnAnyLeaderChangeMessageRow.holds Tryd.pinned (OpenSpec.ofChange fnAnyLeaderChangeMessageWrong)

/-- 'laws.FnAnyCreateTopicsResponse': WHATEVER THE INPUT: true; the input reads as it did. -/
def fnAnyCreateTopicsResponseSpec : ChangeSpec := { name := "fnAnyCreateTopicsResponse", fn := fun _ => fun
  | [d1, d2] => { results := [.lit (.bool true)], args := [d1, d2] }
  | _ => none }
def fnAnyCreateTopicsResponseRow : OpenClaim := { program := "ytobeonhmomiaaaadoor", sum := "cc0745ac0fb7c25264af04757d342817282cba510c99f974371c2ab3f23ba6cf", func := "pub-kmsg/laws.FnAnyCreateTopicsResponse", spec := "fnAnyCreateTopicsResponse", inPlace := ["internal/reflectlite.ValueOf", "internal/reflectlite.Swapper", "(internal/reflectlite.Value).Len"], unfollowed := true, recurses := true, named := ["encoding/binary.BigEndian", "pub-kmsg/pub/kmsg/inner/kbin.ErrNotEnoughData"], apart := false, laid := [("pub-kmsg/pub/kmsg/inner/kbin.ErrNotEnoughData", laid_pub_kmsg_pub_kmsg_inner_kbin_ErrNotEnoughData)] }
def FnAnyCreateTopicsResponseSaid : Prop := fnAnyCreateTopicsResponseRow.holds Tryd.pinned (OpenSpec.ofChange fnAnyCreateTopicsResponseSpec)

/-- ITS FALSE NEIGHBOUR: 'it returns false'. Refute it at one input. -/
def fnAnyCreateTopicsResponseWrong : ChangeSpec := { name := "fnAnyCreateTopicsResponse", fn := fun _ => fun
  | [d1, d2] => { results := [.lit (.bool false)], args := [d1, d2] }
  | _ => none }
def FnAnyCreateTopicsResponseWrongFalsely : Prop := fnAnyCreateTopicsResponseRow.holds Tryd.pinned (OpenSpec.ofChange fnAnyCreateTopicsResponseWrong)

/- THE SECOND FORM. 'bulk': how many values and letters a reading holds, each counted each time it is reached (what is shared counts as often as it is met; a slice's spare places count too). A statement '..UptoSaid' is the law's where the arguments, and the package variables that the reading takes, are together of bulk at most 1048576: NARROWER than '..Said'. Prove '..Said' where nothing that the law and all that it calls make is longer than what came in: it says more and counts as full. Else prove '..UptoSaid'. A law counts once. -/
mutual
def uptoBulk {H : Type} : DataW H → Nat
  | .lit (.string bytes) => bytes.length + 1
  | .lit _ => 1
  | .nil => 1
  | .ptr d => uptoBulk d + 1
  | .slice elems spare => uptoBulkAll elems + uptoBulkAll spare + 1
  | .agg parts => uptoBulkAll parts + 1
  | .iface _ d => uptoBulk d + 1
  | .map entries => uptoBulkEntries entries + 1
  | .held _ => 1
def uptoBulkAll {H : Type} : List (DataW H) → Nat
  | [] => 0
  | d :: r => uptoBulk d + uptoBulkAll r
def uptoBulkEntries {H : Type} : List (Lit × DataW H) → Nat
  | [] => 0
  | x :: r => uptoBulkEntry x + uptoBulkEntries r
def uptoBulkEntry {H : Type} : Lit × DataW H → Nat
  | (.string bytes, d) => bytes.length + uptoBulk d + 1
  | (_, d) => uptoBulk d + 1
 end
def uptoSmall : (H : Type) → List (DataW H) → Bool := fun _ ds => decide (uptoBulkAll ds ≤ 1048576)
def OpenSpec.upto (s : _root_.Go.ChangeSpec) : _root_.Go.OpenSpec := { _root_.Go.OpenSpec.ofChange s with cond := some uptoSmall }

/-- 'laws.FnAgainConnectMemberMetadata', WHERE WHAT IT READS IS OF BULK AT MOST 1048576: true; the input reads as it did. -/
def fnAgainConnectMemberMetadataUptoRow : OpenClaim := { program := "ytobeonhmomiaaaadoor", sum := "cc0745ac0fb7c25264af04757d342817282cba510c99f974371c2ab3f23ba6cf", func := "pub-kmsg/laws.FnAgainConnectMemberMetadata", spec := "fnAgainConnectMemberMetadata", recurses := true, named := ["encoding/binary.BigEndian", "pub-kmsg/pub/kmsg/inner/kbin.ErrNotEnoughData"], loops := true, apart := false, laid := [("pub-kmsg/pub/kmsg/inner/kbin.ErrNotEnoughData", laid_pub_kmsg_pub_kmsg_inner_kbin_ErrNotEnoughData)], narrowed := true }
def FnAgainConnectMemberMetadataUptoSaid : Prop := fnAgainConnectMemberMetadataUptoRow.holds Tryd.pinned (OpenSpec.upto fnAgainConnectMemberMetadataSpec)

/-- 'laws.FnAnyFetchSnapshotResponse', WHERE WHAT IT READS IS OF BULK AT MOST 1048576: true; the input reads as it did. -/
def fnAnyFetchSnapshotResponseUptoRow : OpenClaim := { program := "ytobeonhmomiaaaadoor", sum := "cc0745ac0fb7c25264af04757d342817282cba510c99f974371c2ab3f23ba6cf", func := "pub-kmsg/laws.FnAnyFetchSnapshotResponse", spec := "fnAnyFetchSnapshotResponse", inPlace := ["internal/reflectlite.ValueOf", "internal/reflectlite.Swapper", "(internal/reflectlite.Value).Len"], unfollowed := true, recurses := true, named := ["encoding/binary.BigEndian", "pub-kmsg/pub/kmsg/inner/kbin.ErrNotEnoughData"], apart := false, laid := [("pub-kmsg/pub/kmsg/inner/kbin.ErrNotEnoughData", laid_pub_kmsg_pub_kmsg_inner_kbin_ErrNotEnoughData)], narrowed := true }
def FnAnyFetchSnapshotResponseUptoSaid : Prop := fnAnyFetchSnapshotResponseUptoRow.holds Tryd.pinned (OpenSpec.upto fnAnyFetchSnapshotResponseSpec)

/-- 'laws.FnAgainEndTxnResponse', WHERE WHAT IT READS IS OF BULK AT MOST 1048576: true; the input reads as it did. -/
def fnAgainEndTxnResponseUptoRow : OpenClaim := { program := "ytobeonhmomiaaaadoor", sum := "cc0745ac0fb7c25264af04757d342817282cba510c99f974371c2ab3f23ba6cf", func := "pub-kmsg/laws.FnAgainEndTxnResponse", spec := "fnAgainEndTxnResponse", inPlace := ["internal/reflectlite.ValueOf", "internal/reflectlite.Swapper", "(internal/reflectlite.Value).Len"], unfollowed := true, recurses := true, named := ["encoding/binary.BigEndian", "pub-kmsg/pub/kmsg/inner/kbin.ErrNotEnoughData"], loops := true, apart := false, laid := [("pub-kmsg/pub/kmsg/inner/kbin.ErrNotEnoughData", laid_pub_kmsg_pub_kmsg_inner_kbin_ErrNotEnoughData)], narrowed := true }
def FnAgainEndTxnResponseUptoSaid : Prop := fnAgainEndTxnResponseUptoRow.holds Tryd.pinned (OpenSpec.upto fnAgainEndTxnResponseSpec)

/-- 'laws.FnCutDefaultPrincipalData', WHERE WHAT IT READS IS OF BULK AT MOST 1048576: true; the input reads as it did. -/
def fnCutDefaultPrincipalDataUptoRow : OpenClaim := { program := "ytobeonhmomiaaaadoor", sum := "cc0745ac0fb7c25264af04757d342817282cba510c99f974371c2ab3f23ba6cf", func := "pub-kmsg/laws.FnCutDefaultPrincipalData", spec := "fnCutDefaultPrincipalData", inPlace := ["internal/reflectlite.ValueOf", "internal/reflectlite.Swapper", "(internal/reflectlite.Value).Len"], unfollowed := true, recurses := true, named := ["encoding/binary.BigEndian", "pub-kmsg/pub/kmsg/inner/kbin.ErrNotEnoughData"], loops := true, apart := false, laid := [("pub-kmsg/pub/kmsg/inner/kbin.ErrNotEnoughData", laid_pub_kmsg_pub_kmsg_inner_kbin_ErrNotEnoughData)], narrowed := true }
def FnCutDefaultPrincipalDataUptoSaid : Prop := fnCutDefaultPrincipalDataUptoRow.holds Tryd.pinned (OpenSpec.upto fnCutDefaultPrincipalDataSpec)

/-- 'laws.FnAnyLeaderChangeMessage', WHERE WHAT IT READS IS OF BULK AT MOST 1048576: true; the input reads as it did. -/
def fnAnyLeaderChangeMessageUptoRow : OpenClaim := { program := "ytobeonhmomiaaaadoor", sum := "cc0745ac0fb7c25264af04757d342817282cba510c99f974371c2ab3f23ba6cf", func := "pub-kmsg/laws.FnAnyLeaderChangeMessage", spec := "fnAnyLeaderChangeMessage", inPlace := ["internal/reflectlite.ValueOf", "internal/reflectlite.Swapper", "(internal/reflectlite.Value).Len"], unfollowed := true, recurses := true, named := ["encoding/binary.BigEndian", "pub-kmsg/pub/kmsg/inner/kbin.ErrNotEnoughData"], apart := false, laid := [("pub-kmsg/pub/kmsg/inner/kbin.ErrNotEnoughData", laid_pub_kmsg_pub_kmsg_inner_kbin_ErrNotEnoughData)], narrowed := true }
def FnAnyLeaderChangeMessageUptoSaid : Prop := fnAnyLeaderChangeMessageUptoRow.holds Tryd.pinned (OpenSpec.upto fnAnyLeaderChangeMessageSpec)

/-- 'laws.FnAnyCreateTopicsResponse', WHERE WHAT IT READS IS OF BULK AT MOST 1048576: true; the input reads as it did. -/
def fnAnyCreateTopicsResponseUptoRow : OpenClaim := { program := "ytobeonhmomiaaaadoor", sum := "cc0745ac0fb7c25264af04757d342817282cba510c99f974371c2ab3f23ba6cf", func := "pub-kmsg/laws.FnAnyCreateTopicsResponse", spec := "fnAnyCreateTopicsResponse", inPlace := ["internal/reflectlite.ValueOf", "internal/reflectlite.Swapper", "(internal/reflectlite.Value).Len"], unfollowed := true, recurses := true, named := ["encoding/binary.BigEndian", "pub-kmsg/pub/kmsg/inner/kbin.ErrNotEnoughData"], apart := false, laid := [("pub-kmsg/pub/kmsg/inner/kbin.ErrNotEnoughData", laid_pub_kmsg_pub_kmsg_inner_kbin_ErrNotEnoughData)], narrowed := true }
def FnAnyCreateTopicsResponseUptoSaid : Prop := fnAnyCreateTopicsResponseUptoRow.holds Tryd.pinned (OpenSpec.upto fnAnyCreateTopicsResponseSpec)

end Rows
end Go.Proofs.YtobeonhmomiaaaaDoor
