/-
  No cell of these rows narrows 'for every input' (looked for: loops, veiled, ifaces, maps, wideKeys, modest, calm, conditions, laid).
  DERIVED. THE GIVEN ROWS OF THIS SEAT. 12 by the template 'for every input the law returns true; each argument reads behind the call as it read before'; 0 by the template 'total and deterministic' (their statements: YtkgdalmicafndaaTotals.lean).
  GIVEN WITH THE SEED: the statements are not yours to turn. If you find one false, say at which input.
  Laid BY PROGRAM, IN A SANDBOX (cutbox-rows.mjs): the forced cells as the released guide's own fill.sh prints them over the translation b278f373a1b182a0… (all of the seat's roots in one cut). By AI agents, Wed Nov 11 2026. No macro, syntax, notation, axiom, sorry.
-/
import Derived.Test.YtkgdalmicafndaaChecked
import GoSem.Claim
import GoSem.ClaimJoined
import GoSem.ClaimMapViews
import Derived.JoinedTies
import Derived.KernelRfl
namespace Go.Proofs.Ytkgdalmicafndaa
/- THE CELL 'sum', in the pinned program and in every row, IS THE sha256 OF THE DUMP (.gsa) THAT YtkgdalmicafndaaProg.lean LOADS. Nothing in Lean hashes anything: it is a label: what it is worth is what the hold of that sum in a sandbox is worth. -/
noncomputable def Try.pinned : Pinned := { name := "ytkgdalmicafndaa", sum := "b278f373a1b182a07e908fa93dab3fc64635610f64fd6fa737ba17bc33438614", checked := Try.checked }
namespace Rows
def none {H : Type} : Left H := { results := [], args := [] }

/-- 'laws.FnNewEnvelopeResponse': WHATEVER THE INPUT: true; the input reads as it did. -/
def fnNewEnvelopeResponseSpec : ChangeSpec := { name := "fnNewEnvelopeResponse", fn := fun _ => fun
  | [d] => { results := [.lit (.bool true)], args := [d] }
  | _ => none }
def fnNewEnvelopeResponseRow : OpenClaim := { program := "ytkgdalmicafndaa", sum := "b278f373a1b182a07e908fa93dab3fc64635610f64fd6fa737ba17bc33438614", func := "pub-kmsg/laws.FnNewEnvelopeResponse", spec := "fnNewEnvelopeResponse", inPlace := ["internal/reflectlite.ValueOf", "internal/reflectlite.Swapper", "(internal/reflectlite.Value).Len"], unfollowed := true, recurses := true, apart := false }
def FnNewEnvelopeResponseSaid : Prop := fnNewEnvelopeResponseRow.holds Try.pinned (OpenSpec.ofChange fnNewEnvelopeResponseSpec)

/-- ITS FALSE NEIGHBOUR: 'it returns false'. Refute it at one input. -/
def fnNewEnvelopeResponseWrong : ChangeSpec := { name := "fnNewEnvelopeResponse", fn := fun _ => fun
  | [d] => { results := [.lit (.bool false)], args := [d] }
  | _ => none }
def FnNewEnvelopeResponseWrongFalsely : Prop := fnNewEnvelopeResponseRow.holds Try.pinned (OpenSpec.ofChange fnNewEnvelopeResponseWrong)

/-- 'laws.FnNewShareGroupDescribeRequest': WHATEVER THE INPUT: true; the input reads as it did. -/
def fnNewShareGroupDescribeRequestSpec : ChangeSpec := { name := "fnNewShareGroupDescribeRequest", fn := fun _ => fun
  | [d] => { results := [.lit (.bool true)], args := [d] }
  | _ => none }
def fnNewShareGroupDescribeRequestRow : OpenClaim := { program := "ytkgdalmicafndaa", sum := "b278f373a1b182a07e908fa93dab3fc64635610f64fd6fa737ba17bc33438614", func := "pub-kmsg/laws.FnNewShareGroupDescribeRequest", spec := "fnNewShareGroupDescribeRequest", inPlace := ["internal/reflectlite.ValueOf", "internal/reflectlite.Swapper", "(internal/reflectlite.Value).Len"], unfollowed := true, recurses := true, apart := false }
def FnNewShareGroupDescribeRequestSaid : Prop := fnNewShareGroupDescribeRequestRow.holds Try.pinned (OpenSpec.ofChange fnNewShareGroupDescribeRequestSpec)

/-- ITS FALSE NEIGHBOUR: 'it returns false'. Refute it at one input. -/
def fnNewShareGroupDescribeRequestWrong : ChangeSpec := { name := "fnNewShareGroupDescribeRequest", fn := fun _ => fun
  | [d] => { results := [.lit (.bool false)], args := [d] }
  | _ => none }
def FnNewShareGroupDescribeRequestWrongFalsely : Prop := fnNewShareGroupDescribeRequestRow.holds Try.pinned (OpenSpec.ofChange fnNewShareGroupDescribeRequestWrong)

/-- 'laws.FnNewDeleteShareGroupOffsetsRequest': WHATEVER THE INPUT: true; the input reads as it did. -/
def fnNewDeleteShareGroupOffsetsRequestSpec : ChangeSpec := { name := "fnNewDeleteShareGroupOffsetsRequest", fn := fun _ => fun
  | [d] => { results := [.lit (.bool true)], args := [d] }
  | _ => none }
def fnNewDeleteShareGroupOffsetsRequestRow : OpenClaim := { program := "ytkgdalmicafndaa", sum := "b278f373a1b182a07e908fa93dab3fc64635610f64fd6fa737ba17bc33438614", func := "pub-kmsg/laws.FnNewDeleteShareGroupOffsetsRequest", spec := "fnNewDeleteShareGroupOffsetsRequest", inPlace := ["internal/reflectlite.ValueOf", "internal/reflectlite.Swapper", "(internal/reflectlite.Value).Len"], unfollowed := true, recurses := true, apart := false }
def FnNewDeleteShareGroupOffsetsRequestSaid : Prop := fnNewDeleteShareGroupOffsetsRequestRow.holds Try.pinned (OpenSpec.ofChange fnNewDeleteShareGroupOffsetsRequestSpec)

/-- ITS FALSE NEIGHBOUR: 'it returns false'. Refute it at one input. -/
def fnNewDeleteShareGroupOffsetsRequestWrong : ChangeSpec := { name := "fnNewDeleteShareGroupOffsetsRequest", fn := fun _ => fun
  | [d] => { results := [.lit (.bool false)], args := [d] }
  | _ => none }
def FnNewDeleteShareGroupOffsetsRequestWrongFalsely : Prop := fnNewDeleteShareGroupOffsetsRequestRow.holds Try.pinned (OpenSpec.ofChange fnNewDeleteShareGroupOffsetsRequestWrong)

/-- 'laws.FnNewListConfigResourcesResponse': WHATEVER THE INPUT: true; the input reads as it did. -/
def fnNewListConfigResourcesResponseSpec : ChangeSpec := { name := "fnNewListConfigResourcesResponse", fn := fun _ => fun
  | [d] => { results := [.lit (.bool true)], args := [d] }
  | _ => none }
def fnNewListConfigResourcesResponseRow : OpenClaim := { program := "ytkgdalmicafndaa", sum := "b278f373a1b182a07e908fa93dab3fc64635610f64fd6fa737ba17bc33438614", func := "pub-kmsg/laws.FnNewListConfigResourcesResponse", spec := "fnNewListConfigResourcesResponse", inPlace := ["internal/reflectlite.ValueOf", "internal/reflectlite.Swapper", "(internal/reflectlite.Value).Len"], unfollowed := true, recurses := true, apart := false }
def FnNewListConfigResourcesResponseSaid : Prop := fnNewListConfigResourcesResponseRow.holds Try.pinned (OpenSpec.ofChange fnNewListConfigResourcesResponseSpec)

/-- ITS FALSE NEIGHBOUR: 'it returns false'. Refute it at one input. -/
def fnNewListConfigResourcesResponseWrong : ChangeSpec := { name := "fnNewListConfigResourcesResponse", fn := fun _ => fun
  | [d] => { results := [.lit (.bool false)], args := [d] }
  | _ => none }
def FnNewListConfigResourcesResponseWrongFalsely : Prop := fnNewListConfigResourcesResponseRow.holds Try.pinned (OpenSpec.ofChange fnNewListConfigResourcesResponseWrong)

/-- 'laws.FnNewCreateACLsResponse': WHATEVER THE INPUT: true; the input reads as it did. -/
def fnNewCreateACLsResponseSpec : ChangeSpec := { name := "fnNewCreateACLsResponse", fn := fun _ => fun
  | [d] => { results := [.lit (.bool true)], args := [d] }
  | _ => none }
def fnNewCreateACLsResponseRow : OpenClaim := { program := "ytkgdalmicafndaa", sum := "b278f373a1b182a07e908fa93dab3fc64635610f64fd6fa737ba17bc33438614", func := "pub-kmsg/laws.FnNewCreateACLsResponse", spec := "fnNewCreateACLsResponse", inPlace := ["internal/reflectlite.ValueOf", "internal/reflectlite.Swapper", "(internal/reflectlite.Value).Len"], unfollowed := true, recurses := true, apart := false }
def FnNewCreateACLsResponseSaid : Prop := fnNewCreateACLsResponseRow.holds Try.pinned (OpenSpec.ofChange fnNewCreateACLsResponseSpec)

/-- ITS FALSE NEIGHBOUR: 'it returns false'. Refute it at one input. -/
def fnNewCreateACLsResponseWrong : ChangeSpec := { name := "fnNewCreateACLsResponse", fn := fun _ => fun
  | [d] => { results := [.lit (.bool false)], args := [d] }
  | _ => none }
def FnNewCreateACLsResponseWrongFalsely : Prop := fnNewCreateACLsResponseRow.holds Try.pinned (OpenSpec.ofChange fnNewCreateACLsResponseWrong)

/-- 'laws.FnNewSyncGroupResponse': WHATEVER THE INPUT: true; the input reads as it did. -/
def fnNewSyncGroupResponseSpec : ChangeSpec := { name := "fnNewSyncGroupResponse", fn := fun _ => fun
  | [d] => { results := [.lit (.bool true)], args := [d] }
  | _ => none }
def fnNewSyncGroupResponseRow : OpenClaim := { program := "ytkgdalmicafndaa", sum := "b278f373a1b182a07e908fa93dab3fc64635610f64fd6fa737ba17bc33438614", func := "pub-kmsg/laws.FnNewSyncGroupResponse", spec := "fnNewSyncGroupResponse", inPlace := ["internal/reflectlite.ValueOf", "internal/reflectlite.Swapper", "(internal/reflectlite.Value).Len"], unfollowed := true, recurses := true, apart := false }
def FnNewSyncGroupResponseSaid : Prop := fnNewSyncGroupResponseRow.holds Try.pinned (OpenSpec.ofChange fnNewSyncGroupResponseSpec)

/-- ITS FALSE NEIGHBOUR: 'it returns false'. Refute it at one input. -/
def fnNewSyncGroupResponseWrong : ChangeSpec := { name := "fnNewSyncGroupResponse", fn := fun _ => fun
  | [d] => { results := [.lit (.bool false)], args := [d] }
  | _ => none }
def FnNewSyncGroupResponseWrongFalsely : Prop := fnNewSyncGroupResponseRow.holds Try.pinned (OpenSpec.ofChange fnNewSyncGroupResponseWrong)

/-- 'laws.FnNewReadShareGroupStateSummaryResponse': WHATEVER THE INPUT: true; the input reads as it did. -/
def fnNewReadShareGroupStateSummaryResponseSpec : ChangeSpec := { name := "fnNewReadShareGroupStateSummaryResponse", fn := fun _ => fun
  | [d] => { results := [.lit (.bool true)], args := [d] }
  | _ => none }
def fnNewReadShareGroupStateSummaryResponseRow : OpenClaim := { program := "ytkgdalmicafndaa", sum := "b278f373a1b182a07e908fa93dab3fc64635610f64fd6fa737ba17bc33438614", func := "pub-kmsg/laws.FnNewReadShareGroupStateSummaryResponse", spec := "fnNewReadShareGroupStateSummaryResponse", inPlace := ["internal/reflectlite.ValueOf", "internal/reflectlite.Swapper", "(internal/reflectlite.Value).Len"], unfollowed := true, recurses := true, apart := false }
def FnNewReadShareGroupStateSummaryResponseSaid : Prop := fnNewReadShareGroupStateSummaryResponseRow.holds Try.pinned (OpenSpec.ofChange fnNewReadShareGroupStateSummaryResponseSpec)

/-- ITS FALSE NEIGHBOUR: 'it returns false'. Refute it at one input. -/
def fnNewReadShareGroupStateSummaryResponseWrong : ChangeSpec := { name := "fnNewReadShareGroupStateSummaryResponse", fn := fun _ => fun
  | [d] => { results := [.lit (.bool false)], args := [d] }
  | _ => none }
def FnNewReadShareGroupStateSummaryResponseWrongFalsely : Prop := fnNewReadShareGroupStateSummaryResponseRow.holds Try.pinned (OpenSpec.ofChange fnNewReadShareGroupStateSummaryResponseWrong)

/-- 'laws.FnNewAlterPartitionResponse': WHATEVER THE INPUT: true; the input reads as it did. -/
def fnNewAlterPartitionResponseSpec : ChangeSpec := { name := "fnNewAlterPartitionResponse", fn := fun _ => fun
  | [d] => { results := [.lit (.bool true)], args := [d] }
  | _ => none }
def fnNewAlterPartitionResponseRow : OpenClaim := { program := "ytkgdalmicafndaa", sum := "b278f373a1b182a07e908fa93dab3fc64635610f64fd6fa737ba17bc33438614", func := "pub-kmsg/laws.FnNewAlterPartitionResponse", spec := "fnNewAlterPartitionResponse", inPlace := ["internal/reflectlite.ValueOf", "internal/reflectlite.Swapper", "(internal/reflectlite.Value).Len"], unfollowed := true, recurses := true, apart := false }
def FnNewAlterPartitionResponseSaid : Prop := fnNewAlterPartitionResponseRow.holds Try.pinned (OpenSpec.ofChange fnNewAlterPartitionResponseSpec)

/-- ITS FALSE NEIGHBOUR: 'it returns false'. Refute it at one input. -/
def fnNewAlterPartitionResponseWrong : ChangeSpec := { name := "fnNewAlterPartitionResponse", fn := fun _ => fun
  | [d] => { results := [.lit (.bool false)], args := [d] }
  | _ => none }
def FnNewAlterPartitionResponseWrongFalsely : Prop := fnNewAlterPartitionResponseRow.holds Try.pinned (OpenSpec.ofChange fnNewAlterPartitionResponseWrong)

/-- 'laws.FnNewIncrementalAlterConfigsRequest': WHATEVER THE INPUT: true; the input reads as it did. -/
def fnNewIncrementalAlterConfigsRequestSpec : ChangeSpec := { name := "fnNewIncrementalAlterConfigsRequest", fn := fun _ => fun
  | [d] => { results := [.lit (.bool true)], args := [d] }
  | _ => none }
def fnNewIncrementalAlterConfigsRequestRow : OpenClaim := { program := "ytkgdalmicafndaa", sum := "b278f373a1b182a07e908fa93dab3fc64635610f64fd6fa737ba17bc33438614", func := "pub-kmsg/laws.FnNewIncrementalAlterConfigsRequest", spec := "fnNewIncrementalAlterConfigsRequest", inPlace := ["internal/reflectlite.ValueOf", "internal/reflectlite.Swapper", "(internal/reflectlite.Value).Len"], unfollowed := true, recurses := true, apart := false }
def FnNewIncrementalAlterConfigsRequestSaid : Prop := fnNewIncrementalAlterConfigsRequestRow.holds Try.pinned (OpenSpec.ofChange fnNewIncrementalAlterConfigsRequestSpec)

/-- ITS FALSE NEIGHBOUR: 'it returns false'. Refute it at one input. -/
def fnNewIncrementalAlterConfigsRequestWrong : ChangeSpec := { name := "fnNewIncrementalAlterConfigsRequest", fn := fun _ => fun
  | [d] => { results := [.lit (.bool false)], args := [d] }
  | _ => none }
def FnNewIncrementalAlterConfigsRequestWrongFalsely : Prop := fnNewIncrementalAlterConfigsRequestRow.holds Try.pinned (OpenSpec.ofChange fnNewIncrementalAlterConfigsRequestWrong)

/-- 'laws.FnNewVoteRequest': WHATEVER THE INPUT: true; the input reads as it did. -/
def fnNewVoteRequestSpec : ChangeSpec := { name := "fnNewVoteRequest", fn := fun _ => fun
  | [d] => { results := [.lit (.bool true)], args := [d] }
  | _ => none }
def fnNewVoteRequestRow : OpenClaim := { program := "ytkgdalmicafndaa", sum := "b278f373a1b182a07e908fa93dab3fc64635610f64fd6fa737ba17bc33438614", func := "pub-kmsg/laws.FnNewVoteRequest", spec := "fnNewVoteRequest", inPlace := ["internal/reflectlite.ValueOf", "internal/reflectlite.Swapper", "(internal/reflectlite.Value).Len"], unfollowed := true, recurses := true, apart := false }
def FnNewVoteRequestSaid : Prop := fnNewVoteRequestRow.holds Try.pinned (OpenSpec.ofChange fnNewVoteRequestSpec)

/-- ITS FALSE NEIGHBOUR: 'it returns false'. Refute it at one input. -/
def fnNewVoteRequestWrong : ChangeSpec := { name := "fnNewVoteRequest", fn := fun _ => fun
  | [d] => { results := [.lit (.bool false)], args := [d] }
  | _ => none }
def FnNewVoteRequestWrongFalsely : Prop := fnNewVoteRequestRow.holds Try.pinned (OpenSpec.ofChange fnNewVoteRequestWrong)

/-- 'laws.FnNewAddPartitionsToTxnRequest': WHATEVER THE INPUT: true; the input reads as it did. -/
def fnNewAddPartitionsToTxnRequestSpec : ChangeSpec := { name := "fnNewAddPartitionsToTxnRequest", fn := fun _ => fun
  | [d] => { results := [.lit (.bool true)], args := [d] }
  | _ => none }
def fnNewAddPartitionsToTxnRequestRow : OpenClaim := { program := "ytkgdalmicafndaa", sum := "b278f373a1b182a07e908fa93dab3fc64635610f64fd6fa737ba17bc33438614", func := "pub-kmsg/laws.FnNewAddPartitionsToTxnRequest", spec := "fnNewAddPartitionsToTxnRequest", inPlace := ["internal/reflectlite.ValueOf", "internal/reflectlite.Swapper", "(internal/reflectlite.Value).Len"], unfollowed := true, recurses := true, apart := false }
def FnNewAddPartitionsToTxnRequestSaid : Prop := fnNewAddPartitionsToTxnRequestRow.holds Try.pinned (OpenSpec.ofChange fnNewAddPartitionsToTxnRequestSpec)

/-- ITS FALSE NEIGHBOUR: 'it returns false'. Refute it at one input. -/
def fnNewAddPartitionsToTxnRequestWrong : ChangeSpec := { name := "fnNewAddPartitionsToTxnRequest", fn := fun _ => fun
  | [d] => { results := [.lit (.bool false)], args := [d] }
  | _ => none }
def FnNewAddPartitionsToTxnRequestWrongFalsely : Prop := fnNewAddPartitionsToTxnRequestRow.holds Try.pinned (OpenSpec.ofChange fnNewAddPartitionsToTxnRequestWrong)

/-- 'laws.FnNewDescribeConfigsResponse': WHATEVER THE INPUT: true; the input reads as it did. -/
def fnNewDescribeConfigsResponseSpec : ChangeSpec := { name := "fnNewDescribeConfigsResponse", fn := fun _ => fun
  | [d] => { results := [.lit (.bool true)], args := [d] }
  | _ => none }
def fnNewDescribeConfigsResponseRow : OpenClaim := { program := "ytkgdalmicafndaa", sum := "b278f373a1b182a07e908fa93dab3fc64635610f64fd6fa737ba17bc33438614", func := "pub-kmsg/laws.FnNewDescribeConfigsResponse", spec := "fnNewDescribeConfigsResponse", inPlace := ["internal/reflectlite.ValueOf", "internal/reflectlite.Swapper", "(internal/reflectlite.Value).Len"], unfollowed := true, recurses := true, apart := false }
def FnNewDescribeConfigsResponseSaid : Prop := fnNewDescribeConfigsResponseRow.holds Try.pinned (OpenSpec.ofChange fnNewDescribeConfigsResponseSpec)

/-- ITS FALSE NEIGHBOUR: 'it returns false'. Refute it at one input. -/
def fnNewDescribeConfigsResponseWrong : ChangeSpec := { name := "fnNewDescribeConfigsResponse", fn := fun _ => fun
  | [d] => { results := [.lit (.bool false)], args := [d] }
  | _ => none }
def FnNewDescribeConfigsResponseWrongFalsely : Prop := fnNewDescribeConfigsResponseRow.holds Try.pinned (OpenSpec.ofChange fnNewDescribeConfigsResponseWrong)

/- THE SECOND FORM. 'bulk': how many values and letters a reading holds, each counted each time it is reached (what is shared counts as often as it is met; a slice's spare places count too). A statement '..UptoSaid' is the law's where the arguments, and the package variables that the reading takes, are together of bulk at most 1048576: NARROWER than '..Said'. Prove '..Said' where nothing that the law and all that it calls make is longer than what came in: it says more and counts as full. Else prove '..UptoSaid'. A law counts once. -/
mutual
def uptoBulk {H : Type} : DataW H → Nat
  | .lit (.string bytes) => bytes.length + 1
  | .lit _ => 1
  | .nil => 1
  | .ptr d => uptoBulk d + 1
  | .slice elems spare => uptoBulkAll elems + uptoBulkAll spare + 1
  | .agg parts => uptoBulkAll parts + 1
  | .iface _ d => uptoBulk d + 1
  | .map entries => uptoBulkEntries entries + 1
  | .held _ => 1
def uptoBulkAll {H : Type} : List (DataW H) → Nat
  | [] => 0
  | d :: r => uptoBulk d + uptoBulkAll r
def uptoBulkEntries {H : Type} : List (Lit × DataW H) → Nat
  | [] => 0
  | x :: r => uptoBulkEntry x + uptoBulkEntries r
def uptoBulkEntry {H : Type} : Lit × DataW H → Nat
  | (.string bytes, d) => bytes.length + uptoBulk d + 1
  | (_, d) => uptoBulk d + 1
 end
def uptoSmall : (H : Type) → List (DataW H) → Bool := fun _ ds => decide (uptoBulkAll ds ≤ 1048576)
def OpenSpec.upto (s : _root_.Go.ChangeSpec) : _root_.Go.OpenSpec := { _root_.Go.OpenSpec.ofChange s with cond := some uptoSmall }

/-- 'laws.FnNewEnvelopeResponse', WHERE WHAT IT READS IS OF BULK AT MOST 1048576: true; the input reads as it did. -/
def fnNewEnvelopeResponseUptoRow : OpenClaim := { program := "ytkgdalmicafndaa", sum := "b278f373a1b182a07e908fa93dab3fc64635610f64fd6fa737ba17bc33438614", func := "pub-kmsg/laws.FnNewEnvelopeResponse", spec := "fnNewEnvelopeResponse", inPlace := ["internal/reflectlite.ValueOf", "internal/reflectlite.Swapper", "(internal/reflectlite.Value).Len"], unfollowed := true, recurses := true, apart := false, narrowed := true }
def FnNewEnvelopeResponseUptoSaid : Prop := fnNewEnvelopeResponseUptoRow.holds Try.pinned (OpenSpec.upto fnNewEnvelopeResponseSpec)

/-- 'laws.FnNewShareGroupDescribeRequest', WHERE WHAT IT READS IS OF BULK AT MOST 1048576: true; the input reads as it did. -/
def fnNewShareGroupDescribeRequestUptoRow : OpenClaim := { program := "ytkgdalmicafndaa", sum := "b278f373a1b182a07e908fa93dab3fc64635610f64fd6fa737ba17bc33438614", func := "pub-kmsg/laws.FnNewShareGroupDescribeRequest", spec := "fnNewShareGroupDescribeRequest", inPlace := ["internal/reflectlite.ValueOf", "internal/reflectlite.Swapper", "(internal/reflectlite.Value).Len"], unfollowed := true, recurses := true, apart := false, narrowed := true }
def FnNewShareGroupDescribeRequestUptoSaid : Prop := fnNewShareGroupDescribeRequestUptoRow.holds Try.pinned (OpenSpec.upto fnNewShareGroupDescribeRequestSpec)

/-- 'laws.FnNewDeleteShareGroupOffsetsRequest', WHERE WHAT IT READS IS OF BULK AT MOST 1048576: true; the input reads as it did. -/
def fnNewDeleteShareGroupOffsetsRequestUptoRow : OpenClaim := { program := "ytkgdalmicafndaa", sum := "b278f373a1b182a07e908fa93dab3fc64635610f64fd6fa737ba17bc33438614", func := "pub-kmsg/laws.FnNewDeleteShareGroupOffsetsRequest", spec := "fnNewDeleteShareGroupOffsetsRequest", inPlace := ["internal/reflectlite.ValueOf", "internal/reflectlite.Swapper", "(internal/reflectlite.Value).Len"], unfollowed := true, recurses := true, apart := false, narrowed := true }
def FnNewDeleteShareGroupOffsetsRequestUptoSaid : Prop := fnNewDeleteShareGroupOffsetsRequestUptoRow.holds Try.pinned (OpenSpec.upto fnNewDeleteShareGroupOffsetsRequestSpec)

/-- 'laws.FnNewListConfigResourcesResponse', WHERE WHAT IT READS IS OF BULK AT MOST 1048576: true; the input reads as it did. -/
def fnNewListConfigResourcesResponseUptoRow : OpenClaim := { program := "ytkgdalmicafndaa", sum := "b278f373a1b182a07e908fa93dab3fc64635610f64fd6fa737ba17bc33438614", func := "pub-kmsg/laws.FnNewListConfigResourcesResponse", spec := "fnNewListConfigResourcesResponse", inPlace := ["internal/reflectlite.ValueOf", "internal/reflectlite.Swapper", "(internal/reflectlite.Value).Len"], unfollowed := true, recurses := true, apart := false, narrowed := true }
def FnNewListConfigResourcesResponseUptoSaid : Prop := fnNewListConfigResourcesResponseUptoRow.holds Try.pinned (OpenSpec.upto fnNewListConfigResourcesResponseSpec)

/-- 'laws.FnNewCreateACLsResponse', WHERE WHAT IT READS IS OF BULK AT MOST 1048576: true; the input reads as it did. -/
def fnNewCreateACLsResponseUptoRow : OpenClaim := { program := "ytkgdalmicafndaa", sum := "b278f373a1b182a07e908fa93dab3fc64635610f64fd6fa737ba17bc33438614", func := "pub-kmsg/laws.FnNewCreateACLsResponse", spec := "fnNewCreateACLsResponse", inPlace := ["internal/reflectlite.ValueOf", "internal/reflectlite.Swapper", "(internal/reflectlite.Value).Len"], unfollowed := true, recurses := true, apart := false, narrowed := true }
def FnNewCreateACLsResponseUptoSaid : Prop := fnNewCreateACLsResponseUptoRow.holds Try.pinned (OpenSpec.upto fnNewCreateACLsResponseSpec)

/-- 'laws.FnNewSyncGroupResponse', WHERE WHAT IT READS IS OF BULK AT MOST 1048576: true; the input reads as it did. -/
def fnNewSyncGroupResponseUptoRow : OpenClaim := { program := "ytkgdalmicafndaa", sum := "b278f373a1b182a07e908fa93dab3fc64635610f64fd6fa737ba17bc33438614", func := "pub-kmsg/laws.FnNewSyncGroupResponse", spec := "fnNewSyncGroupResponse", inPlace := ["internal/reflectlite.ValueOf", "internal/reflectlite.Swapper", "(internal/reflectlite.Value).Len"], unfollowed := true, recurses := true, apart := false, narrowed := true }
def FnNewSyncGroupResponseUptoSaid : Prop := fnNewSyncGroupResponseUptoRow.holds Try.pinned (OpenSpec.upto fnNewSyncGroupResponseSpec)

/-- 'laws.FnNewReadShareGroupStateSummaryResponse', WHERE WHAT IT READS IS OF BULK AT MOST 1048576: true; the input reads as it did. -/
def fnNewReadShareGroupStateSummaryResponseUptoRow : OpenClaim := { program := "ytkgdalmicafndaa", sum := "b278f373a1b182a07e908fa93dab3fc64635610f64fd6fa737ba17bc33438614", func := "pub-kmsg/laws.FnNewReadShareGroupStateSummaryResponse", spec := "fnNewReadShareGroupStateSummaryResponse", inPlace := ["internal/reflectlite.ValueOf", "internal/reflectlite.Swapper", "(internal/reflectlite.Value).Len"], unfollowed := true, recurses := true, apart := false, narrowed := true }
def FnNewReadShareGroupStateSummaryResponseUptoSaid : Prop := fnNewReadShareGroupStateSummaryResponseUptoRow.holds Try.pinned (OpenSpec.upto fnNewReadShareGroupStateSummaryResponseSpec)

/-- 'laws.FnNewAlterPartitionResponse', WHERE WHAT IT READS IS OF BULK AT MOST 1048576: true; the input reads as it did. -/
def fnNewAlterPartitionResponseUptoRow : OpenClaim := { program := "ytkgdalmicafndaa", sum := "b278f373a1b182a07e908fa93dab3fc64635610f64fd6fa737ba17bc33438614", func := "pub-kmsg/laws.FnNewAlterPartitionResponse", spec := "fnNewAlterPartitionResponse", inPlace := ["internal/reflectlite.ValueOf", "internal/reflectlite.Swapper", "(internal/reflectlite.Value).Len"], unfollowed := true, recurses := true, apart := false, narrowed := true }
def FnNewAlterPartitionResponseUptoSaid : Prop := fnNewAlterPartitionResponseUptoRow.holds Try.pinned (OpenSpec.upto fnNewAlterPartitionResponseSpec)

/-- 'laws.FnNewIncrementalAlterConfigsRequest', WHERE WHAT IT READS IS OF BULK AT MOST 1048576: true; the input reads as it did. -/
def fnNewIncrementalAlterConfigsRequestUptoRow : OpenClaim := { program := "ytkgdalmicafndaa", sum := "b278f373a1b182a07e908fa93dab3fc64635610f64fd6fa737ba17bc33438614", func := "pub-kmsg/laws.FnNewIncrementalAlterConfigsRequest", spec := "fnNewIncrementalAlterConfigsRequest", inPlace := ["internal/reflectlite.ValueOf", "internal/reflectlite.Swapper", "(internal/reflectlite.Value).Len"], unfollowed := true, recurses := true, apart := false, narrowed := true }
def FnNewIncrementalAlterConfigsRequestUptoSaid : Prop := fnNewIncrementalAlterConfigsRequestUptoRow.holds Try.pinned (OpenSpec.upto fnNewIncrementalAlterConfigsRequestSpec)

/-- 'laws.FnNewVoteRequest', WHERE WHAT IT READS IS OF BULK AT MOST 1048576: true; the input reads as it did. -/
def fnNewVoteRequestUptoRow : OpenClaim := { program := "ytkgdalmicafndaa", sum := "b278f373a1b182a07e908fa93dab3fc64635610f64fd6fa737ba17bc33438614", func := "pub-kmsg/laws.FnNewVoteRequest", spec := "fnNewVoteRequest", inPlace := ["internal/reflectlite.ValueOf", "internal/reflectlite.Swapper", "(internal/reflectlite.Value).Len"], unfollowed := true, recurses := true, apart := false, narrowed := true }
def FnNewVoteRequestUptoSaid : Prop := fnNewVoteRequestUptoRow.holds Try.pinned (OpenSpec.upto fnNewVoteRequestSpec)

/-- 'laws.FnNewAddPartitionsToTxnRequest', WHERE WHAT IT READS IS OF BULK AT MOST 1048576: true; the input reads as it did. -/
def fnNewAddPartitionsToTxnRequestUptoRow : OpenClaim := { program := "ytkgdalmicafndaa", sum := "b278f373a1b182a07e908fa93dab3fc64635610f64fd6fa737ba17bc33438614", func := "pub-kmsg/laws.FnNewAddPartitionsToTxnRequest", spec := "fnNewAddPartitionsToTxnRequest", inPlace := ["internal/reflectlite.ValueOf", "internal/reflectlite.Swapper", "(internal/reflectlite.Value).Len"], unfollowed := true, recurses := true, apart := false, narrowed := true }
def FnNewAddPartitionsToTxnRequestUptoSaid : Prop := fnNewAddPartitionsToTxnRequestUptoRow.holds Try.pinned (OpenSpec.upto fnNewAddPartitionsToTxnRequestSpec)

/-- 'laws.FnNewDescribeConfigsResponse', WHERE WHAT IT READS IS OF BULK AT MOST 1048576: true; the input reads as it did. -/
def fnNewDescribeConfigsResponseUptoRow : OpenClaim := { program := "ytkgdalmicafndaa", sum := "b278f373a1b182a07e908fa93dab3fc64635610f64fd6fa737ba17bc33438614", func := "pub-kmsg/laws.FnNewDescribeConfigsResponse", spec := "fnNewDescribeConfigsResponse", inPlace := ["internal/reflectlite.ValueOf", "internal/reflectlite.Swapper", "(internal/reflectlite.Value).Len"], unfollowed := true, recurses := true, apart := false, narrowed := true }
def FnNewDescribeConfigsResponseUptoSaid : Prop := fnNewDescribeConfigsResponseUptoRow.holds Try.pinned (OpenSpec.upto fnNewDescribeConfigsResponseSpec)

end Rows
end Go.Proofs.Ytkgdalmicafndaa
