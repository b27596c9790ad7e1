/-
  DERIVED. GIVEN WITH THE SEED: THE CARDS: each row of YtnohifmjpgeaoaaDoorRows.lean that lists a variable, with what it lists TIED to the program's text (the seventh form; the later family's looks); each row that meets fmt, with fmt's text TOLD by the authors' own Lean function (tested against real Go, not proved from fmt's source: count such statements apart). THE CARD IS WHAT COUNTS. Prove the row's statement (the work); the ties are given (YtnohifmjpgeaoaaDoorTie.lean); close each card by the builder's one call (the guide's Derived/Test/ToyasCard.lean, 'card_holds'). Laid BY PROGRAM, IN A SANDBOX (cutbox-door.mjs). By AI agents, Wed Nov 11 2026. No macro, syntax, notation, axiom, sorry.
-/
import Derived.Test.YtnohifmjpgeaoaaDoorRows
import GoSem.ClaimSeven
namespace Go.Proofs.YtnohifmjpgeaoaaDoor
namespace Rows

/-- THE TIED CARD OF 'laws.FnCutExpireDelegationTokenResponse'. -/
def fnCutExpireDelegationTokenResponseCard : Claim7 := { stood := { row := fnCutExpireDelegationTokenResponseRow, standIns := [], harness := (true, "f25f6e11af1f6e86d67b2708a29d01ef6e2a31f7478081e615f5f9688c95d7a7"), looks := false }, kinds := [], alts := [], laidByText := true, laidKinds := [.sentinel], laidTests := true, laidLooks := .later }
def FnCutExpireDelegationTokenResponseCardSaid : Prop := Claim7.holds Tryd.pinned (.plain (OpenSpec.ofChange fnCutExpireDelegationTokenResponseSpec)) fnCutExpireDelegationTokenResponseCard

/-- THE TIED CARD OF 'laws.FnAgainAddOffsetsToTxnRequest'. -/
def fnAgainAddOffsetsToTxnRequestCard : Claim7 := { stood := { row := fnAgainAddOffsetsToTxnRequestRow, standIns := [], harness := (true, "f25f6e11af1f6e86d67b2708a29d01ef6e2a31f7478081e615f5f9688c95d7a7"), looks := false }, kinds := [], alts := [], laidByText := true, laidKinds := [.sentinel], laidTests := true, laidLooks := .later }
def FnAgainAddOffsetsToTxnRequestCardSaid : Prop := Claim7.holds Tryd.pinned (.plain (OpenSpec.ofChange fnAgainAddOffsetsToTxnRequestSpec)) fnAgainAddOffsetsToTxnRequestCard

/-- THE TIED CARD OF 'laws.FnAnyStreamsGroupDescribeRequest'. -/
def fnAnyStreamsGroupDescribeRequestCard : Claim7 := { stood := { row := fnAnyStreamsGroupDescribeRequestRow, standIns := [], harness := (true, "f25f6e11af1f6e86d67b2708a29d01ef6e2a31f7478081e615f5f9688c95d7a7"), looks := false }, kinds := [], alts := [], laidByText := true, laidKinds := [.sentinel], laidTests := true, laidLooks := .later }
def FnAnyStreamsGroupDescribeRequestCardSaid : Prop := Claim7.holds Tryd.pinned (.plain (OpenSpec.ofChange fnAnyStreamsGroupDescribeRequestSpec)) fnAnyStreamsGroupDescribeRequestCard

/-- THE TIED CARD OF 'laws.FnAnyElectLeadersRequest'. -/
def fnAnyElectLeadersRequestCard : Claim7 := { stood := { row := fnAnyElectLeadersRequestRow, standIns := [], harness := (true, "f25f6e11af1f6e86d67b2708a29d01ef6e2a31f7478081e615f5f9688c95d7a7"), looks := false }, kinds := [], alts := [], laidByText := true, laidKinds := [.sentinel], laidTests := true, laidLooks := .later }
def FnAnyElectLeadersRequestCardSaid : Prop := Claim7.holds Tryd.pinned (.plain (OpenSpec.ofChange fnAnyElectLeadersRequestSpec)) fnAnyElectLeadersRequestCard

/-- THE TIED CARD OF 'laws.FnAnyJoinGroupRequest'. -/
def fnAnyJoinGroupRequestCard : Claim7 := { stood := { row := fnAnyJoinGroupRequestRow, standIns := [], harness := (true, "f25f6e11af1f6e86d67b2708a29d01ef6e2a31f7478081e615f5f9688c95d7a7"), looks := false }, kinds := [], alts := [], laidByText := true, laidKinds := [.sentinel], laidTests := true, laidLooks := .later }
def FnAnyJoinGroupRequestCardSaid : Prop := Claim7.holds Tryd.pinned (.plain (OpenSpec.ofChange fnAnyJoinGroupRequestSpec)) fnAnyJoinGroupRequestCard

/-- THE TIED CARD OF 'laws.FnAnyListPartitionReassignmentsResponse'. -/
def fnAnyListPartitionReassignmentsResponseCard : Claim7 := { stood := { row := fnAnyListPartitionReassignmentsResponseRow, standIns := [], harness := (true, "f25f6e11af1f6e86d67b2708a29d01ef6e2a31f7478081e615f5f9688c95d7a7"), looks := false }, kinds := [], alts := [], laidByText := true, laidKinds := [.sentinel], laidTests := true, laidLooks := .later }
def FnAnyListPartitionReassignmentsResponseCardSaid : Prop := Claim7.holds Tryd.pinned (.plain (OpenSpec.ofChange fnAnyListPartitionReassignmentsResponseSpec)) fnAnyListPartitionReassignmentsResponseCard

/-- THE TIED CARD OF 'laws.FnAnyConsumerGroupHeartbeatRequest'. -/
def fnAnyConsumerGroupHeartbeatRequestCard : Claim7 := { stood := { row := fnAnyConsumerGroupHeartbeatRequestRow, standIns := [], harness := (true, "f25f6e11af1f6e86d67b2708a29d01ef6e2a31f7478081e615f5f9688c95d7a7"), looks := false }, kinds := [], alts := [], laidByText := true, laidKinds := [.sentinel], laidTests := true, laidLooks := .later }
def FnAnyConsumerGroupHeartbeatRequestCardSaid : Prop := Claim7.holds Tryd.pinned (.plain (OpenSpec.ofChange fnAnyConsumerGroupHeartbeatRequestSpec)) fnAnyConsumerGroupHeartbeatRequestCard

/-- THE SECOND FORM's CARD OF 'laws.FnCutExpireDelegationTokenResponse'. -/
def fnCutExpireDelegationTokenResponseUptoCard : Claim7 := { stood := { row := fnCutExpireDelegationTokenResponseUptoRow, standIns := [], harness := (true, "f25f6e11af1f6e86d67b2708a29d01ef6e2a31f7478081e615f5f9688c95d7a7"), looks := false }, kinds := [], alts := [], laidByText := true, laidKinds := [.sentinel], laidTests := true, laidLooks := .later }
def FnCutExpireDelegationTokenResponseUptoCardSaid : Prop := Claim7.holds Tryd.pinned (.plain (OpenSpec.upto fnCutExpireDelegationTokenResponseSpec)) fnCutExpireDelegationTokenResponseUptoCard

/-- THE SECOND FORM's CARD OF 'laws.FnAgainAddOffsetsToTxnRequest'. -/
def fnAgainAddOffsetsToTxnRequestUptoCard : Claim7 := { stood := { row := fnAgainAddOffsetsToTxnRequestUptoRow, standIns := [], harness := (true, "f25f6e11af1f6e86d67b2708a29d01ef6e2a31f7478081e615f5f9688c95d7a7"), looks := false }, kinds := [], alts := [], laidByText := true, laidKinds := [.sentinel], laidTests := true, laidLooks := .later }
def FnAgainAddOffsetsToTxnRequestUptoCardSaid : Prop := Claim7.holds Tryd.pinned (.plain (OpenSpec.upto fnAgainAddOffsetsToTxnRequestSpec)) fnAgainAddOffsetsToTxnRequestUptoCard

/-- THE SECOND FORM's CARD OF 'laws.FnAnyStreamsGroupDescribeRequest'. -/
def fnAnyStreamsGroupDescribeRequestUptoCard : Claim7 := { stood := { row := fnAnyStreamsGroupDescribeRequestUptoRow, standIns := [], harness := (true, "f25f6e11af1f6e86d67b2708a29d01ef6e2a31f7478081e615f5f9688c95d7a7"), looks := false }, kinds := [], alts := [], laidByText := true, laidKinds := [.sentinel], laidTests := true, laidLooks := .later }
def FnAnyStreamsGroupDescribeRequestUptoCardSaid : Prop := Claim7.holds Tryd.pinned (.plain (OpenSpec.upto fnAnyStreamsGroupDescribeRequestSpec)) fnAnyStreamsGroupDescribeRequestUptoCard

/-- THE SECOND FORM's CARD OF 'laws.FnAnyElectLeadersRequest'. -/
def fnAnyElectLeadersRequestUptoCard : Claim7 := { stood := { row := fnAnyElectLeadersRequestUptoRow, standIns := [], harness := (true, "f25f6e11af1f6e86d67b2708a29d01ef6e2a31f7478081e615f5f9688c95d7a7"), looks := false }, kinds := [], alts := [], laidByText := true, laidKinds := [.sentinel], laidTests := true, laidLooks := .later }
def FnAnyElectLeadersRequestUptoCardSaid : Prop := Claim7.holds Tryd.pinned (.plain (OpenSpec.upto fnAnyElectLeadersRequestSpec)) fnAnyElectLeadersRequestUptoCard

/-- THE SECOND FORM's CARD OF 'laws.FnAnyJoinGroupRequest'. -/
def fnAnyJoinGroupRequestUptoCard : Claim7 := { stood := { row := fnAnyJoinGroupRequestUptoRow, standIns := [], harness := (true, "f25f6e11af1f6e86d67b2708a29d01ef6e2a31f7478081e615f5f9688c95d7a7"), looks := false }, kinds := [], alts := [], laidByText := true, laidKinds := [.sentinel], laidTests := true, laidLooks := .later }
def FnAnyJoinGroupRequestUptoCardSaid : Prop := Claim7.holds Tryd.pinned (.plain (OpenSpec.upto fnAnyJoinGroupRequestSpec)) fnAnyJoinGroupRequestUptoCard

/-- THE SECOND FORM's CARD OF 'laws.FnAnyListPartitionReassignmentsResponse'. -/
def fnAnyListPartitionReassignmentsResponseUptoCard : Claim7 := { stood := { row := fnAnyListPartitionReassignmentsResponseUptoRow, standIns := [], harness := (true, "f25f6e11af1f6e86d67b2708a29d01ef6e2a31f7478081e615f5f9688c95d7a7"), looks := false }, kinds := [], alts := [], laidByText := true, laidKinds := [.sentinel], laidTests := true, laidLooks := .later }
def FnAnyListPartitionReassignmentsResponseUptoCardSaid : Prop := Claim7.holds Tryd.pinned (.plain (OpenSpec.upto fnAnyListPartitionReassignmentsResponseSpec)) fnAnyListPartitionReassignmentsResponseUptoCard

/-- THE SECOND FORM's CARD OF 'laws.FnAnyConsumerGroupHeartbeatRequest'. -/
def fnAnyConsumerGroupHeartbeatRequestUptoCard : Claim7 := { stood := { row := fnAnyConsumerGroupHeartbeatRequestUptoRow, standIns := [], harness := (true, "f25f6e11af1f6e86d67b2708a29d01ef6e2a31f7478081e615f5f9688c95d7a7"), looks := false }, kinds := [], alts := [], laidByText := true, laidKinds := [.sentinel], laidTests := true, laidLooks := .later }
def FnAnyConsumerGroupHeartbeatRequestUptoCardSaid : Prop := Claim7.holds Tryd.pinned (.plain (OpenSpec.upto fnAnyConsumerGroupHeartbeatRequestSpec)) fnAnyConsumerGroupHeartbeatRequestUptoCard
end Rows
end Go.Proofs.YtnohifmjpgeaoaaDoor
