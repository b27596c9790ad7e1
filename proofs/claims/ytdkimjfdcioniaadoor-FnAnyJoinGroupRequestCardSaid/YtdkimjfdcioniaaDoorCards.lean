/-
  DERIVED. GIVEN WITH THE SEED: THE CARDS: each row of YtdkimjfdcioniaaDoorRows.lean that lists a variable, with what it lists TIED to the program's text (the seventh form; the later family's looks); each row that meets fmt, with fmt's text TOLD by the authors' own Lean function (tested against real Go, not proved from fmt's source: count such statements apart). THE CARD IS WHAT COUNTS. Prove the row's statement (the work); the ties are given (YtdkimjfdcioniaaDoorTie.lean); close each card by the builder's one call (the guide's Derived/Test/ToyasCard.lean, 'card_holds'). Laid BY PROGRAM, IN A SANDBOX (cutbox-door.mjs). By AI agents, Wed Nov 11 2026. No macro, syntax, notation, axiom, sorry.
-/
import Derived.Test.YtdkimjfdcioniaaDoorRows
import GoSem.ClaimSeven
namespace Go.Proofs.YtdkimjfdcioniaaDoor
namespace Rows

/-- THE TIED CARD OF 'laws.FnAnyAlterClientQuotasRequest'. -/
def fnAnyAlterClientQuotasRequestCard : Claim7 := { stood := { row := fnAnyAlterClientQuotasRequestRow, standIns := [], harness := (true, "0a52a09b6a2797c715e669d2afc4ecd579960d43f26c12478824408276a9261c"), looks := false }, kinds := [], alts := [], laidByText := true, laidKinds := [.sentinel], laidTests := true, laidLooks := .later }
def FnAnyAlterClientQuotasRequestCardSaid : Prop := Claim7.holds Tryd.pinned (.plain (OpenSpec.ofChange fnAnyAlterClientQuotasRequestSpec)) fnAnyAlterClientQuotasRequestCard

/-- THE TIED CARD OF 'laws.FnAnyAlterUserSCRAMCredentialsResponse'. -/
def fnAnyAlterUserSCRAMCredentialsResponseCard : Claim7 := { stood := { row := fnAnyAlterUserSCRAMCredentialsResponseRow, standIns := [], harness := (true, "0a52a09b6a2797c715e669d2afc4ecd579960d43f26c12478824408276a9261c"), looks := false }, kinds := [], alts := [], laidByText := true, laidKinds := [.sentinel], laidTests := true, laidLooks := .later }
def FnAnyAlterUserSCRAMCredentialsResponseCardSaid : Prop := Claim7.holds Tryd.pinned (.plain (OpenSpec.ofChange fnAnyAlterUserSCRAMCredentialsResponseSpec)) fnAnyAlterUserSCRAMCredentialsResponseCard

/-- THE TIED CARD OF 'laws.FnAnyConsumerGroupHeartbeatRequest'. -/
def fnAnyConsumerGroupHeartbeatRequestCard : Claim7 := { stood := { row := fnAnyConsumerGroupHeartbeatRequestRow, standIns := [], harness := (true, "0a52a09b6a2797c715e669d2afc4ecd579960d43f26c12478824408276a9261c"), looks := false }, kinds := [], alts := [], laidByText := true, laidKinds := [.sentinel], laidTests := true, laidLooks := .later }
def FnAnyConsumerGroupHeartbeatRequestCardSaid : Prop := Claim7.holds Tryd.pinned (.plain (OpenSpec.ofChange fnAnyConsumerGroupHeartbeatRequestSpec)) fnAnyConsumerGroupHeartbeatRequestCard

/-- THE TIED CARD OF 'laws.FnAnyDescribeACLsRequest'. -/
def fnAnyDescribeACLsRequestCard : Claim7 := { stood := { row := fnAnyDescribeACLsRequestRow, standIns := [], harness := (true, "0a52a09b6a2797c715e669d2afc4ecd579960d43f26c12478824408276a9261c"), looks := false }, kinds := [], alts := [], laidByText := true, laidKinds := [.sentinel], laidTests := true, laidLooks := .later }
def FnAnyDescribeACLsRequestCardSaid : Prop := Claim7.holds Tryd.pinned (.plain (OpenSpec.ofChange fnAnyDescribeACLsRequestSpec)) fnAnyDescribeACLsRequestCard

/-- THE TIED CARD OF 'laws.FnAnyDescribeLogDirsResponse'. -/
def fnAnyDescribeLogDirsResponseCard : Claim7 := { stood := { row := fnAnyDescribeLogDirsResponseRow, standIns := [], harness := (true, "0a52a09b6a2797c715e669d2afc4ecd579960d43f26c12478824408276a9261c"), looks := false }, kinds := [], alts := [], laidByText := true, laidKinds := [.sentinel], laidTests := true, laidLooks := .later }
def FnAnyDescribeLogDirsResponseCardSaid : Prop := Claim7.holds Tryd.pinned (.plain (OpenSpec.ofChange fnAnyDescribeLogDirsResponseSpec)) fnAnyDescribeLogDirsResponseCard

/-- THE TIED CARD OF 'laws.FnAnyElectLeadersRequest'. -/
def fnAnyElectLeadersRequestCard : Claim7 := { stood := { row := fnAnyElectLeadersRequestRow, standIns := [], harness := (true, "0a52a09b6a2797c715e669d2afc4ecd579960d43f26c12478824408276a9261c"), looks := false }, kinds := [], alts := [], laidByText := true, laidKinds := [.sentinel], laidTests := true, laidLooks := .later }
def FnAnyElectLeadersRequestCardSaid : Prop := Claim7.holds Tryd.pinned (.plain (OpenSpec.ofChange fnAnyElectLeadersRequestSpec)) fnAnyElectLeadersRequestCard

/-- THE TIED CARD OF 'laws.FnAnyJoinGroupRequest'. -/
def fnAnyJoinGroupRequestCard : Claim7 := { stood := { row := fnAnyJoinGroupRequestRow, standIns := [], harness := (true, "0a52a09b6a2797c715e669d2afc4ecd579960d43f26c12478824408276a9261c"), looks := false }, kinds := [], alts := [], laidByText := true, laidKinds := [.sentinel], laidTests := true, laidLooks := .later }
def FnAnyJoinGroupRequestCardSaid : Prop := Claim7.holds Tryd.pinned (.plain (OpenSpec.ofChange fnAnyJoinGroupRequestSpec)) fnAnyJoinGroupRequestCard

/-- THE TIED CARD OF 'laws.FnAnyListPartitionReassignmentsResponse'. -/
def fnAnyListPartitionReassignmentsResponseCard : Claim7 := { stood := { row := fnAnyListPartitionReassignmentsResponseRow, standIns := [], harness := (true, "0a52a09b6a2797c715e669d2afc4ecd579960d43f26c12478824408276a9261c"), looks := false }, kinds := [], alts := [], laidByText := true, laidKinds := [.sentinel], laidTests := true, laidLooks := .later }
def FnAnyListPartitionReassignmentsResponseCardSaid : Prop := Claim7.holds Tryd.pinned (.plain (OpenSpec.ofChange fnAnyListPartitionReassignmentsResponseSpec)) fnAnyListPartitionReassignmentsResponseCard

/-- THE TIED CARD OF 'laws.FnAnyProduceRequest'. -/
def fnAnyProduceRequestCard : Claim7 := { stood := { row := fnAnyProduceRequestRow, standIns := [], harness := (true, "0a52a09b6a2797c715e669d2afc4ecd579960d43f26c12478824408276a9261c"), looks := false }, kinds := [], alts := [], laidByText := true, laidKinds := [.sentinel], laidTests := true, laidLooks := .later }
def FnAnyProduceRequestCardSaid : Prop := Claim7.holds Tryd.pinned (.plain (OpenSpec.ofChange fnAnyProduceRequestSpec)) fnAnyProduceRequestCard

/-- THE TIED CARD OF 'laws.FnAnySASLAuthenticateResponse'. -/
def fnAnySASLAuthenticateResponseCard : Claim7 := { stood := { row := fnAnySASLAuthenticateResponseRow, standIns := [], harness := (true, "0a52a09b6a2797c715e669d2afc4ecd579960d43f26c12478824408276a9261c"), looks := false }, kinds := [], alts := [], laidByText := true, laidKinds := [.sentinel], laidTests := true, laidLooks := .later }
def FnAnySASLAuthenticateResponseCardSaid : Prop := Claim7.holds Tryd.pinned (.plain (OpenSpec.ofChange fnAnySASLAuthenticateResponseSpec)) fnAnySASLAuthenticateResponseCard

/-- THE TIED CARD OF 'laws.FnAnyUnregisterControllerResponse'. -/
def fnAnyUnregisterControllerResponseCard : Claim7 := { stood := { row := fnAnyUnregisterControllerResponseRow, standIns := [], harness := (true, "0a52a09b6a2797c715e669d2afc4ecd579960d43f26c12478824408276a9261c"), looks := false }, kinds := [], alts := [], laidByText := true, laidKinds := [.sentinel], laidTests := true, laidLooks := .later }
def FnAnyUnregisterControllerResponseCardSaid : Prop := Claim7.holds Tryd.pinned (.plain (OpenSpec.ofChange fnAnyUnregisterControllerResponseSpec)) fnAnyUnregisterControllerResponseCard

/-- THE SECOND FORM's CARD OF 'laws.FnAnyAlterClientQuotasRequest'. -/
def fnAnyAlterClientQuotasRequestUptoCard : Claim7 := { stood := { row := fnAnyAlterClientQuotasRequestUptoRow, standIns := [], harness := (true, "0a52a09b6a2797c715e669d2afc4ecd579960d43f26c12478824408276a9261c"), looks := false }, kinds := [], alts := [], laidByText := true, laidKinds := [.sentinel], laidTests := true, laidLooks := .later }
def FnAnyAlterClientQuotasRequestUptoCardSaid : Prop := Claim7.holds Tryd.pinned (.plain (OpenSpec.upto fnAnyAlterClientQuotasRequestSpec)) fnAnyAlterClientQuotasRequestUptoCard

/-- THE SECOND FORM's CARD OF 'laws.FnAnyAlterUserSCRAMCredentialsResponse'. -/
def fnAnyAlterUserSCRAMCredentialsResponseUptoCard : Claim7 := { stood := { row := fnAnyAlterUserSCRAMCredentialsResponseUptoRow, standIns := [], harness := (true, "0a52a09b6a2797c715e669d2afc4ecd579960d43f26c12478824408276a9261c"), looks := false }, kinds := [], alts := [], laidByText := true, laidKinds := [.sentinel], laidTests := true, laidLooks := .later }
def FnAnyAlterUserSCRAMCredentialsResponseUptoCardSaid : Prop := Claim7.holds Tryd.pinned (.plain (OpenSpec.upto fnAnyAlterUserSCRAMCredentialsResponseSpec)) fnAnyAlterUserSCRAMCredentialsResponseUptoCard

/-- THE SECOND FORM's CARD OF 'laws.FnAnyConsumerGroupHeartbeatRequest'. -/
def fnAnyConsumerGroupHeartbeatRequestUptoCard : Claim7 := { stood := { row := fnAnyConsumerGroupHeartbeatRequestUptoRow, standIns := [], harness := (true, "0a52a09b6a2797c715e669d2afc4ecd579960d43f26c12478824408276a9261c"), looks := false }, kinds := [], alts := [], laidByText := true, laidKinds := [.sentinel], laidTests := true, laidLooks := .later }
def FnAnyConsumerGroupHeartbeatRequestUptoCardSaid : Prop := Claim7.holds Tryd.pinned (.plain (OpenSpec.upto fnAnyConsumerGroupHeartbeatRequestSpec)) fnAnyConsumerGroupHeartbeatRequestUptoCard

/-- THE SECOND FORM's CARD OF 'laws.FnAnyDescribeACLsRequest'. -/
def fnAnyDescribeACLsRequestUptoCard : Claim7 := { stood := { row := fnAnyDescribeACLsRequestUptoRow, standIns := [], harness := (true, "0a52a09b6a2797c715e669d2afc4ecd579960d43f26c12478824408276a9261c"), looks := false }, kinds := [], alts := [], laidByText := true, laidKinds := [.sentinel], laidTests := true, laidLooks := .later }
def FnAnyDescribeACLsRequestUptoCardSaid : Prop := Claim7.holds Tryd.pinned (.plain (OpenSpec.upto fnAnyDescribeACLsRequestSpec)) fnAnyDescribeACLsRequestUptoCard

/-- THE SECOND FORM's CARD OF 'laws.FnAnyDescribeLogDirsResponse'. -/
def fnAnyDescribeLogDirsResponseUptoCard : Claim7 := { stood := { row := fnAnyDescribeLogDirsResponseUptoRow, standIns := [], harness := (true, "0a52a09b6a2797c715e669d2afc4ecd579960d43f26c12478824408276a9261c"), looks := false }, kinds := [], alts := [], laidByText := true, laidKinds := [.sentinel], laidTests := true, laidLooks := .later }
def FnAnyDescribeLogDirsResponseUptoCardSaid : Prop := Claim7.holds Tryd.pinned (.plain (OpenSpec.upto fnAnyDescribeLogDirsResponseSpec)) fnAnyDescribeLogDirsResponseUptoCard

/-- THE SECOND FORM's CARD OF 'laws.FnAnyElectLeadersRequest'. -/
def fnAnyElectLeadersRequestUptoCard : Claim7 := { stood := { row := fnAnyElectLeadersRequestUptoRow, standIns := [], harness := (true, "0a52a09b6a2797c715e669d2afc4ecd579960d43f26c12478824408276a9261c"), looks := false }, kinds := [], alts := [], laidByText := true, laidKinds := [.sentinel], laidTests := true, laidLooks := .later }
def FnAnyElectLeadersRequestUptoCardSaid : Prop := Claim7.holds Tryd.pinned (.plain (OpenSpec.upto fnAnyElectLeadersRequestSpec)) fnAnyElectLeadersRequestUptoCard

/-- THE SECOND FORM's CARD OF 'laws.FnAnyJoinGroupRequest'. -/
def fnAnyJoinGroupRequestUptoCard : Claim7 := { stood := { row := fnAnyJoinGroupRequestUptoRow, standIns := [], harness := (true, "0a52a09b6a2797c715e669d2afc4ecd579960d43f26c12478824408276a9261c"), looks := false }, kinds := [], alts := [], laidByText := true, laidKinds := [.sentinel], laidTests := true, laidLooks := .later }
def FnAnyJoinGroupRequestUptoCardSaid : Prop := Claim7.holds Tryd.pinned (.plain (OpenSpec.upto fnAnyJoinGroupRequestSpec)) fnAnyJoinGroupRequestUptoCard

/-- THE SECOND FORM's CARD OF 'laws.FnAnyListPartitionReassignmentsResponse'. -/
def fnAnyListPartitionReassignmentsResponseUptoCard : Claim7 := { stood := { row := fnAnyListPartitionReassignmentsResponseUptoRow, standIns := [], harness := (true, "0a52a09b6a2797c715e669d2afc4ecd579960d43f26c12478824408276a9261c"), looks := false }, kinds := [], alts := [], laidByText := true, laidKinds := [.sentinel], laidTests := true, laidLooks := .later }
def FnAnyListPartitionReassignmentsResponseUptoCardSaid : Prop := Claim7.holds Tryd.pinned (.plain (OpenSpec.upto fnAnyListPartitionReassignmentsResponseSpec)) fnAnyListPartitionReassignmentsResponseUptoCard

/-- THE SECOND FORM's CARD OF 'laws.FnAnyProduceRequest'. -/
def fnAnyProduceRequestUptoCard : Claim7 := { stood := { row := fnAnyProduceRequestUptoRow, standIns := [], harness := (true, "0a52a09b6a2797c715e669d2afc4ecd579960d43f26c12478824408276a9261c"), looks := false }, kinds := [], alts := [], laidByText := true, laidKinds := [.sentinel], laidTests := true, laidLooks := .later }
def FnAnyProduceRequestUptoCardSaid : Prop := Claim7.holds Tryd.pinned (.plain (OpenSpec.upto fnAnyProduceRequestSpec)) fnAnyProduceRequestUptoCard

/-- THE SECOND FORM's CARD OF 'laws.FnAnySASLAuthenticateResponse'. -/
def fnAnySASLAuthenticateResponseUptoCard : Claim7 := { stood := { row := fnAnySASLAuthenticateResponseUptoRow, standIns := [], harness := (true, "0a52a09b6a2797c715e669d2afc4ecd579960d43f26c12478824408276a9261c"), looks := false }, kinds := [], alts := [], laidByText := true, laidKinds := [.sentinel], laidTests := true, laidLooks := .later }
def FnAnySASLAuthenticateResponseUptoCardSaid : Prop := Claim7.holds Tryd.pinned (.plain (OpenSpec.upto fnAnySASLAuthenticateResponseSpec)) fnAnySASLAuthenticateResponseUptoCard

/-- THE SECOND FORM's CARD OF 'laws.FnAnyUnregisterControllerResponse'. -/
def fnAnyUnregisterControllerResponseUptoCard : Claim7 := { stood := { row := fnAnyUnregisterControllerResponseUptoRow, standIns := [], harness := (true, "0a52a09b6a2797c715e669d2afc4ecd579960d43f26c12478824408276a9261c"), looks := false }, kinds := [], alts := [], laidByText := true, laidKinds := [.sentinel], laidTests := true, laidLooks := .later }
def FnAnyUnregisterControllerResponseUptoCardSaid : Prop := Claim7.holds Tryd.pinned (.plain (OpenSpec.upto fnAnyUnregisterControllerResponseSpec)) fnAnyUnregisterControllerResponseUptoCard
end Rows
end Go.Proofs.YtdkimjfdcioniaaDoor
