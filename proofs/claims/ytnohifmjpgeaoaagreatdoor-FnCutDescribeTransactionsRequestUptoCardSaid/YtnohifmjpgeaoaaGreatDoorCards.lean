/-
  DERIVED. GIVEN WITH THE SEED: THE CARDS: each row of YtnohifmjpgeaoaaGreatDoorRows.lean that lists a variable, with what it lists TIED to the program's text (the seventh form; the later family's looks); each row that meets fmt, with fmt's text TOLD by the authors' own Lean function (tested against real Go, not proved from fmt's source: count such statements apart). THE CARD IS WHAT COUNTS. Prove the row's statement (the work); the ties are given (YtnohifmjpgeaoaaGreatDoorTie.lean); close each card by the builder's one call (the guide's Derived/Test/ToyasCard.lean, 'card_holds'). Laid BY PROGRAM, IN A SANDBOX (cutbox-door.mjs). By AI agents, Wed Nov 11 2026. No macro, syntax, notation, axiom, sorry.
-/
import Derived.Test.YtnohifmjpgeaoaaGreatDoorRows
import GoSem.ClaimSeven
namespace Go.Proofs.YtnohifmjpgeaoaaGreatDoor
namespace Rows

/-- THE TIED CARD OF 'laws.FnAgainControllerRegistrationResponse'. -/
def fnAgainControllerRegistrationResponseCard : Claim7 := { stood := { row := fnAgainControllerRegistrationResponseRow, standIns := [], harness := (true, "90b8bdc6d47ff724d52f32b758d5dbe41a569dba40496389663c0ed026e8585e"), looks := false }, kinds := [], alts := [], laidByText := true, laidKinds := [.sentinel], laidTests := true, laidLooks := .later }
def FnAgainControllerRegistrationResponseCardSaid : Prop := Claim7.holds Tryz.pinned (.plain (OpenSpec.ofChange fnAgainControllerRegistrationResponseSpec)) fnAgainControllerRegistrationResponseCard

/-- THE TIED CARD OF 'laws.FnCutRemoveRaftVoterResponse'. -/
def fnCutRemoveRaftVoterResponseCard : Claim7 := { stood := { row := fnCutRemoveRaftVoterResponseRow, standIns := [], harness := (true, "90b8bdc6d47ff724d52f32b758d5dbe41a569dba40496389663c0ed026e8585e"), looks := false }, kinds := [], alts := [], laidByText := true, laidKinds := [.sentinel], laidTests := true, laidLooks := .later }
def FnCutRemoveRaftVoterResponseCardSaid : Prop := Claim7.holds Tryz.pinned (.plain (OpenSpec.ofChange fnCutRemoveRaftVoterResponseSpec)) fnCutRemoveRaftVoterResponseCard

/-- THE TIED CARD OF 'laws.FnCutDescribeTransactionsRequest'. -/
def fnCutDescribeTransactionsRequestCard : Claim7 := { stood := { row := fnCutDescribeTransactionsRequestRow, standIns := [], harness := (true, "90b8bdc6d47ff724d52f32b758d5dbe41a569dba40496389663c0ed026e8585e"), looks := false }, kinds := [], alts := [], laidByText := true, laidKinds := [.sentinel], laidTests := true, laidLooks := .later }
def FnCutDescribeTransactionsRequestCardSaid : Prop := Claim7.holds Tryz.pinned (.plain (OpenSpec.ofChange fnCutDescribeTransactionsRequestSpec)) fnCutDescribeTransactionsRequestCard

/-- THE TIED CARD OF 'laws.FnAgainHeartbeatRequest'. -/
def fnAgainHeartbeatRequestCard : Claim7 := { stood := { row := fnAgainHeartbeatRequestRow, standIns := [], harness := (true, "90b8bdc6d47ff724d52f32b758d5dbe41a569dba40496389663c0ed026e8585e"), looks := false }, kinds := [], alts := [], laidByText := true, laidKinds := [.sentinel], laidTests := true, laidLooks := .later }
def FnAgainHeartbeatRequestCardSaid : Prop := Claim7.holds Tryz.pinned (.plain (OpenSpec.ofChange fnAgainHeartbeatRequestSpec)) fnAgainHeartbeatRequestCard

/-- THE TIED CARD OF 'laws.FnAgainLeaveGroupResponse'. -/
def fnAgainLeaveGroupResponseCard : Claim7 := { stood := { row := fnAgainLeaveGroupResponseRow, standIns := [], harness := (true, "90b8bdc6d47ff724d52f32b758d5dbe41a569dba40496389663c0ed026e8585e"), looks := false }, kinds := [], alts := [], laidByText := true, laidKinds := [.sentinel], laidTests := true, laidLooks := .later }
def FnAgainLeaveGroupResponseCardSaid : Prop := Claim7.holds Tryz.pinned (.plain (OpenSpec.ofChange fnAgainLeaveGroupResponseSpec)) fnAgainLeaveGroupResponseCard

/-- THE SECOND FORM's CARD OF 'laws.FnAgainControllerRegistrationResponse'. -/
def fnAgainControllerRegistrationResponseUptoCard : Claim7 := { stood := { row := fnAgainControllerRegistrationResponseUptoRow, standIns := [], harness := (true, "90b8bdc6d47ff724d52f32b758d5dbe41a569dba40496389663c0ed026e8585e"), looks := false }, kinds := [], alts := [], laidByText := true, laidKinds := [.sentinel], laidTests := true, laidLooks := .later }
def FnAgainControllerRegistrationResponseUptoCardSaid : Prop := Claim7.holds Tryz.pinned (.plain (OpenSpec.upto fnAgainControllerRegistrationResponseSpec)) fnAgainControllerRegistrationResponseUptoCard

/-- THE SECOND FORM's CARD OF 'laws.FnCutRemoveRaftVoterResponse'. -/
def fnCutRemoveRaftVoterResponseUptoCard : Claim7 := { stood := { row := fnCutRemoveRaftVoterResponseUptoRow, standIns := [], harness := (true, "90b8bdc6d47ff724d52f32b758d5dbe41a569dba40496389663c0ed026e8585e"), looks := false }, kinds := [], alts := [], laidByText := true, laidKinds := [.sentinel], laidTests := true, laidLooks := .later }
def FnCutRemoveRaftVoterResponseUptoCardSaid : Prop := Claim7.holds Tryz.pinned (.plain (OpenSpec.upto fnCutRemoveRaftVoterResponseSpec)) fnCutRemoveRaftVoterResponseUptoCard

/-- THE SECOND FORM's CARD OF 'laws.FnCutDescribeTransactionsRequest'. -/
def fnCutDescribeTransactionsRequestUptoCard : Claim7 := { stood := { row := fnCutDescribeTransactionsRequestUptoRow, standIns := [], harness := (true, "90b8bdc6d47ff724d52f32b758d5dbe41a569dba40496389663c0ed026e8585e"), looks := false }, kinds := [], alts := [], laidByText := true, laidKinds := [.sentinel], laidTests := true, laidLooks := .later }
def FnCutDescribeTransactionsRequestUptoCardSaid : Prop := Claim7.holds Tryz.pinned (.plain (OpenSpec.upto fnCutDescribeTransactionsRequestSpec)) fnCutDescribeTransactionsRequestUptoCard

/-- THE SECOND FORM's CARD OF 'laws.FnAgainHeartbeatRequest'. -/
def fnAgainHeartbeatRequestUptoCard : Claim7 := { stood := { row := fnAgainHeartbeatRequestUptoRow, standIns := [], harness := (true, "90b8bdc6d47ff724d52f32b758d5dbe41a569dba40496389663c0ed026e8585e"), looks := false }, kinds := [], alts := [], laidByText := true, laidKinds := [.sentinel], laidTests := true, laidLooks := .later }
def FnAgainHeartbeatRequestUptoCardSaid : Prop := Claim7.holds Tryz.pinned (.plain (OpenSpec.upto fnAgainHeartbeatRequestSpec)) fnAgainHeartbeatRequestUptoCard

/-- THE SECOND FORM's CARD OF 'laws.FnAgainLeaveGroupResponse'. -/
def fnAgainLeaveGroupResponseUptoCard : Claim7 := { stood := { row := fnAgainLeaveGroupResponseUptoRow, standIns := [], harness := (true, "90b8bdc6d47ff724d52f32b758d5dbe41a569dba40496389663c0ed026e8585e"), looks := false }, kinds := [], alts := [], laidByText := true, laidKinds := [.sentinel], laidTests := true, laidLooks := .later }
def FnAgainLeaveGroupResponseUptoCardSaid : Prop := Claim7.holds Tryz.pinned (.plain (OpenSpec.upto fnAgainLeaveGroupResponseSpec)) fnAgainLeaveGroupResponseUptoCard
end Rows
end Go.Proofs.YtnohifmjpgeaoaaGreatDoor
