/-
  DERIVED. GIVEN WITH THE SEED: THE CARDS: each row of YtobeonhmomiaaaaDoorRows.lean that lists a variable, with what it lists TIED to the program's text (the seventh form; the later family's looks); each row that meets fmt, with fmt's text TOLD by the authors' own Lean function (tested against real Go, not proved from fmt's source: count such statements apart). THE CARD IS WHAT COUNTS. Prove the row's statement (the work); the ties are given (YtobeonhmomiaaaaDoorTie.lean); close each card by the builder's one call (the guide's Derived/Test/ToyasCard.lean, 'card_holds'). Laid BY PROGRAM, IN A SANDBOX (cutbox-door.mjs). By AI agents, Wed Nov 11 2026. No macro, syntax, notation, axiom, sorry.
-/
import Derived.Test.YtobeonhmomiaaaaDoorRows
import GoSem.ClaimSeven
namespace Go.Proofs.YtobeonhmomiaaaaDoor
namespace Rows

/-- THE TIED CARD OF 'laws.FnAgainConnectMemberMetadata'. -/
def fnAgainConnectMemberMetadataCard : Claim7 := { stood := { row := fnAgainConnectMemberMetadataRow, standIns := [], harness := (true, "7b6124334488299da2bdbcee9f6161129194653f83e9ca9840696baac515c8cf"), looks := false }, kinds := [], alts := [], laidByText := true, laidKinds := [.sentinel], laidTests := true, laidLooks := .later }
def FnAgainConnectMemberMetadataCardSaid : Prop := Claim7.holds Tryd.pinned (.plain (OpenSpec.ofChange fnAgainConnectMemberMetadataSpec)) fnAgainConnectMemberMetadataCard

/-- THE TIED CARD OF 'laws.FnAnyFetchSnapshotResponse'. -/
def fnAnyFetchSnapshotResponseCard : Claim7 := { stood := { row := fnAnyFetchSnapshotResponseRow, standIns := [], harness := (true, "7b6124334488299da2bdbcee9f6161129194653f83e9ca9840696baac515c8cf"), looks := false }, kinds := [], alts := [], laidByText := true, laidKinds := [.sentinel], laidTests := true, laidLooks := .later }
def FnAnyFetchSnapshotResponseCardSaid : Prop := Claim7.holds Tryd.pinned (.plain (OpenSpec.ofChange fnAnyFetchSnapshotResponseSpec)) fnAnyFetchSnapshotResponseCard

/-- THE TIED CARD OF 'laws.FnAgainEndTxnResponse'. -/
def fnAgainEndTxnResponseCard : Claim7 := { stood := { row := fnAgainEndTxnResponseRow, standIns := [], harness := (true, "7b6124334488299da2bdbcee9f6161129194653f83e9ca9840696baac515c8cf"), looks := false }, kinds := [], alts := [], laidByText := true, laidKinds := [.sentinel], laidTests := true, laidLooks := .later }
def FnAgainEndTxnResponseCardSaid : Prop := Claim7.holds Tryd.pinned (.plain (OpenSpec.ofChange fnAgainEndTxnResponseSpec)) fnAgainEndTxnResponseCard

/-- THE TIED CARD OF 'laws.FnCutDefaultPrincipalData'. -/
def fnCutDefaultPrincipalDataCard : Claim7 := { stood := { row := fnCutDefaultPrincipalDataRow, standIns := [], harness := (true, "7b6124334488299da2bdbcee9f6161129194653f83e9ca9840696baac515c8cf"), looks := false }, kinds := [], alts := [], laidByText := true, laidKinds := [.sentinel], laidTests := true, laidLooks := .later }
def FnCutDefaultPrincipalDataCardSaid : Prop := Claim7.holds Tryd.pinned (.plain (OpenSpec.ofChange fnCutDefaultPrincipalDataSpec)) fnCutDefaultPrincipalDataCard

/-- THE TIED CARD OF 'laws.FnAnyLeaderChangeMessage'. -/
def fnAnyLeaderChangeMessageCard : Claim7 := { stood := { row := fnAnyLeaderChangeMessageRow, standIns := [], harness := (true, "7b6124334488299da2bdbcee9f6161129194653f83e9ca9840696baac515c8cf"), looks := false }, kinds := [], alts := [], laidByText := true, laidKinds := [.sentinel], laidTests := true, laidLooks := .later }
def FnAnyLeaderChangeMessageCardSaid : Prop := Claim7.holds Tryd.pinned (.plain (OpenSpec.ofChange fnAnyLeaderChangeMessageSpec)) fnAnyLeaderChangeMessageCard

/-- THE TIED CARD OF 'laws.FnAnyCreateTopicsResponse'. -/
def fnAnyCreateTopicsResponseCard : Claim7 := { stood := { row := fnAnyCreateTopicsResponseRow, standIns := [], harness := (true, "7b6124334488299da2bdbcee9f6161129194653f83e9ca9840696baac515c8cf"), looks := false }, kinds := [], alts := [], laidByText := true, laidKinds := [.sentinel], laidTests := true, laidLooks := .later }
def FnAnyCreateTopicsResponseCardSaid : Prop := Claim7.holds Tryd.pinned (.plain (OpenSpec.ofChange fnAnyCreateTopicsResponseSpec)) fnAnyCreateTopicsResponseCard

/-- THE SECOND FORM's CARD OF 'laws.FnAgainConnectMemberMetadata'. -/
def fnAgainConnectMemberMetadataUptoCard : Claim7 := { stood := { row := fnAgainConnectMemberMetadataUptoRow, standIns := [], harness := (true, "7b6124334488299da2bdbcee9f6161129194653f83e9ca9840696baac515c8cf"), looks := false }, kinds := [], alts := [], laidByText := true, laidKinds := [.sentinel], laidTests := true, laidLooks := .later }
def FnAgainConnectMemberMetadataUptoCardSaid : Prop := Claim7.holds Tryd.pinned (.plain (OpenSpec.upto fnAgainConnectMemberMetadataSpec)) fnAgainConnectMemberMetadataUptoCard

/-- THE SECOND FORM's CARD OF 'laws.FnAnyFetchSnapshotResponse'. -/
def fnAnyFetchSnapshotResponseUptoCard : Claim7 := { stood := { row := fnAnyFetchSnapshotResponseUptoRow, standIns := [], harness := (true, "7b6124334488299da2bdbcee9f6161129194653f83e9ca9840696baac515c8cf"), looks := false }, kinds := [], alts := [], laidByText := true, laidKinds := [.sentinel], laidTests := true, laidLooks := .later }
def FnAnyFetchSnapshotResponseUptoCardSaid : Prop := Claim7.holds Tryd.pinned (.plain (OpenSpec.upto fnAnyFetchSnapshotResponseSpec)) fnAnyFetchSnapshotResponseUptoCard

/-- THE SECOND FORM's CARD OF 'laws.FnAgainEndTxnResponse'. -/
def fnAgainEndTxnResponseUptoCard : Claim7 := { stood := { row := fnAgainEndTxnResponseUptoRow, standIns := [], harness := (true, "7b6124334488299da2bdbcee9f6161129194653f83e9ca9840696baac515c8cf"), looks := false }, kinds := [], alts := [], laidByText := true, laidKinds := [.sentinel], laidTests := true, laidLooks := .later }
def FnAgainEndTxnResponseUptoCardSaid : Prop := Claim7.holds Tryd.pinned (.plain (OpenSpec.upto fnAgainEndTxnResponseSpec)) fnAgainEndTxnResponseUptoCard

/-- THE SECOND FORM's CARD OF 'laws.FnCutDefaultPrincipalData'. -/
def fnCutDefaultPrincipalDataUptoCard : Claim7 := { stood := { row := fnCutDefaultPrincipalDataUptoRow, standIns := [], harness := (true, "7b6124334488299da2bdbcee9f6161129194653f83e9ca9840696baac515c8cf"), looks := false }, kinds := [], alts := [], laidByText := true, laidKinds := [.sentinel], laidTests := true, laidLooks := .later }
def FnCutDefaultPrincipalDataUptoCardSaid : Prop := Claim7.holds Tryd.pinned (.plain (OpenSpec.upto fnCutDefaultPrincipalDataSpec)) fnCutDefaultPrincipalDataUptoCard

/-- THE SECOND FORM's CARD OF 'laws.FnAnyLeaderChangeMessage'. -/
def fnAnyLeaderChangeMessageUptoCard : Claim7 := { stood := { row := fnAnyLeaderChangeMessageUptoRow, standIns := [], harness := (true, "7b6124334488299da2bdbcee9f6161129194653f83e9ca9840696baac515c8cf"), looks := false }, kinds := [], alts := [], laidByText := true, laidKinds := [.sentinel], laidTests := true, laidLooks := .later }
def FnAnyLeaderChangeMessageUptoCardSaid : Prop := Claim7.holds Tryd.pinned (.plain (OpenSpec.upto fnAnyLeaderChangeMessageSpec)) fnAnyLeaderChangeMessageUptoCard

/-- THE SECOND FORM's CARD OF 'laws.FnAnyCreateTopicsResponse'. -/
def fnAnyCreateTopicsResponseUptoCard : Claim7 := { stood := { row := fnAnyCreateTopicsResponseUptoRow, standIns := [], harness := (true, "7b6124334488299da2bdbcee9f6161129194653f83e9ca9840696baac515c8cf"), looks := false }, kinds := [], alts := [], laidByText := true, laidKinds := [.sentinel], laidTests := true, laidLooks := .later }
def FnAnyCreateTopicsResponseUptoCardSaid : Prop := Claim7.holds Tryd.pinned (.plain (OpenSpec.upto fnAnyCreateTopicsResponseSpec)) fnAnyCreateTopicsResponseUptoCard
end Rows
end Go.Proofs.YtobeonhmomiaaaaDoor
