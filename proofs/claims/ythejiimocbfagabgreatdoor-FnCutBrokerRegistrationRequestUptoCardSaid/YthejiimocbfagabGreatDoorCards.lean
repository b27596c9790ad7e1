/-
  DERIVED. GIVEN WITH THE SEED: THE CARDS: each row of YthejiimocbfagabGreatDoorRows.lean that lists a variable, with what it lists TIED to the program's text (the seventh form; the later family's looks); each row that meets fmt, with fmt's text TOLD by the authors' own Lean function (tested against real Go, not proved from fmt's source: count such statements apart). THE CARD IS WHAT COUNTS. Prove the row's statement (the work); the ties are given (YthejiimocbfagabGreatDoorTie.lean); close each card by the builder's one call (the guide's Derived/Test/ToyasCard.lean, 'card_holds'). Laid BY PROGRAM, IN A SANDBOX (cutbox-door.mjs). By AI agents, Wed Nov 11 2026. No macro, syntax, notation, axiom, sorry.
-/
import Derived.Test.YthejiimocbfagabGreatDoorRows
import GoSem.ClaimSeven
namespace Go.Proofs.YthejiimocbfagabGreatDoor
namespace Rows

/-- THE TIED CARD OF 'laws.FnCutBrokerRegistrationRequest'. -/
def fnCutBrokerRegistrationRequestCard : Claim7 := { stood := { row := fnCutBrokerRegistrationRequestRow, standIns := [], harness := (true, "d5d8e7300d359bfc6e52ffe75f5c2a0d19673672e6f834ad44efe64ab43c5cbd"), looks := false }, kinds := [], alts := [], laidByText := true, laidKinds := [.sentinel], laidTests := true, laidLooks := .later }
def FnCutBrokerRegistrationRequestCardSaid : Prop := Claim7.holds Tryz.pinned (.plain (OpenSpec.ofChange fnCutBrokerRegistrationRequestSpec)) fnCutBrokerRegistrationRequestCard

/-- THE SECOND FORM's CARD OF 'laws.FnCutBrokerRegistrationRequest'. -/
def fnCutBrokerRegistrationRequestUptoCard : Claim7 := { stood := { row := fnCutBrokerRegistrationRequestUptoRow, standIns := [], harness := (true, "d5d8e7300d359bfc6e52ffe75f5c2a0d19673672e6f834ad44efe64ab43c5cbd"), looks := false }, kinds := [], alts := [], laidByText := true, laidKinds := [.sentinel], laidTests := true, laidLooks := .later }
def FnCutBrokerRegistrationRequestUptoCardSaid : Prop := Claim7.holds Tryz.pinned (.plain (OpenSpec.upto fnCutBrokerRegistrationRequestSpec)) fnCutBrokerRegistrationRequestUptoCard
end Rows
end Go.Proofs.YthejiimocbfagabGreatDoor
