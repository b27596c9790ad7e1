/-
  DERIVED. GIVEN WITH THE SEED: THE CARDS: each row of YthcljbnfmgfljaaGreatDoorRows.lean that lists a variable, with what it lists TIED to the program's text (the seventh form; the later family's looks); each row that meets fmt, with fmt's text TOLD by the authors' own Lean function (tested against real Go, not proved from fmt's source: count such statements apart). THE CARD IS WHAT COUNTS. Prove the row's statement (the work); the ties are given (YthcljbnfmgfljaaGreatDoorTie.lean); close each card by the builder's one call (the guide's Derived/Test/ToyasCard.lean, 'card_holds'). Laid BY PROGRAM, IN A SANDBOX (cutbox-door.mjs). By AI agents, Wed Nov 11 2026. No macro, syntax, notation, axiom, sorry.
-/
import Derived.Test.YthcljbnfmgfljaaGreatDoorRows
import GoSem.ClaimSeven
namespace Go.Proofs.YthcljbnfmgfljaaGreatDoor
namespace Rows

/-- THE TIED CARD OF 'laws.FnCutTxnOffsetCommitResponse'. -/
def fnCutTxnOffsetCommitResponseCard : Claim7 := { stood := { row := fnCutTxnOffsetCommitResponseRow, standIns := [], harness := (true, "97160487b2c46e469737563b19066a22f0642693ef37fa0b00b7b65b1b73ac4f"), looks := false }, kinds := [], alts := [], laidByText := true, laidKinds := [.sentinel], laidTests := true, laidLooks := .later }
def FnCutTxnOffsetCommitResponseCardSaid : Prop := Claim7.holds Tryz.pinned (.plain (OpenSpec.ofChange fnCutTxnOffsetCommitResponseSpec)) fnCutTxnOffsetCommitResponseCard

/-- THE SECOND FORM's CARD OF 'laws.FnCutTxnOffsetCommitResponse'. -/
def fnCutTxnOffsetCommitResponseUptoCard : Claim7 := { stood := { row := fnCutTxnOffsetCommitResponseUptoRow, standIns := [], harness := (true, "97160487b2c46e469737563b19066a22f0642693ef37fa0b00b7b65b1b73ac4f"), looks := false }, kinds := [], alts := [], laidByText := true, laidKinds := [.sentinel], laidTests := true, laidLooks := .later }
def FnCutTxnOffsetCommitResponseUptoCardSaid : Prop := Claim7.holds Tryz.pinned (.plain (OpenSpec.upto fnCutTxnOffsetCommitResponseSpec)) fnCutTxnOffsetCommitResponseUptoCard
end Rows
end Go.Proofs.YthcljbnfmgfljaaGreatDoor
