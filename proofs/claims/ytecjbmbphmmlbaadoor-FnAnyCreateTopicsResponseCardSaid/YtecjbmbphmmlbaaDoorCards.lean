/-
  DERIVED. GIVEN WITH THE SEED: THE CARDS: each row of YtecjbmbphmmlbaaDoorRows.lean that lists a variable, with what it lists TIED to the program's text (the seventh form; the later family's looks); each row that meets fmt, with fmt's text TOLD by the authors' own Lean function (tested against real Go, not proved from fmt's source: count such statements apart). THE CARD IS WHAT COUNTS. Prove the row's statement (the work); the ties are given (YtecjbmbphmmlbaaDoorTie.lean); close each card by the builder's one call (the guide's Derived/Test/ToyasCard.lean, 'card_holds'). Laid BY PROGRAM, IN A SANDBOX (cutbox-door.mjs). By AI agents, Wed Nov 11 2026. No macro, syntax, notation, axiom, sorry.
-/
import Derived.Test.YtecjbmbphmmlbaaDoorRows
import GoSem.ClaimSeven
namespace Go.Proofs.YtecjbmbphmmlbaaDoor
namespace Rows

/-- THE TIED CARD OF 'laws.FnAnyCreateTopicsResponse'. -/
def fnAnyCreateTopicsResponseCard : Claim7 := { stood := { row := fnAnyCreateTopicsResponseRow, standIns := [], harness := (true, "3a0f36a20d8fd77b3871a79e4978dffaf52085fef5ead58c51c717f66c6f7a95"), looks := false }, kinds := [], alts := [], laidByText := true, laidKinds := [.sentinel], laidTests := true, laidLooks := .later }
def FnAnyCreateTopicsResponseCardSaid : Prop := Claim7.holds Tryd.pinned (.plain (OpenSpec.ofChange fnAnyCreateTopicsResponseSpec)) fnAnyCreateTopicsResponseCard

/-- THE SECOND FORM's CARD OF 'laws.FnAnyCreateTopicsResponse'. -/
def fnAnyCreateTopicsResponseUptoCard : Claim7 := { stood := { row := fnAnyCreateTopicsResponseUptoRow, standIns := [], harness := (true, "3a0f36a20d8fd77b3871a79e4978dffaf52085fef5ead58c51c717f66c6f7a95"), looks := false }, kinds := [], alts := [], laidByText := true, laidKinds := [.sentinel], laidTests := true, laidLooks := .later }
def FnAnyCreateTopicsResponseUptoCardSaid : Prop := Claim7.holds Tryd.pinned (.plain (OpenSpec.upto fnAnyCreateTopicsResponseSpec)) fnAnyCreateTopicsResponseUptoCard
end Rows
end Go.Proofs.YtecjbmbphmmlbaaDoor
