/-
  DERIVED. GIVEN WITH THE SEED: THE CARDS: each row of YthelpljefckgkaaDoorRows.lean that lists a variable, with what it lists TIED to the program's text (the seventh form; the later family's looks); each row that meets fmt, with fmt's text TOLD by the authors' own Lean function (tested against real Go, not proved from fmt's source: count such statements apart). THE CARD IS WHAT COUNTS. Prove the row's statement (the work); the ties are given (YthelpljefckgkaaDoorTie.lean); close each card by the builder's one call (the guide's Derived/Test/ToyasCard.lean, 'card_holds'). Laid BY PROGRAM, IN A SANDBOX (cutbox-door.mjs). By AI agents, Wed Nov 11 2026. No macro, syntax, notation, axiom, sorry.
-/
import Derived.Test.YthelpljefckgkaaDoorRows
import GoSem.ClaimSeven
namespace Go.Proofs.YthelpljefckgkaaDoor
namespace Rows

/-- THE TIED CARD OF 'laws.FnConfigTypeText'. -/
def fnConfigTypeTextCard : Claim7 := { stood := { row := fnConfigTypeTextRow, standIns := [], harness := (true, "becf4728ff348ad3373dc76db049b9d8866e36428ca0d4403e63cedd3699945d"), looks := false }, kinds := [], alts := [], laidByText := true, laidKinds := [.data, .listed, .data, .pinned, .pinned], laidTests := true, laidLooks := .later }
def FnConfigTypeTextCardSaid : Prop := Claim7.holds Tryd.pinned (.plain (OpenSpec.ofChange fnConfigTypeTextSpec)) fnConfigTypeTextCard

/-- THE SECOND FORM's CARD OF 'laws.FnConfigTypeText'. -/
def fnConfigTypeTextUptoCard : Claim7 := { stood := { row := fnConfigTypeTextUptoRow, standIns := [], harness := (true, "becf4728ff348ad3373dc76db049b9d8866e36428ca0d4403e63cedd3699945d"), looks := false }, kinds := [], alts := [], laidByText := true, laidKinds := [.data, .listed, .data, .pinned, .pinned], laidTests := true, laidLooks := .later }
def FnConfigTypeTextUptoCardSaid : Prop := Claim7.holds Tryd.pinned (.plain (OpenSpec.upto fnConfigTypeTextSpec)) fnConfigTypeTextUptoCard
end Rows
end Go.Proofs.YthelpljefckgkaaDoor
