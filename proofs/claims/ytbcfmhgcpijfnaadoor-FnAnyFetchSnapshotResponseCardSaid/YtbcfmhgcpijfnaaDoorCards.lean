/-
  DERIVED. GIVEN WITH THE SEED: THE CARDS: each row of YtbcfmhgcpijfnaaDoorRows.lean that lists a variable, with what it lists TIED to the program's text (the seventh form; the later family's looks); each row that meets fmt, with fmt's text TOLD by the authors' own Lean function (tested against real Go, not proved from fmt's source: count such statements apart). THE CARD IS WHAT COUNTS. Prove the row's statement (the work); the ties are given (YtbcfmhgcpijfnaaDoorTie.lean); close each card by the builder's one call (the guide's Derived/Test/ToyasCard.lean, 'card_holds'). Laid BY PROGRAM, IN A SANDBOX (cutbox-door.mjs). By AI agents, Wed Nov 11 2026. No macro, syntax, notation, axiom, sorry.
-/
import Derived.Test.YtbcfmhgcpijfnaaDoorRows
import GoSem.ClaimSeven
namespace Go.Proofs.YtbcfmhgcpijfnaaDoor
namespace Rows

/-- THE TIED CARD OF 'laws.FnAnyFetchSnapshotResponse'. -/
def fnAnyFetchSnapshotResponseCard : Claim7 := { stood := { row := fnAnyFetchSnapshotResponseRow, standIns := [], harness := (true, "ac2f2b02096e2d4b43a00abd9dcf3a9e0b0ace3a13a4a0dbdd1c7cd8c6d2bbca"), looks := false }, kinds := [], alts := [], laidByText := true, laidKinds := [.sentinel], laidTests := true, laidLooks := .later }
def FnAnyFetchSnapshotResponseCardSaid : Prop := Claim7.holds Tryd.pinned (.plain (OpenSpec.ofChange fnAnyFetchSnapshotResponseSpec)) fnAnyFetchSnapshotResponseCard

/-- THE SECOND FORM's CARD OF 'laws.FnAnyFetchSnapshotResponse'. -/
def fnAnyFetchSnapshotResponseUptoCard : Claim7 := { stood := { row := fnAnyFetchSnapshotResponseUptoRow, standIns := [], harness := (true, "ac2f2b02096e2d4b43a00abd9dcf3a9e0b0ace3a13a4a0dbdd1c7cd8c6d2bbca"), looks := false }, kinds := [], alts := [], laidByText := true, laidKinds := [.sentinel], laidTests := true, laidLooks := .later }
def FnAnyFetchSnapshotResponseUptoCardSaid : Prop := Claim7.holds Tryd.pinned (.plain (OpenSpec.upto fnAnyFetchSnapshotResponseSpec)) fnAnyFetchSnapshotResponseUptoCard
end Rows
end Go.Proofs.YtbcfmhgcpijfnaaDoor
