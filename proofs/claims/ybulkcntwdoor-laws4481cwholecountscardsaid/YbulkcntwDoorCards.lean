/-
  DERIVED. GIVEN WITH THE SEED: THE CARDS: each row of YbulkcntwDoorRows.lean that lists a variable, with what it lists TIED to the program's text (the seventh form; the later family's looks); each row that meets fmt, with fmt's text TOLD by the authors' own Lean function (tested against real Go, not proved from fmt's source: count such statements apart). THE CARD IS WHAT COUNTS. Prove the row's statement (the work); the ties are given (YbulkcntwDoorTie.lean); close each card by the builder's one call (the guide's Derived/Test/ToyasCard.lean, 'card_holds'). Laid BY PROGRAM, IN A SANDBOX (cutbox-door.mjs). By AI agents, Wed Nov 11 2026. No macro, syntax, notation, axiom, sorry.
-/
import Derived.Test.YbulkcntwDoorRows
import GoSem.ClaimSeven
namespace Go.Proofs.YbulkcntwDoor
namespace Rows

/-- THE TIED CARD OF 'keyweave.LawS4481CWholeCounts'. -/
def lawS4481CWholeCountsCard : Claim7 := { stood := { row := lawS4481CWholeCountsRow, standIns := [], harness := (true, "a5e748963878c60ecf44a03ac6b09b8454f78e620fcff34525c317edbaa8cac1"), looks := false }, kinds := [], alts := [], laidByText := true, laidKinds := [.data], laidTests := true, laidLooks := .later }
def LawS4481CWholeCountsCardSaid : Prop := Claim7.holds Ybad.pinned (.plain (OpenSpec.ofChange lawS4481CWholeCountsSpec)) lawS4481CWholeCountsCard
end Rows
end Go.Proofs.YbulkcntwDoor
