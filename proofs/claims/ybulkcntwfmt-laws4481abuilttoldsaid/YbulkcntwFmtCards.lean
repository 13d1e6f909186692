/-
  DERIVED. GIVEN WITH THE SEED: THE CARDS: each row of YbulkcntwFmtRows.lean that lists a variable, with what it lists TIED to the program's text (the seventh form; the later family's looks); each row that meets fmt, with fmt's text TOLD by the authors' own Lean function (tested against real Go, not proved from fmt's source: count such statements apart). THE CARD IS WHAT COUNTS. Prove the row's statement (the work); the ties are given (YbulkcntwFmtTie.lean); close each card by the builder's one call (the guide's Derived/Test/ToyasCard.lean, 'card_holds'). Laid BY PROGRAM, IN A SANDBOX (cutbox-door.mjs). By AI agents, Wed Nov 11 2026. No macro, syntax, notation, axiom, sorry.
-/
import Derived.Test.YbulkcntwFmtRows
import GoSem.ClaimSeven
namespace Go.Proofs.YbulkcntwFmt
namespace Rows

/-- THE TOLD AND TIED CARD OF 'keyweave.LawS4481AModel'. -/
def lawS4481AModelCard : Claim7 := { stood := { row := lawS4481AModelRow, standIns := [], harness := (true, "0f7db3f3f530cbfeeb190be810dde6bd331126500179688ef13ae6b7f478658c"), looks := true }, told := true, laidByText := true, laidKinds := [.sentinel], laidTests := true, laidLooks := .later, goes := false }
def LawS4481AModelToldSaid : Prop := Claim7.holds Ybaf.pinned (.plain (OpenSpec.ofChange lawS4481AModelSpec)) lawS4481AModelCard
/-- ITS FALSE NEIGHBOUR. Refute it at one input. -/
def LawS4481AModelToldWrongFalsely : Prop := Claim7.holds Ybaf.pinned (.plain (OpenSpec.ofChange lawS4481AModelWrong)) lawS4481AModelCard

/-- THE TOLD AND TIED CARD OF 'keyweave.LawS4481ABuilt'. -/
def lawS4481ABuiltCard : Claim7 := { stood := { row := lawS4481ABuiltRow, standIns := [], harness := (true, "0f7db3f3f530cbfeeb190be810dde6bd331126500179688ef13ae6b7f478658c"), looks := true }, told := true, laidByText := true, laidKinds := [.sentinel], laidTests := true, laidLooks := .later, goes := false }
def LawS4481ABuiltToldSaid : Prop := Claim7.holds Ybaf.pinned (.plain (OpenSpec.ofChange lawS4481ABuiltSpec)) lawS4481ABuiltCard
/-- ITS FALSE NEIGHBOUR. Refute it at one input. -/
def LawS4481ABuiltToldWrongFalsely : Prop := Claim7.holds Ybaf.pinned (.plain (OpenSpec.ofChange lawS4481ABuiltWrong)) lawS4481ABuiltCard
end Rows
end Go.Proofs.YbulkcntwFmt
