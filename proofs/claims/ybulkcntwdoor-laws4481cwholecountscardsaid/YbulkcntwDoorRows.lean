/-
  NARROWER THAN 'FOR EVERY INPUT', by the rows' own cells (each row's printed sentence says how): LawS4481CWholeCounts: laid.
  DERIVED. THE GIVEN ROWS OF THIS SEAT. 1 by the template 'for every input the law returns true; each argument reads behind the call as it read before'; 0 by the template 'total and deterministic' (their statements: YbulkcntwDoorTotals.lean).
  GIVEN WITH THE SEED: the statements are not yours to turn. If you find one false, say at which input.
  Laid BY PROGRAM, IN A SANDBOX (cutbox-rows.mjs): the forced cells as the released guide's own fill.sh prints them over the translation 43ee688c6cdc2d9c… (all of the seat's roots in one cut). By AI agents, Wed Nov 11 2026. No macro, syntax, notation, axiom, sorry.
-/
import Derived.Test.YbulkcntwDoorChecked
import GoSem.Claim
import GoSem.ClaimJoined
import GoSem.ClaimMapViews
import Derived.JoinedTies
import Derived.KernelRfl
namespace Go.Proofs.YbulkcntwDoor
/- THE CELL 'sum', in the pinned program and in every row, IS THE sha256 OF THE DUMP (.gsa) THAT YbulkcntwDoorProg.lean LOADS. Nothing in Lean hashes anything: it is a label: what it is worth is what the hold of that sum in a sandbox is worth. -/
noncomputable def Ybad.pinned : Pinned := { name := "ybulkcntwdoor", sum := "43ee688c6cdc2d9cfcc6aea5e9a4fdc616340a298ef23b073565ce2c7ce48f8e", checked := Ybad.checked }
namespace Rows
def none {H : Type} : Left H := { results := [], args := [] }

/- WHAT THE LISTED PACKAGE-LEVEL VARIABLES READ AS WHEN THE CALL BEGINS. Each datum BY PROGRAM (the guide's laid-datum.mjs) off the statement by which the dump's own 'gosem.cut.vars' lays the variable. In a bare row this is a premise. The card (YbulkcntwDoorCards.lean) ties it to the program's text. -/
def laid_example_com_keyweave_keyweave_one {H : Type} : DataW H := .agg [.lit (.int .u64 0), .lit (.int .u64 1)]

/-- 'keyweave.LawS4481CWholeCounts': WHATEVER THE INPUT: true; the input reads as it did. -/
def lawS4481CWholeCountsSpec : ChangeSpec := { name := "lawS4481CWholeCounts", vars := ["example.com/keyweave/keyweave.one"], fn := fun _ => fun
  | [d1, d2, d3, d4, d5, d6, d7, g1] => { results := [.lit (.bool true)], args := [d1, d2, d3, d4, d5, d6, d7], vars := [g1] }
  | _ => none }
def lawS4481CWholeCountsRow : OpenClaim := { program := "ybulkcntwdoor", sum := "43ee688c6cdc2d9cfcc6aea5e9a4fdc616340a298ef23b073565ce2c7ce48f8e", func := "example.com/keyweave/keyweave.LawS4481CWholeCounts", spec := "lawS4481CWholeCounts", inPlace := ["math/bits.Sub64", "math/bits.Add64"], unfollowed := true, recurses := true, named := ["example.com/keyweave/keyweave.one"], plainKeys := false, apart := false, laid := [("example.com/keyweave/keyweave.one", laid_example_com_keyweave_keyweave_one)] }
def LawS4481CWholeCountsSaid : Prop := lawS4481CWholeCountsRow.holds Ybad.pinned (OpenSpec.ofChange lawS4481CWholeCountsSpec)

/-- ITS FALSE NEIGHBOUR: 'it returns false'. Refute it at one input. -/
def lawS4481CWholeCountsWrong : ChangeSpec := { name := "lawS4481CWholeCounts", vars := ["example.com/keyweave/keyweave.one"], fn := fun _ => fun
  | [d1, d2, d3, d4, d5, d6, d7, g1] => { results := [.lit (.bool false)], args := [d1, d2, d3, d4, d5, d6, d7], vars := [g1] }
  | _ => none }
def LawS4481CWholeCountsWrongFalsely : Prop := lawS4481CWholeCountsRow.holds Ybad.pinned (OpenSpec.ofChange lawS4481CWholeCountsWrong)

end Rows
end Go.Proofs.YbulkcntwDoor
