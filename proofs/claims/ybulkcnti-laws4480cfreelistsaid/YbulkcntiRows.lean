/-
  No cell of these rows narrows 'for every input' (looked for: loops, veiled, ifaces, maps, wideKeys, modest, calm, conditions, laid).
  DERIVED. THE GIVEN ROWS OF THIS SEAT. 2 by the template 'for every input the law returns true; each argument reads behind the call as it read before'; 0 by the template 'total and deterministic' (their statements: YbulkcntiTotals.lean).
  GIVEN WITH THE SEED: the statements are not yours to turn. If you find one false, say at which input.
  Laid BY PROGRAM, IN A SANDBOX (cutbox-rows.mjs): the forced cells as the released guide's own fill.sh prints them over the translation cd80a34db69a282f… (all of the seat's roots in one cut). By AI agents, Wed Nov 11 2026. No macro, syntax, notation, axiom, sorry.
-/
import Derived.Test.YbulkcntiChecked
import GoSem.Claim
import GoSem.ClaimJoined
import GoSem.ClaimMapViews
import Derived.JoinedTies
import Derived.KernelRfl
namespace Go.Proofs.Ybulkcnti
/- THE CELL 'sum', in the pinned program and in every row, IS THE sha256 OF THE DUMP (.gsa) THAT YbulkcntiProg.lean LOADS. Nothing in Lean hashes anything: it is a label: what it is worth is what the hold of that sum in a sandbox is worth. -/
noncomputable def Yba.pinned : Pinned := { name := "ybulkcnti", sum := "cd80a34db69a282f94c254f66145ed849d7e3b33d8c1dce6891603685fca292e", checked := Yba.checked }
namespace Rows
def none {H : Type} : Left H := { results := [], args := [] }

/-- 'page.LawS4480CHeapTop': WHATEVER THE INPUT: true; the input reads as it did. -/
def lawS4480CHeapTopSpec : ChangeSpec := { name := "lawS4480CHeapTop", fn := fun _ => fun
  | [d1, d2, d3, d4] => { results := [.lit (.bool true)], args := [d1, d2, d3, d4] }
  | _ => none }
def lawS4480CHeapTopRow : OpenClaim := { program := "ybulkcnti", sum := "cd80a34db69a282f94c254f66145ed849d7e3b33d8c1dce6891603685fca292e", func := "example.com/pagewright/pagewright/internal/page.LawS4480CHeapTop", spec := "lawS4480CHeapTop", named := ["encoding/binary.BigEndian"], apart := false }
def LawS4480CHeapTopSaid : Prop := lawS4480CHeapTopRow.holds Yba.pinned (OpenSpec.ofChange lawS4480CHeapTopSpec)

/-- ITS FALSE NEIGHBOUR: 'it returns false'. Refute it at one input. -/
def lawS4480CHeapTopWrong : ChangeSpec := { name := "lawS4480CHeapTop", fn := fun _ => fun
  | [d1, d2, d3, d4] => { results := [.lit (.bool false)], args := [d1, d2, d3, d4] }
  | _ => none }
def LawS4480CHeapTopWrongFalsely : Prop := lawS4480CHeapTopRow.holds Yba.pinned (OpenSpec.ofChange lawS4480CHeapTopWrong)

/-- 'page.LawS4480CFreeList': WHATEVER THE INPUT: true; the input reads as it did. -/
def lawS4480CFreeListSpec : ChangeSpec := { name := "lawS4480CFreeList", fn := fun _ => fun
  | [d1, d2, d3, d4] => { results := [.lit (.bool true)], args := [d1, d2, d3, d4] }
  | _ => none }
def lawS4480CFreeListRow : OpenClaim := { program := "ybulkcnti", sum := "cd80a34db69a282f94c254f66145ed849d7e3b33d8c1dce6891603685fca292e", func := "example.com/pagewright/pagewright/internal/page.LawS4480CFreeList", spec := "lawS4480CFreeList", named := ["encoding/binary.BigEndian"], apart := false }
def LawS4480CFreeListSaid : Prop := lawS4480CFreeListRow.holds Yba.pinned (OpenSpec.ofChange lawS4480CFreeListSpec)

/-- ITS FALSE NEIGHBOUR: 'it returns false'. Refute it at one input. -/
def lawS4480CFreeListWrong : ChangeSpec := { name := "lawS4480CFreeList", fn := fun _ => fun
  | [d1, d2, d3, d4] => { results := [.lit (.bool false)], args := [d1, d2, d3, d4] }
  | _ => none }
def LawS4480CFreeListWrongFalsely : Prop := lawS4480CFreeListRow.holds Yba.pinned (OpenSpec.ofChange lawS4480CFreeListWrong)

end Rows
end Go.Proofs.Ybulkcnti
