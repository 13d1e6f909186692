/-
  No cell of these rows narrows 'for every input' (looked for: loops, veiled, ifaces, maps, wideKeys, modest, calm, conditions, laid).
  DERIVED. THE GIVEN ROWS OF THIS SEAT. 1 by the template 'for every input the law returns true; each argument reads behind the call as it read before'; 0 by the template 'total and deterministic' (their statements: YbulkcoeqTotals.lean).
  GIVEN WITH THE SEED: the statements are not yours to turn. If you find one false, say at which input.
  Laid BY PROGRAM, IN A SANDBOX (cutbox-rows.mjs): the forced cells as the released guide's own fill.sh prints them over the translation 7799496c86aaab99… (all of the seat's roots in one cut). By AI agents, Wed Nov 11 2026. No macro, syntax, notation, axiom, sorry.
-/
import Derived.Test.YbulkcoeqChecked
import GoSem.Claim
import GoSem.ClaimJoined
import GoSem.ClaimMapViews
import Derived.JoinedTies
import Derived.KernelRfl
namespace Go.Proofs.Ybulkcoeq
/- THE CELL 'sum', in the pinned program and in every row, IS THE sha256 OF THE DUMP (.gsa) THAT YbulkcoeqProg.lean LOADS. Nothing in Lean hashes anything: it is a label: what it is worth is what the hold of that sum in a sandbox is worth. -/
noncomputable def Yba.pinned : Pinned := { name := "ybulkcoeq", sum := "7799496c86aaab994d987ee2bbed9ba75e3e8e08fc358c01f58bb028eba430de", checked := Yba.checked }
namespace Rows
def none {H : Type} : Left H := { results := [], args := [] }

/-- 'node.LawS4501CAskable': WHATEVER THE INPUT: true; the input reads as it did. -/
def lawS4501CAskableSpec : ChangeSpec := { name := "lawS4501CAskable", fn := fun _ => fun
  | [d1, d2, d3] => { results := [.lit (.bool true)], args := [d1, d2, d3] }
  | _ => none }
def lawS4501CAskableRow : OpenClaim := { program := "ybulkcoeq", sum := "7799496c86aaab994d987ee2bbed9ba75e3e8e08fc358c01f58bb028eba430de", func := "example.com/bucketcast/bucketcast/internal/node.LawS4501CAskable", spec := "lawS4501CAskable", inPlace := ["internal/reflectlite.ValueOf", "internal/reflectlite.Swapper", "(internal/reflectlite.Value).Len"], unfollowed := true, recurses := true, plainKeys := false, apart := false }
def LawS4501CAskableSaid : Prop := lawS4501CAskableRow.holds Yba.pinned (OpenSpec.ofChange lawS4501CAskableSpec)

/-- ITS FALSE NEIGHBOUR: 'it returns false'. Refute it at one input. -/
def lawS4501CAskableWrong : ChangeSpec := { name := "lawS4501CAskable", fn := fun _ => fun
  | [d1, d2, d3] => { results := [.lit (.bool false)], args := [d1, d2, d3] }
  | _ => none }
def LawS4501CAskableWrongFalsely : Prop := lawS4501CAskableRow.holds Yba.pinned (OpenSpec.ofChange lawS4501CAskableWrong)

end Rows
end Go.Proofs.Ybulkcoeq
