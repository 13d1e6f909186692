/-
  No cell of these rows narrows 'for every input' (looked for: loops, veiled, ifaces, maps, wideKeys, modest, calm, conditions, laid).
  DERIVED. THE GIVEN ROWS OF THIS SEAT. 2 by the template 'for every input the law returns true; each argument reads behind the call as it read before'; 0 by the template 'total and deterministic' (their statements: YbulkcnrsTotals.lean).
  GIVEN WITH THE SEED: the statements are not yours to turn. If you find one false, say at which input.
  Laid BY PROGRAM, IN A SANDBOX (cutbox-rows.mjs): the forced cells as the released guide's own fill.sh prints them over the translation 5cb22fc9962a22be… (all of the seat's roots in one cut). By AI agents, Wed Nov 11 2026. No macro, syntax, notation, axiom, sorry.
-/
import Derived.Test.YbulkcnrsChecked
import GoSem.Claim
import GoSem.ClaimJoined
import GoSem.ClaimMapViews
import Derived.JoinedTies
import Derived.KernelRfl
namespace Go.Proofs.Ybulkcnrs
/- THE CELL 'sum', in the pinned program and in every row, IS THE sha256 OF THE DUMP (.gsa) THAT YbulkcnrsProg.lean LOADS. Nothing in Lean hashes anything: it is a label: what it is worth is what the hold of that sum in a sandbox is worth. -/
noncomputable def Yba.pinned : Pinned := { name := "ybulkcnrs", sum := "5cb22fc9962a22bedf26426f5efaccdbfc2ca2201aae7984d65a5fd3d4d5ae1e", checked := Yba.checked }
namespace Rows
def none {H : Type} : Left H := { results := [], args := [] }

/-- 'pack.LawS4477AModel': WHATEVER THE INPUT: true; the input reads as it did. -/
def lawS4477AModelSpec : ChangeSpec := { name := "lawS4477AModel", fn := fun _ => fun
  | [d1, d2] => { results := [.lit (.bool true)], args := [d1, d2] }
  | _ => none }
def lawS4477AModelRow : OpenClaim := { program := "ybulkcnrs", sum := "5cb22fc9962a22bedf26426f5efaccdbfc2ca2201aae7984d65a5fd3d4d5ae1e", func := "example.com/plumbline/plumbline/pack.LawS4477AModel", spec := "lawS4477AModel", inPlace := ["(*internal/sync.Mutex).Lock", "internal/race.Disable", "sync/atomic.CompareAndSwapInt32", "internal/race.Enable", "internal/race.Acquire", "(*internal/sync.Mutex).lockSlow", "internal/sync.runtime_canSpin", "internal/sync.runtime_doSpin", "internal/sync.throw", "internal/sync.runtime_nanotime", "internal/sync.runtime_SemacquireMutex", "sync/atomic.AddInt32", "(*internal/sync.Mutex).Unlock", "internal/race.ReleaseMerge", "(*internal/sync.Mutex).unlockSlow", "internal/sync.fatal", "internal/sync.runtime_Semrelease"], apart := false }
def LawS4477AModelSaid : Prop := lawS4477AModelRow.holds Yba.pinned (OpenSpec.ofChange lawS4477AModelSpec)

/-- ITS FALSE NEIGHBOUR: 'it returns false'. Refute it at one input. -/
def lawS4477AModelWrong : ChangeSpec := { name := "lawS4477AModel", fn := fun _ => fun
  | [d1, d2] => { results := [.lit (.bool false)], args := [d1, d2] }
  | _ => none }
def LawS4477AModelWrongFalsely : Prop := lawS4477AModelRow.holds Yba.pinned (OpenSpec.ofChange lawS4477AModelWrong)

/-- 'pack.LawS4477AFresh': WHATEVER THE INPUT: true; the input reads as it did. -/
def lawS4477AFreshSpec : ChangeSpec := { name := "lawS4477AFresh", fn := fun _ => fun
  | [d1, d2, d3, d4] => { results := [.lit (.bool true)], args := [d1, d2, d3, d4] }
  | _ => none }
def lawS4477AFreshRow : OpenClaim := { program := "ybulkcnrs", sum := "5cb22fc9962a22bedf26426f5efaccdbfc2ca2201aae7984d65a5fd3d4d5ae1e", func := "example.com/plumbline/plumbline/pack.LawS4477AFresh", spec := "lawS4477AFresh", inPlace := ["(*internal/sync.Mutex).Lock", "internal/race.Disable", "sync/atomic.CompareAndSwapInt32", "internal/race.Enable", "internal/race.Acquire", "(*internal/sync.Mutex).lockSlow", "internal/sync.runtime_canSpin", "internal/sync.runtime_doSpin", "internal/sync.throw", "internal/sync.runtime_nanotime", "internal/sync.runtime_SemacquireMutex", "sync/atomic.AddInt32", "(*internal/sync.Mutex).Unlock", "internal/race.ReleaseMerge", "(*internal/sync.Mutex).unlockSlow", "internal/sync.fatal", "internal/sync.runtime_Semrelease"], apart := false }
def LawS4477AFreshSaid : Prop := lawS4477AFreshRow.holds Yba.pinned (OpenSpec.ofChange lawS4477AFreshSpec)

/-- ITS FALSE NEIGHBOUR: 'it returns false'. Refute it at one input. -/
def lawS4477AFreshWrong : ChangeSpec := { name := "lawS4477AFresh", fn := fun _ => fun
  | [d1, d2, d3, d4] => { results := [.lit (.bool false)], args := [d1, d2, d3, d4] }
  | _ => none }
def LawS4477AFreshWrongFalsely : Prop := lawS4477AFreshRow.holds Yba.pinned (OpenSpec.ofChange lawS4477AFreshWrong)

end Rows
end Go.Proofs.Ybulkcnrs
