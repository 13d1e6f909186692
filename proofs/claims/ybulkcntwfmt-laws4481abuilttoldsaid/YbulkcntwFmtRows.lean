/-
  NARROWER THAN 'FOR EVERY INPUT', by the rows' own cells (each row's printed sentence says how): LawS4481AModel: ifaces, laid · LawS4481ABuilt: ifaces, laid.
  DERIVED. THE GIVEN ROWS OF THIS SEAT. 2 by the template 'for every input the law returns true; each argument reads behind the call as it read before'; 0 by the template 'total and deterministic' (their statements: YbulkcntwFmtTotals.lean).
  GIVEN WITH THE SEED: the statements are not yours to turn. If you find one false, say at which input.
  Laid BY PROGRAM, IN A SANDBOX (cutbox-rows.mjs): the forced cells as the released guide's own fill.sh prints them over the translation 1ba0e8c6ed9bd336… (all of the seat's roots in one cut). By AI agents, Wed Nov 11 2026. No macro, syntax, notation, axiom, sorry.
-/
import Derived.Test.YbulkcntwFmtChecked
import GoSem.Claim
import GoSem.ClaimJoined
import GoSem.ClaimMapViews
import Derived.JoinedTies
import Derived.KernelRfl
namespace Go.Proofs.YbulkcntwFmt
/- THE CELL 'sum', in the pinned program and in every row, IS THE sha256 OF THE DUMP (.gsa) THAT YbulkcntwFmtProg.lean LOADS. Nothing in Lean hashes anything: it is a label: what it is worth is what the hold of that sum in a sandbox is worth. -/
noncomputable def Ybaf.pinned : Pinned := { name := "ybulkcntwfmt", sum := "1ba0e8c6ed9bd336d026f1c0801171bb235eb1a5c5573af5348143e7553da802", checked := Ybaf.checked }
namespace Rows
def none {H : Type} : Left H := { results := [], args := [] }

/- WHAT THE LISTED PACKAGE-LEVEL VARIABLES READ AS WHEN THE CALL BEGINS. Each datum BY PROGRAM (the guide's laid-datum.mjs) off the statement by which the dump's own 'gosem.cut.vars' lays the variable. In a bare row this is a premise. The card (YbulkcntwFmtCards.lean) ties it to the program's text. -/
def laid_example_com_keyweave_keyweave_ErrBadKeyword {H : Type} : DataW H := .iface "*errors.errorString" (.ptr (.agg [.lit (.string [110, 111, 116, 32, 108, 111, 119, 101, 114, 45, 99, 97, 115, 101, 32, 108, 101, 116, 116, 101, 114, 115, 32, 97, 110, 100, 32, 100, 105, 103, 105, 116, 115])]))

/-- 'keyweave.LawS4481AModel': WHATEVER THE INPUT: true; the input reads as it did. -/
def lawS4481AModelSpec : ChangeSpec := { name := "lawS4481AModel", vars := ["example.com/keyweave/keyweave.ErrBadKeyword"], fn := fun _ => fun
  | [d1, d2, g1] => { results := [.lit (.bool true)], args := [d1, d2], vars := [g1] }
  | _ => none }
def lawS4481AModelRow : OpenClaim := { program := "ybulkcntwfmt", sum := "1ba0e8c6ed9bd336d026f1c0801171bb235eb1a5c5573af5348143e7553da802", func := "example.com/keyweave/keyweave.LawS4481AModel", spec := "lawS4481AModel", stops := ["fmt.errorf"], inPlace := ["fmt.errorf", "internal/reflectlite.TypeOf"], unfollowed := true, recurses := true, named := ["example.com/keyweave/keyweave.ErrBadKeyword"], ifaces := true, apart := false, laid := [("example.com/keyweave/keyweave.ErrBadKeyword", laid_example_com_keyweave_keyweave_ErrBadKeyword)] }
/-- NO THEOREM (fmt's text is open here; it may be false): for the released tool's asking of the row's closed facts alone. THE STATEMENT IS 'LawS4481AModelToldSaid' (YbulkcntwFmtCards.lean). -/
def LawS4481AModelFormAsk : Prop := lawS4481AModelRow.holds Ybaf.pinned (OpenSpec.ofChange lawS4481AModelSpec)

/-- ITS FALSE NEIGHBOUR: 'it returns false'. Refute it at one input. -/
def lawS4481AModelWrong : ChangeSpec := { name := "lawS4481AModel", vars := ["example.com/keyweave/keyweave.ErrBadKeyword"], fn := fun _ => fun
  | [d1, d2, g1] => { results := [.lit (.bool false)], args := [d1, d2], vars := [g1] }
  | _ => none }
def LawS4481AModelWrongFormAsk : Prop := lawS4481AModelRow.holds Ybaf.pinned (OpenSpec.ofChange lawS4481AModelWrong)

/-- 'keyweave.LawS4481ABuilt': WHATEVER THE INPUT: true; the input reads as it did. -/
def lawS4481ABuiltSpec : ChangeSpec := { name := "lawS4481ABuilt", vars := ["example.com/keyweave/keyweave.ErrBadKeyword"], fn := fun _ => fun
  | [d1, d2, g1] => { results := [.lit (.bool true)], args := [d1, d2], vars := [g1] }
  | _ => none }
def lawS4481ABuiltRow : OpenClaim := { program := "ybulkcntwfmt", sum := "1ba0e8c6ed9bd336d026f1c0801171bb235eb1a5c5573af5348143e7553da802", func := "example.com/keyweave/keyweave.LawS4481ABuilt", spec := "lawS4481ABuilt", stops := ["fmt.errorf"], inPlace := ["fmt.errorf", "internal/reflectlite.TypeOf"], unfollowed := true, recurses := true, named := ["example.com/keyweave/keyweave.ErrBadKeyword"], ifaces := true, apart := false, laid := [("example.com/keyweave/keyweave.ErrBadKeyword", laid_example_com_keyweave_keyweave_ErrBadKeyword)] }
/-- NO THEOREM (fmt's text is open here; it may be false): for the released tool's asking of the row's closed facts alone. THE STATEMENT IS 'LawS4481ABuiltToldSaid' (YbulkcntwFmtCards.lean). -/
def LawS4481ABuiltFormAsk : Prop := lawS4481ABuiltRow.holds Ybaf.pinned (OpenSpec.ofChange lawS4481ABuiltSpec)

/-- ITS FALSE NEIGHBOUR: 'it returns false'. Refute it at one input. -/
def lawS4481ABuiltWrong : ChangeSpec := { name := "lawS4481ABuilt", vars := ["example.com/keyweave/keyweave.ErrBadKeyword"], fn := fun _ => fun
  | [d1, d2, g1] => { results := [.lit (.bool false)], args := [d1, d2], vars := [g1] }
  | _ => none }
def LawS4481ABuiltWrongFormAsk : Prop := lawS4481ABuiltRow.holds Ybaf.pinned (OpenSpec.ofChange lawS4481ABuiltWrong)

end Rows
end Go.Proofs.YbulkcntwFmt
