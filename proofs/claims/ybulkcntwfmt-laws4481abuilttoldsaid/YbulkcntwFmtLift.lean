import Derived.Test.YbulkcntwFmtCheck
import Derived.Test.YbulkcntwFmtTie
import Derived.Test.YbulkcntwFmtCards
import Derived.ProofKit
import Derived.Stop.JoinedAt
import Derived.Stop.JoinedTold
import Derived.Stop.Texts
import Derived.Stop.ErrReads
import Derived.Stop.LaidErr
import Derived.OpenShut
import Derived.ShutString
import Derived.ChangeOld
import Derived.SliceStrings
import Derived.SevenTiedAt
namespace Go.Proofs.YbulkcntwFmt
open Go.ChangeShapes Go.WideShapes Go.ChangeAt Go.RowKit Go.Kit
open Go.Extern.Stop Go.Stop Go.Extern
set_option linter.unusedVariables false
set_option linter.unusedSimpArgs false

theorem Ybaf.own : ownKnob Ybaf.prog.godebug = none := by kernel_rfl
theorem Ybaf.laidOut : laidOutB Ybaf.pinned.checked.prog = true := by kernel_rfl
theorem Ybaf.stops : Ybaf.pinned.checked.prog.stops = ["fmt.errorf"] := by kernel_rfl
theorem Ybaf.stopKnobs : Ybaf.pinned.checked.prog.stopKnobs = [] := by kernel_rfl
theorem Ybaf.quiet (os : Os) : Stop.quiet Ybaf.pinned.checked.prog os := by
  intro k hk
  rw [Ybaf.stopKnobs] at hk
  cases hk
theorem Ybaf.gE : Ybaf.prog.globalNamed "example.com/keyweave/keyweave.ErrBadKeyword" = some 0 := by kernel_rfl
theorem Ybaf.gEType : (Ybaf.prog.globals[0]?).map (·.type) = some 28 := by kernel_rfl
theorem Ybaf.cells60 : Ybaf.prog.cellsOf 60 = 1 := by kernel_rfl
theorem Ybaf.cells9 : Ybaf.prog.cellsOf 9 = 1 := by kernel_rfl
theorem Ybaf.star : "*" ++ "errors.errorString" = "*errors.errorString" := by decide
theorem Ybaf.row58 (u : TypeId) (h : Ybaf.prog.typeName? 3 u = some "*errors.errorString") : u = 58 :=
  typeName_ptr_named (nm := "errors.errorString") (by rw [Ybaf.star]; kernel_rfl) (by kernel_rfl) (by decide) u (by rw [Ybaf.star]; exact h)

abbrev badS : ByteArray := { data := #[110, 111, 116, 32, 108, 111, 119, 101, 114, 45, 99, 97, 115, 101, 32, 108, 101, 116, 116, 101, 114, 115, 32, 97, 110, 100, 32, 100, 105, 103, 105, 116, 115] }
noncomputable def low : Nat := (World.holding Ybaf.prog default ⟨#[], #[], []⟩).heap.size
noncomputable def laidWorld (os : Os) (g : Nat) (s : ByteArray) : World :=
  let w0 := World.holding Ybaf.prog os ⟨#[.cells #[.string s] 60], #[], []⟩
  { w0 with heap := w0.heap.modify g fun
      | .cells _ t frozen => .cells #[.iface 58 (.pointer (some ⟨low, 0, none⟩))] t frozen
      | o => o }
theorem laid_met (os : Os) (args : Array Value) : laidMet Ybaf.prog Rows.lawS4481AModelRow.laid ((laidWorld os 0 badS).forCall (fun _ _ => 0) ⟨#[], args, []⟩).memory :=
  laidMet_of_run (ps := [.cell 0 0, .cell low 0]) 8 (by kernel_rfl) (by kernel_rfl) (by kernel_rfl)

theorem var?_below {P : Program} {B g : Nat} {W W' : World} {n : String} {cs : Array Value} (h : Below B W W') (hg : P.globalNamed n = some g) (hgB : g < B) (hv : W.var? P n = some cs) : W'.var? P n = some cs := by
  unfold World.var? at hv ⊢
  simp only [hg, Option.bind_some] at hv ⊢
  rw [h.block g hgB]
  exact hv
theorem cell_lt {w : World} {a : Addr} {v : Value} (h : w.cell? a = some v) : a.block < w.heap.size := by
  rcases Nat.lt_or_ge a.block w.heap.size with h1 | h1
  · exact h1
  · unfold World.cell? at h
    rw [Array.getElem?_eq_none h1] at h
    cases h
end Go.Proofs.YbulkcntwFmt
