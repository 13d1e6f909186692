import Derived.Test.YbulkcntwDoorPlain
import Derived.WalkKit
import Derived.WalkSpells
import Derived.Below
import Derived.Deep.QuietTactic
import Derived.BigQuiet
import Derived.Deep.RegionHeld3
import Derived.Deep.DeepCutAuto
import Derived.Deep.Cut
import Derived.Deep.CutRange
import Derived.Laws.AppendOwn
import Derived.Laws.OwnMore
import Derived.OwnWalk
namespace Go.Proofs.YbulkcntwDoor
open Go.RowKit
set_option linter.unusedVariables false
set_option linter.unusedSimpArgs false

theorem i64w (n : Int) (h : -9223372036854775808 ≤ n ∧ n ≤ 9223372036854775807) : IntKind.i64.wrap n = n := by rw [IntKind.wrap_i64]; omega
/-- Block b is a row of cells, none frozen. -/
def isC (w : World) (b : Nat) : Prop := ∃ c t, w.heap[b]? = some (.cells c t (0, 0))
theorem isC.frozen {w : World} {b : Nat} (h : isC w b) (i : Nat) : w.frozen? ⟨b, i, none⟩ = false := by
  obtain ⟨c, t, h⟩ := h
  simp [World.frozen?, h]
theorem isC.lt {w : World} {b : Nat} (h : isC w b) : b < w.heap.size := by
  obtain ⟨c, t, h⟩ := h
  exact (Array.getElem?_eq_some_iff.1 h).1
theorem isC.setCell {w : World} {b : Nat} (h : isC w b) (a : Addr) (v : Value) : isC (w.setCell a v) b := by
  obtain ⟨c, t, h⟩ := h
  by_cases hb : a.block = b
  · subst hb
    exact ⟨_, _, by simp only [World.setCell, Array.getElem?_modify, if_true, h, Option.map_some]; rfl⟩
  · exact ⟨c, t, by rw [Below.heap_setCell _ _ _ _ (Ne.symm hb)]; exact h⟩
theorem isC.of_heap {w w' : World} {b : Nat} (h : isC w b) (hh : w'.heap[b]? = w.heap[b]?) : isC w' b := by
  obtain ⟨c, t, h⟩ := h
  exact ⟨c, t, hh.trans h⟩
theorem cell_heap {w w' : World} {b i : Nat} (hh : w'.heap[b]? = w.heap[b]?) : w'.cell? ⟨b, i, none⟩ = w.cell? ⟨b, i, none⟩ := by
  unfold World.cell?
  simp only [hh]
theorem sc_ne (w : World) (b i b' j : Nat) (v : Value) (h : ¬ b = b') : (w.setCell ⟨b, i, none⟩ v).cell? ⟨b', j, none⟩ = w.cell? ⟨b', j, none⟩ :=
  World.cell?_setCell_other _ _ _ _ (by simp [h])
theorem sc_off (w : World) (b i b' j : Nat) (v : Value) (h : ¬ i = j) : (w.setCell ⟨b, i, none⟩ v).cell? ⟨b', j, none⟩ = w.cell? ⟨b', j, none⟩ :=
  World.cell?_setCell_other _ _ _ _ (by simp [h])

/-- Nothing but block b has turned. -/
structure Only (b : Nat) (w w' : World) : Prop where
  os : w'.os = w.os
  tape : w'.tape = w.tape
  output : w'.output = w.output
  size : w.heap.size ≤ w'.heap.size
  block : ∀ k, k < w.heap.size → ¬ k = b → w'.heap[k]? = w.heap[k]?
theorem Only.refl (b : Nat) (w : World) : Only b w w := ⟨rfl, rfl, rfl, Nat.le_refl _, fun _ _ _ => rfl⟩
theorem Only.trans {b : Nat} {u v w : World} (h : Only b u v) (k : Only b v w) : Only b u w :=
  ⟨k.os.trans h.os, k.tape.trans h.tape, k.output.trans h.output, Nat.le_trans h.size k.size, fun i hi hb => (k.block i (Nat.lt_of_lt_of_le hi h.size) hb).trans (h.block i hi hb)⟩
theorem Only.of_below {b : Nat} {w w' : World} (h : Below w.heap.size w w') : Only b w w' := ⟨h.os, h.tape, h.output, h.size, fun k hk _ => h.block k hk⟩
theorem Only.cell {b : Nat} {w w' : World} (h : Only b w w') {k i : Nat} (hk : k < w.heap.size) (hb : ¬ k = b) : w'.cell? ⟨k, i, none⟩ = w.cell? ⟨k, i, none⟩ := cell_heap (h.block k hk hb)
theorem Only.drew {b : Nat} {w w' : World} (h : Only b w w') : Only b w w'.drew := ⟨h.os, h.tape, h.output, h.size, h.block⟩
theorem Only.alloc {b : Nat} {w w' : World} (h : Only b w w') (o : Obj) : Only b w (w'.alloc o) :=
  h.trans ⟨rfl, rfl, rfl, by simp, fun k hk _ => Below.heap_alloc _ _ _ hk⟩
theorem Only.setCell {b : Nat} {w w' : World} (h : Only b w w') (i : Nat) (v : Value) : Only b w (w'.setCell ⟨b, i, none⟩ v) :=
  h.trans ⟨rfl, rfl, rfl, by simp, fun k hk hb => Below.heap_setCell _ _ _ _ hb⟩
theorem Only.below {b B : Nat} {w0 w w' : World} (h : Only b w w') (h0 : Below B w0 w) (hB : B ≤ w.heap.size) (hb : B ≤ b) : Below B w0 w' :=
  h0.trans ⟨h.os, h.tape, h.output, h.size, fun k hk => h.block k (by omega) (by omega)⟩
theorem Only.grown {b : Nat} {w w' : World} {r : Option Nat} (h : w.grownBy w' r) (hr : ∀ k, r = some k → k = b) : Only b w w' :=
  ⟨h.os, h.tape, h.output, h.size, fun k hk hb => h.block k hk (fun e => hb (hr k e.symm))⟩

/-! ### Rows of structs -/
/-- A contact. -/
structure C where
  hi : Nat
  lo : Nat
  ad : ByteArray
instance : Inhabited C := ⟨⟨0, 0, ⟨#[]⟩⟩⟩
def C.ok (c : C) : Prop := c.hi < M ∧ c.lo < M
abbrev C.enc (c : C) : List Value := [.int .u64 (c.hi : Int), .int .u64 (c.lo : Int), .string c.ad]
abbrev C.val (c : C) : Value := .agg #[.int .u64 (c.hi : Int), .int .u64 (c.lo : Int), .string c.ad]
def encs (d : List C) : List Value := d.flatMap C.enc
theorem encs_length (d : List C) : (encs d).length = d.length * 3 := by
  induction d with
  | nil => rfl
  | cons a d ih => simp only [encs, List.flatMap_cons, List.length_append, List.length_cons, List.length_nil] at *; omega
theorem encs_append (a b : List C) : encs (a ++ b) = encs a ++ encs b := by simp [encs]
theorem encs_get (d : List C) (i : Nat) (h : i < d.length) : (encs d)[i * 3]? = some (.int .u64 (d[i].hi : Int)) ∧ (encs d)[i * 3 + 1]? = some (.int .u64 (d[i].lo : Int)) ∧ (encs d)[i * 3 + 2]? = some (.string d[i].ad) := by
  induction d generalizing i with
  | nil => exact absurd h (by simp)
  | cons a d ih =>
    cases i with
    | zero => exact ⟨rfl, rfl, rfl⟩
    | succ i =>
      have := ih i (by simpa using h)
      simp only [encs, List.flatMap_cons, List.getElem_cons_succ] at *
      have e : ∀ r, (C.enc a ++ List.flatMap C.enc d)[(i + 1) * 3 + r]? = (List.flatMap C.enc d)[i * 3 + r]? := fun r => by
        rw [List.getElem?_append_right (by simp [C.enc]; omega)]
        congr 1
        simp [C.enc]; omega
      exact ⟨(e 0).trans this.1, (e 1).trans this.2.1, (e 2).trans this.2.2⟩
theorem encs_one (d : List C) : ∀ u ∈ encs d, u.oneCell' = true := by
  intro u hu
  simp only [encs, List.mem_flatMap] at hu
  obtain ⟨c, _, hc⟩ := hu
  simp [C.enc] at hc
  rcases hc with rfl | rfl | rfl <;> rfl

/-- Block g holds the contacts d. -/
structure Row (g : Nat) (d : List C) (v : World) : Prop where
  ic : isC v g
  row : ∀ k (h : k < d.length), v.cell? ⟨g, k * 3, none⟩ = some (.int .u64 (d[k].hi : Int)) ∧ v.cell? ⟨g, k * 3 + 1, none⟩ = some (.int .u64 (d[k].lo : Int)) ∧ v.cell? ⟨g, k * 3 + 2, none⟩ = some (.string d[k].ad)
theorem Row.of_heap {g : Nat} {d : List C} {v v' : World} (h : Row g d v) (hh : v'.heap[g]? = v.heap[g]?) : Row g d v' :=
  ⟨h.ic.of_heap hh, fun k hk => by rw [cell_heap hh, cell_heap hh, cell_heap hh]; exact h.row k hk⟩
theorem Row.read {g : Nat} {d : List C} {v v' : World} (h : Row g d v) (hb : Below v.heap.size v v') : Row g d v' := h.of_heap (hb.block _ h.ic.lt)
theorem Row.below {g B : Nat} {d : List C} {v v' : World} (h : Row g d v) (hb : Below B v v') (hg : g < B) : Row g d v' := h.of_heap (hb.block _ hg)
theorem Row.alloc {g : Nat} {d : List C} {v : World} (h : Row g d v) (o : Obj) : Row g d (v.alloc o) := h.read ((Below.refl _ _).alloc (Nat.le_refl _) o)
theorem Row.drew {g : Nat} {d : List C} {v : World} (h : Row g d v) : Row g d v.drew := h.of_heap rfl
theorem Row.only {g b : Nat} {d : List C} {v v' : World} (h : Row g d v) (ho : Only b v v') (hb : ¬ g = b) : Row g d v' := h.of_heap (ho.block _ h.ic.lt hb)
theorem Row.of_own {base g n cap : Nat} {d : List C} {v : World} (h : v.ownsRow base 43 3 (.slice (some ⟨g, 0, none⟩) n cap) n (encs d)) : Row g d v ∧ n = d.length ∧ base ≤ g ∧ n ≤ cap ∧ cap ≤ 9223372036854775807 := by
  have hl : n = d.length := by have := h.1; rw [encs_length] at this; omega
  rcases h.2 with ⟨h', _⟩ | ⟨g', cap', cur, h', hb, hg, hnc, hcm, hcs, htake⟩
  · cases h'
  · cases h'
    refine ⟨⟨⟨_, _, hg⟩, fun k hk => ?_⟩, hl, hb, hnc, hcm⟩
    have e := encs_get d k hk
    rw [h.cellAt _ (by omega), h.cellAt _ (by omega), h.cellAt _ (by omega)]
    exact e
/-- One contact laid. -/
theorem Row.set {g : Nat} {d : List C} {v : World} (h : Row g d v) (k : Nat) (c : C) (hk : k < d.length) : Row g (d.set k c) (((v.setCell ⟨g, k * 3, none⟩ (.int .u64 (c.hi : Int))).setCell ⟨g, k * 3 + 1, none⟩ (.int .u64 (c.lo : Int))).setCell ⟨g, k * 3 + 2, none⟩ (.string c.ad)) := by
  refine ⟨((h.ic.setCell _ _).setCell _ _).setCell _ _, fun j hj => ?_⟩
  have hj' : j < d.length := by simpa using hj
  have r := h.row j hj'
  by_cases e : k = j
  · subst e
    simp only [List.getElem_set_self]
    refine ⟨?_, ?_, ?_⟩
    · rw [sc_off _ _ _ _ _ _ (by omega), sc_off _ _ _ _ _ _ (by omega)]
      exact World.cell?_setCell_same _ _ _ r.1
    · rw [sc_off _ _ _ _ _ _ (by omega)]
      exact World.cell?_setCell_same _ _ _ ((sc_off _ _ _ _ _ _ (by omega)).trans r.2.1)
    · exact World.cell?_setCell_same _ _ _ (((sc_off _ _ _ _ _ _ (by omega)).trans (sc_off _ _ _ _ _ _ (by omega))).trans r.2.2)
  · simp only [List.getElem_set_ne e]
    refine ⟨?_, ?_, ?_⟩ <;> rw [sc_off _ _ _ _ _ _ (by omega), sc_off _ _ _ _ _ _ (by omega), sc_off _ _ _ _ _ _ (by omega)]
    · exact r.1
    · exact r.2.1
    · exact r.2.2
end Go.Proofs.YbulkcntwDoor
