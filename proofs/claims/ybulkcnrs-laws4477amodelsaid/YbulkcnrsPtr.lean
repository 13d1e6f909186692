import Derived.Test.YbulkcnrsRows
import Derived.LaidEqlPtr
import Derived.WalkKit
import Derived.WalkSpells
namespace Go.Proofs.Ybulkcnrs
open Go.RowKit
set_option linter.unusedVariables false
set_option linter.unusedSimpArgs false

abbrev pt (b : Nat) : Value := .pointer (some ⟨b, 0, none⟩)

/-- Block b is a row of cells, none frozen. -/
def isC (w : World) (b : Nat) : Prop := ∃ c t, w.heap[b]? = some (.cells c t (0, 0))

theorem isC_setCell (w : World) (a : Addr) (v : Value) (b : Nat) : isC (w.setCell a v) b = isC w b := by
  unfold isC
  apply propext
  simp only [World.setCell, Array.getElem?_modify]
  constructor
  · rintro ⟨c, t, h⟩
    by_cases hb : a.block = b
    · subst hb
      simp only [if_true] at h
      cases hh : w.heap[a.block]? with
      | none => simp [hh] at h
      | some x =>
        rw [hh] at h
        cases x <;> simp at h
        rename_i c' e f
        obtain ⟨h1, h2, h3⟩ := h
        subst h3
        exact ⟨_, _, rfl⟩
    · rw [if_neg hb] at h; exact ⟨c, t, h⟩
  · rintro ⟨c, t, h⟩
    by_cases hb : a.block = b
    · subst hb
      rw [if_pos rfl, h]
      exact ⟨_, _, rfl⟩
    · rw [if_neg hb]; exact ⟨c, t, h⟩

theorem isC_drew (w : World) (b : Nat) : isC w.drew b = isC w b := propext Iff.rfl

theorem isC_alloc (w : World) (o : Obj) (b : Nat) (h : b < w.heap.size) : isC (w.alloc o) b = isC w b := by
  unfold isC
  have : (w.alloc o).heap[b]? = w.heap[b]? := Below.heap_alloc w o b h
  rw [this]

theorem isC_new (w : World) (c : Array Value) (t : TypeId) (b : Nat) (h : b = w.heap.size) : isC (w.alloc (.cells c t)) b = True := by
  subst h
  refine eq_true ⟨c, t, ?_⟩
  show (w.heap.push _)[w.heap.size]? = _
  simp

theorem isC.frozen {w : World} {b : Nat} (h : isC w b) (i : Nat) : w.frozen? ⟨b, i, none⟩ = false := by
  obtain ⟨c, t, h⟩ := h
  simp [World.frozen?, h]

theorem isC.lt {w : World} {b : Nat} (h : isC w b) : b < w.heap.size := by
  obtain ⟨c, t, h⟩ := h
  exact (Array.getElem?_eq_some_iff.1 h).1

theorem equalIn_pt {P : Program} {t e : TypeId} {k : Nat} (hp : P.underlying t = some (.pointer e)) (hs : ∀ w, (sizeOf e).run P w = .ok k w) (hk : k ≠ 0) (d : Nat) (a b : Nat) (w : World) (ha : isC w a) (hb : isC w b) :
    (Op.equalIn (d + 1) t (pt a) (pt b)).run P w = .ok (decide (a = b)) w := by
  by_cases h : a = b
  · subst h
    simp [Op.equalIn, run_underlying hp, hs, run_sameAddr_same]
  · obtain ⟨c, t1, ha⟩ := ha
    obtain ⟨c', t2, hb⟩ := hb
    have := run_sameAddr_other (P := P) w (a := ⟨a, 0, none⟩) (b := ⟨b, 0, none⟩) (by simp [h]) ha hb
    simp [Op.equalIn, run_underlying hp, hs, hk, this, h]

theorem eql_pt {P : Program} {t e : TypeId} {k : Nat} (hp : P.underlying t = some (.pointer e)) (hs : ∀ w, (sizeOf e).run P w = .ok k w) (hk : k ≠ 0) (a b : Nat) (w : World) (ha : isC w a) (hb : isC w b) :
    (binOp .eql t (pt a) (pt b)).run P w = .ok (.bool (decide (a = b))) w := by
  simp only [binOp]
  simp [Op.equal, Op.maxDepth, equalIn_pt hp hs hk 9999 a b w ha hb]

theorem neq_pt {P : Program} {t e : TypeId} {k : Nat} (hp : P.underlying t = some (.pointer e)) (hs : ∀ w, (sizeOf e).run P w = .ok k w) (hk : k ≠ 0) (a b : Nat) (w : World) (ha : isC w a) (hb : isC w b) :
    (binOp .neq t (pt a) (pt b)).run P w = .ok (.bool (!decide (a = b))) w := by
  simp only [binOp]
  simp [Op.equal, Op.maxDepth, equalIn_pt hp hs hk 9999 a b w ha hb]

theorem eql51 (a b : Nat) (w : World) (ha : isC w a) (hb : isC w b) : (binOp .eql 51 (pt a) (pt b)).run Yba.prog w = .ok (.bool (decide (a = b))) w :=
  eql_pt Yba.underlying51 (fun w => Yba.sizeOf56 w) (by decide) a b w ha hb
theorem neq51 (a b : Nat) (w : World) (ha : isC w a) (hb : isC w b) : (binOp .neq 51 (pt a) (pt b)).run Yba.prog w = .ok (.bool (!decide (a = b))) w :=
  neq_pt Yba.underlying51 (fun w => Yba.sizeOf56 w) (by decide) a b w ha hb
theorem eql46 (a b : Nat) (w : World) (ha : isC w a) (hb : isC w b) : (binOp .eql 46 (pt a) (pt b)).run Yba.prog w = .ok (.bool (decide (a = b))) w :=
  eql_pt Yba.underlying46 (fun w => Yba.sizeOf67 w) (by decide) a b w ha hb
theorem neq46 (a b : Nat) (w : World) (ha : isC w a) (hb : isC w b) : (binOp .neq 46 (pt a) (pt b)).run Yba.prog w = .ok (.bool (!decide (a = b))) w :=
  neq_pt Yba.underlying46 (fun w => Yba.sizeOf67 w) (by decide) a b w ha hb
end Go.Proofs.Ybulkcnrs
