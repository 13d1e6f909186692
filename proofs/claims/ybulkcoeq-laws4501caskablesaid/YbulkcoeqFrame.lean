import Derived.Test.YbulkcoeqPlain
import Derived.WalkKit
import Derived.WalkSpells
import Derived.Below
import Derived.Deep.QuietTactic
import Derived.BigQuiet
import Derived.Deep.RegionHeld3
import Derived.Deep.DeepCutAuto
import Derived.Deep.Cut
import Derived.Deep.CutRange
namespace Go.Proofs.Ybulkcoeq
open Go.RowKit
set_option linter.unusedVariables false
set_option linter.unusedSimpArgs false

theorem i64w (n : Int) (h : -9223372036854775808 ≤ n ∧ n ≤ 9223372036854775807) : IntKind.i64.wrap n = n := by rw [IntKind.wrap_i64]; omega
theorem hid {p : Prop} (h : p) : Hid p := h

/-- Block b is a row of cells, none frozen. -/
def isC (w : World) (b : Nat) : Prop := ∃ c t, w.heap[b]? = some (.cells c t (0, 0))
theorem isC.frozen {w : World} {b : Nat} (h : isC w b) (i : Nat) : w.frozen? ⟨b, i, none⟩ = false := by
  obtain ⟨c, t, h⟩ := h
  simp [World.frozen?, h]
theorem isC.lt {w : World} {b : Nat} (h : isC w b) : b < w.heap.size := by
  obtain ⟨c, t, h⟩ := h
  exact (Array.getElem?_eq_some_iff.1 h).1
theorem isC.setCell {w : World} {b : Nat} (h : isC w b) (a : Addr) (v : Value) : isC (w.setCell a v) b := by
  obtain ⟨c, t, h⟩ := h
  by_cases hb : a.block = b
  · subst hb
    exact ⟨_, _, by simp only [World.setCell, Array.getElem?_modify, if_true, h, Option.map_some]; rfl⟩
  · exact ⟨c, t, by rw [Below.heap_setCell _ _ _ _ (Ne.symm hb)]; exact h⟩
theorem isC.of_heap {w w' : World} {b : Nat} (h : isC w b) (hh : w'.heap[b]? = w.heap[b]?) : isC w' b := by
  obtain ⟨c, t, h⟩ := h
  exact ⟨c, t, hh.trans h⟩
theorem cell_heap {w w' : World} {b i : Nat} (hh : w'.heap[b]? = w.heap[b]?) : w'.cell? ⟨b, i, none⟩ = w.cell? ⟨b, i, none⟩ := by
  unfold World.cell?
  simp only [hh]
theorem sc_ne (w : World) (b i b' j : Nat) (v : Value) (h : ¬ b = b') : (w.setCell ⟨b, i, none⟩ v).cell? ⟨b', j, none⟩ = w.cell? ⟨b', j, none⟩ :=
  World.cell?_setCell_other _ _ _ _ (by simp [h])
theorem sc_off (w : World) (b i b' j : Nat) (v : Value) (h : ¬ i = j) : (w.setCell ⟨b, i, none⟩ v).cell? ⟨b', j, none⟩ = w.cell? ⟨b', j, none⟩ :=
  World.cell?_setCell_other _ _ _ _ (by simp [h])

/-- Nothing but block b has turned. -/
structure Only (b : Nat) (w w' : World) : Prop where
  os : w'.os = w.os
  tape : w'.tape = w.tape
  output : w'.output = w.output
  size : w.heap.size ≤ w'.heap.size
  block : ∀ k, k < w.heap.size → ¬ k = b → w'.heap[k]? = w.heap[k]?
theorem Only.refl (b : Nat) (w : World) : Only b w w := ⟨rfl, rfl, rfl, Nat.le_refl _, fun _ _ _ => rfl⟩
theorem Only.trans {b : Nat} {u v w : World} (h : Only b u v) (k : Only b v w) : Only b u w :=
  ⟨k.os.trans h.os, k.tape.trans h.tape, k.output.trans h.output, Nat.le_trans h.size k.size, fun i hi hb => (k.block i (Nat.lt_of_lt_of_le hi h.size) hb).trans (h.block i hi hb)⟩
theorem Only.of_below {b : Nat} {w w' : World} (h : Below w.heap.size w w') : Only b w w' := ⟨h.os, h.tape, h.output, h.size, fun k hk _ => h.block k hk⟩
theorem Only.cell {b : Nat} {w w' : World} (h : Only b w w') {k i : Nat} (hk : k < w.heap.size) (hb : ¬ k = b) : w'.cell? ⟨k, i, none⟩ = w.cell? ⟨k, i, none⟩ := cell_heap (h.block k hk hb)
theorem Only.alloc {b : Nat} {w w' : World} (h : Only b w w') (o : Obj) : Only b w (w'.alloc o) :=
  h.trans ⟨rfl, rfl, rfl, by simp, fun k hk _ => Below.heap_alloc _ _ _ hk⟩
theorem Only.setCell {b : Nat} {w w' : World} (h : Only b w w') (i : Nat) (v : Value) : Only b w (w'.setCell ⟨b, i, none⟩ v) :=
  h.trans ⟨rfl, rfl, rfl, by simp, fun k hk hb => Below.heap_setCell _ _ _ _ hb⟩
theorem Only.below {b B : Nat} {w0 w w' : World} (h : Only b w w') (h0 : Below B w0 w) (hB : B ≤ w.heap.size) (hb : B ≤ b) : Below B w0 w' :=
  h0.trans ⟨h.os, h.tape, h.output, h.size, fun k hk => h.block k (by omega) (by omega)⟩

/-- The row that is sorted: block blk holds enc (d k) at k. -/
structure Row (w0 : World) (blk n : Nat) (enc : Nat → Value) (d : Nat → Nat) (v : World) : Prop where
  only : Only blk w0 v
  ic : isC v blk
  row : ∀ k, k < n → v.cell? ⟨blk, k, none⟩ = some (enc (d k))
  rng : ∀ k, k < n → d k < n
section
variable {w0 v v' : World} {blk n : Nat} {enc : Nat → Value} {d : Nat → Nat}
theorem Row.read (h : Row w0 blk n enc d v) (hb : Below v.heap.size v v') : Row w0 blk n enc d v' :=
  ⟨h.only.trans (Only.of_below hb), h.ic.of_heap (hb.block _ h.ic.lt), fun k hk => (cell_heap (hb.block _ h.ic.lt)).trans (h.row k hk), h.rng⟩
theorem Row.alloc (h : Row w0 blk n enc d v) (o : Obj) : Row w0 blk n enc d (v.alloc o) := h.read ((Below.refl _ _).alloc (Nat.le_refl _) o)
theorem Row.swap (h : Row w0 blk n enc d v) {i j : Nat} (hi : i < n) (hj : j < n) : Row w0 blk n enc (sw d i j) ((v.setCell ⟨blk, i, none⟩ (enc (d j))).setCell ⟨blk, j, none⟩ (enc (d i))) := by
  refine ⟨(h.only.setCell _ _).setCell _ _, (h.ic.setCell _ _).setCell _ _, fun k hk => ?_, fun k hk => by rw [sw_tau]; exact h.rng _ (tau_lt hi hj hk)⟩
  have e1 : (v.setCell ⟨blk, i, none⟩ (enc (d j))).cell? ⟨blk, j, none⟩ = some (if j = i then enc (d j) else enc (d j)) := by
    by_cases hji : j = i
    · subst hji; rw [if_pos rfl]; exact World.cell?_setCell_same _ _ _ (h.row j hj)
    · rw [if_neg hji, sc_off _ _ _ _ _ _ (fun e => hji e.symm)]; exact h.row j hj
  unfold sw
  by_cases h2 : k = j
  · subst h2
    rw [World.cell?_setCell_same _ _ _ e1]
    by_cases h1 : k = i
    · subst h1; rw [if_pos rfl]
    · rw [if_neg h1, if_pos rfl]
  · rw [sc_off _ _ _ _ _ _ (fun e => h2 e.symm)]
    by_cases h1 : k = i
    · subst h1; rw [if_pos rfl]; exact World.cell?_setCell_same _ _ _ (h.row k hk)
    · rw [if_neg h1, if_neg h2, sc_off _ _ _ _ _ _ (fun e => h1 e.symm)]; exact h.row k hk
theorem Row.swapped (h : Row w0 blk n enc d v) (i j : Nat) : Only blk v ((v.setCell ⟨blk, i, none⟩ (enc (d j))).setCell ⟨blk, j, none⟩ (enc (d i))) :=
  ((Only.refl _ _).setCell _ _).setCell _ _
end

/-- What the sort is handed: a comparison that reads, a swap that swaps. -/
structure Env (w0 : World) (blk n : Nat) (enc : Nat → Value) (h : Nat → Int) (sf : Nat) (l0 l1 s0 s1 : Value) : Prop where
  blt : blk < w0.heap.size
  small : n ≤ 2000
  less : ∀ (d : Nat → Nat) (v : World) (x y : Int) (i j : Nat), x = (i : Int) → y = (j : Int) → Row w0 blk n enc d v → i < n → j < n →
    Calls Yba.prog 8 #[.int .i64 x, .int .i64 y, l0, l1] v fun e w' => e = .returned (.bool (decide (h (d j) < h (d i)))) ∧ Below v.heap.size v w'
  swap : ∀ (d : Nat → Nat) (v : World) (x y : Int) (i j : Nat), x = (i : Int) → y = (j : Int) → Row w0 blk n enc d v → i < n → j < n →
    (callFunc sf #[.int .i64 x, .int .i64 y, s0, s1]).run Yba.prog v = .ok (.value (.tuple #[])) ((v.setCell ⟨blk, i, none⟩ (enc (d j))).setCell ⟨blk, j, none⟩ (enc (d i)))

abbrev dat (sf : Nat) (l0 l1 s0 s1 : Value) : Value := .agg #[.func (.func 8) #[] #[l0, l1], .func (.func sf) #[] #[s0, s1]]
abbrev boxed (sf : Nat) (l0 l1 s0 s1 : Value) : Obj := .cells #[.func (.func 8) #[] #[l0, l1], .func (.func sf) #[] #[s0, s1]] 74

theorem box_cells (sf : Nat) (l0 l1 s0 s1 : Value) (W v : World) (blk : Nat) (hb : blk < W.heap.size) (h : Only blk (W.alloc (boxed sf l0 l1 s0 s1)) v) :
    v.cell? ⟨W.heap.size, 0, none⟩ = some (.func (.func 8) #[] #[l0, l1]) ∧ v.cell? ⟨W.heap.size, 1, none⟩ = some (.func (.func sf) #[] #[s0, s1]) := by
  have e : ∀ i, v.cell? ⟨W.heap.size, i, none⟩ = (W.alloc (boxed sf l0 l1 s0 s1)).cell? ⟨W.heap.size, i, none⟩ := fun i => h.cell (by simp) (by omega)
  constructor
  · rw [e, World.cell?_alloc_at (hn := by simp)]; rfl
  · rw [e, World.cell?_alloc_at (hn := by simp)]; rfl

set_option maxRecDepth 100000 in
set_option maxHeartbeats 4000000 in
theorem swapRange_any {w0 : World} {blk n : Nat} {enc : Nat → Value} {h : Nat → Int} {sf : Nat} {l0 l1 s0 s1 : Value} (E : Env w0 blk n enc h sf l0 l1 s0 s1) (a b m : Nat) (hab : a + m ≤ b) (hb : b + m ≤ n) (d : Nat → Nat) (W : World) (hR : Row w0 blk n enc d W) :
    Calls Yba.prog 27 #[dat sf l0 l1 s0 s1, .int .i64 (a : Int), .int .i64 (b : Int), .int .i64 (m : Int)] W fun e w' => e = .returned (.tuple #[]) ∧ Row w0 blk n enc (fun k => d (swI a b m k)) w' ∧ Only blk W w' := by
  have hblt := hR.ic.lt
  have HE := hid E
  have hsm := E.small
  have HR := hid hR
  clear E hR
  have hd0 : (fun k => d (swI a b 0 k)) = d := by funext k; unfold swI; rw [if_neg (by omega), if_neg (by omega)]
  have HD0 := hid hd0
  clear hd0
  go_enter Yba.func27, Yba.ntmps27
  go_wp2_with fail
  go_loopw [8] (fun s8 v => ∃ i : Nat, s8 = .int .i64 (i : Int) ∧ i ≤ m ∧ Row w0 blk n enc (fun k => d (swI a b i k)) v ∧ Only blk (W.alloc (boxed sf l0 l1 s0 s1)) v) (fun s8 _ => m - (intOf s8).toNat)
  case atStart => exact ⟨0, rfl, Nat.zero_le _, by rw [HD0.out]; exact HR.out.alloc _, Only.refl _ _⟩
  case round =>
    obtain ⟨i, rfl, hi, hRow, hOn⟩ := hrel
    by_cases hlt : i < m
    · have hdl : decide ((i : Int) < (m : Int)) = true := by simp; omega
      obtain ⟨b0, b1⟩ := box_cells sf l0 l1 s0 s1 W wr blk hblt hOn
      have hswap := HE.out.swap _ wr ((a : Int) + (i : Int)) ((b : Int) + (i : Int)) (a + i) (b + i) (by omega) (by omega) hRow (by omega) (by omega)
      have HR2 := hid (hRow.swap (i := a + i) (j := b + i) (by omega) (by omega))
      have HO2 := hid (hOn.trans (hRow.swapped (a + i) (b + i)))
      obtain ⟨wn, hwn⟩ : ∃ wn, wn = ((wr.setCell ⟨blk, a + i, none⟩ (enc ((fun k => d (swI a b i k)) (b + i)))).setCell ⟨blk, b + i, none⟩ (enc ((fun k => d (swI a b i k)) (a + i)))) := ⟨_, rfl⟩
      rw [← hwn] at hswap HR2 HO2
      rw [swI_succ d a b i (by omega)] at HR2
      clear hwn hRow hOn b0
      go_wp2
      refine ⟨⟨i + 1, congrArg _ (by omega), by omega, HR2.out, HO2.out⟩, ?_⟩
      show m - ((i : Int) + 1).toNat < m - ((i : Int)).toNat
      omega
    · have hdl : decide ((i : Int) < (m : Int)) = false := by simp; omega
      obtain rfl : m = i := by omega
      have HRow := hid hRow
      have HOn := hid hOn
      clear hRow hOn
      go_wp2
      go_end0
      exact ⟨rfl, HRow.out, ((Only.refl _ _).alloc _).trans HOn.out⟩
end Go.Proofs.Ybulkcoeq
