import Derived.Test.YbulkcntiRows
import Derived.WalkKit
import Derived.WalkSpells
import Derived.Lib.EndianBits
import Derived.Lib.SliceRun
import Derived.Deep.QuietTactic
import Derived.BigQuiet
import Derived.Deep.RegionHeld3
namespace Go.Proofs.Ybulkcnti
open Go.RowKit
set_option linter.unusedVariables false
set_option linter.unusedSimpArgs false

theorem i64w (n : Int) (h : -9223372036854775808 ≤ n ∧ n ≤ 9223372036854775807) : IntKind.i64.wrap n = n := by rw [IntKind.wrap_i64]; omega
theorem hid {p : Prop} (h : p) : Hid p := h

/-- Block b is a row of cells, none frozen. -/
def isC (w : World) (b : Nat) : Prop := ∃ c t, w.heap[b]? = some (.cells c t (0, 0))
theorem isC.frozen {w : World} {b : Nat} (h : isC w b) (i : Nat) : w.frozen? ⟨b, i, none⟩ = false := by
  obtain ⟨c, t, h⟩ := h
  simp [World.frozen?, h]
theorem isC.lt {w : World} {b : Nat} (h : isC w b) : b < w.heap.size := by
  obtain ⟨c, t, h⟩ := h
  exact (Array.getElem?_eq_some_iff.1 h).1
theorem isC.setCell {w : World} {b : Nat} (h : isC w b) (a : Addr) (v : Value) : isC (w.setCell a v) b := by
  obtain ⟨c, t, h⟩ := h
  by_cases hb : a.block = b
  · subst hb
    exact ⟨_, _, by simp only [World.setCell, Array.getElem?_modify, if_true, h, Option.map_some]; rfl⟩
  · exact ⟨c, t, by rw [Below.heap_setCell _ _ _ _ (Ne.symm hb)]; exact h⟩
theorem isC.of_heap {w w' : World} {b : Nat} (h : isC w b) (hh : w'.heap[b]? = w.heap[b]?) : isC w' b := by
  obtain ⟨c, t, h⟩ := h
  exact ⟨c, t, hh.trans h⟩
theorem cell_heap {w w' : World} {b i : Nat} (hh : w'.heap[b]? = w.heap[b]?) : w'.cell? ⟨b, i, none⟩ = w.cell? ⟨b, i, none⟩ := by
  unfold World.cell?
  simp only [hh]
theorem sc_ne (w : World) (b i b' j : Nat) (v : Value) (h : ¬ b = b') : (w.setCell ⟨b, i, none⟩ v).cell? ⟨b', j, none⟩ = w.cell? ⟨b', j, none⟩ :=
  World.cell?_setCell_other _ _ _ _ (by simp [h])
theorem sc_off (w : World) (b i b' j : Nat) (v : Value) (h : ¬ i = j) : (w.setCell ⟨b, i, none⟩ v).cell? ⟨b', j, none⟩ = w.cell? ⟨b', j, none⟩ :=
  World.cell?_setCell_other _ _ _ _ (by simp [h])

/-- Block b begins with these bytes. -/
structure bufAt (w : World) (b : Nat) (l : List Int) : Prop where
  ic : isC w b
  cell : ∀ i (h : i < l.length), w.cell? ⟨b, i, none⟩ = some (.int .u8 l[i])
  rng : ∀ x ∈ l, 0 ≤ x ∧ x ≤ 255

/-- Nothing but block b has turned. -/
structure Only (b : Nat) (w w' : World) : Prop where
  os : w'.os = w.os
  tape : w'.tape = w.tape
  output : w'.output = w.output
  size : w.heap.size ≤ w'.heap.size
  block : ∀ k, k < w.heap.size → ¬ k = b → w'.heap[k]? = w.heap[k]?

theorem Only.refl (b : Nat) (w : World) : Only b w w := ⟨rfl, rfl, rfl, Nat.le_refl _, fun _ _ _ => rfl⟩
theorem Only.trans {b : Nat} {u v w : World} (h : Only b u v) (k : Only b v w) : Only b u w :=
  ⟨k.os.trans h.os, k.tape.trans h.tape, k.output.trans h.output, Nat.le_trans h.size k.size, fun i hi hb => (k.block i (Nat.lt_of_lt_of_le hi h.size) hb).trans (h.block i hi hb)⟩
theorem Only.of_below {b : Nat} {w w' : World} (h : Below w.heap.size w w') : Only b w w' := ⟨h.os, h.tape, h.output, h.size, fun k hk _ => h.block k hk⟩
theorem Only.cell {b : Nat} {w w' : World} (h : Only b w w') {k i : Nat} (hk : k < w.heap.size) (hb : ¬ k = b) : w'.cell? ⟨k, i, none⟩ = w.cell? ⟨k, i, none⟩ := cell_heap (h.block k hk hb)
theorem Only.drew {b : Nat} {w w' : World} (h : Only b w w') : Only b w w'.drew := ⟨h.os, h.tape, h.output, h.size, h.block⟩
theorem Only.drewN {b : Nat} {w w' : World} (h : Only b w w') (n : Nat) : Only b w (w'.drewN n) := ⟨h.os, h.tape, h.output, h.size, h.block⟩
theorem Only.alloc {b : Nat} {w w' : World} (h : Only b w w') (o : Obj) : Only b w (w'.alloc o) :=
  h.trans ⟨rfl, rfl, rfl, by simp, fun k hk _ => Below.heap_alloc _ _ _ hk⟩
theorem Only.setCell {b : Nat} {w w' : World} (h : Only b w w') (i : Nat) (v : Value) : Only b w (w'.setCell ⟨b, i, none⟩ v) :=
  h.trans ⟨rfl, rfl, rfl, by simp, fun k hk hb => Below.heap_setCell _ _ _ _ hb⟩
theorem Only.below {b B : Nat} {w0 w w' : World} (h : Only b w w') (h0 : Below B w0 w) (hB : B ≤ w.heap.size) (hb : B ≤ b) : Below B w0 w' :=
  h0.trans ⟨h.os, h.tape, h.output, h.size, fun k hk => h.block k (by omega) (by omega)⟩

theorem _root_.Go.RowKit.Below.drewN {B : Nat} {a w : World} (h : Below B a w) (n : Nat) : Below B a (w.drewN n) := ⟨h.os, h.tape, h.output, h.size, h.block⟩

theorem bufAt.kept {w w' : World} {b : Nat} {l : List Int} (h : bufAt w b l) (hh : w'.heap[b]? = w.heap[b]?) : bufAt w' b l :=
  ⟨h.ic.of_heap hh, fun i hi => (cell_heap hh).trans (h.cell i hi), h.rng⟩
theorem bufAt.below {w w' : World} {b : Nat} {l : List Int} (h : bufAt w b l) (hh : Below w.heap.size w w') : bufAt w' b l := h.kept (hh.block _ h.ic.lt)
theorem bufAt.only {w w' : World} {b c : Nat} {l : List Int} (h : bufAt w b l) (hh : Only c w w') (hn : ¬ b = c) : bufAt w' b l := h.kept (hh.block _ h.ic.lt hn)

theorem bufAt.set {w : World} {b : Nat} {l : List Int} (h : bufAt w b l) (o : Nat) (ho : o < l.length) (v : Int) (hv : 0 ≤ v ∧ v ≤ 255) : bufAt (w.setCell ⟨b, o, none⟩ (.int .u8 v)) b (l.set o v) := by
  refine ⟨h.ic.setCell _ _, fun i hi => ?_, fun x hx => ?_⟩
  · rw [List.length_set] at hi
    by_cases he : o = i
    · subst he
      rw [World.cell?_setCell_same _ _ _ (h.cell o hi)]
      simp
    · rw [sc_off _ _ _ _ _ _ he, h.cell i hi, List.getElem_set_ne he]
  · rcases List.mem_or_eq_of_mem_set hx with h1 | h1
    · exact h.rng x h1
    · rw [h1]; exact hv

def hi8 (v : Int) : Int := v / 256
def lo8 (v : Int) : Int := v % 256
def put (l : List Int) (o : Nat) (v : Int) : List Int := (l.set o (hi8 v)).set (o + 1) (lo8 v)
def get2 (l : List Int) (o : Nat) : Int := l.getD o 0 * 256 + l.getD (o + 1) 0

theorem put_length (l : List Int) (o : Nat) (v : Int) : (put l o v).length = l.length := by simp [put]

theorem bufAt.put {w : World} {b : Nat} {l : List Int} (h : bufAt w b l) (o : Nat) (ho : o + 1 < l.length) (v : Int) (hv : 0 ≤ v ∧ v ≤ 65535) :
    bufAt ((w.setCell ⟨b, o, none⟩ (.int .u8 (hi8 v))).setCell ⟨b, o + 1, none⟩ (.int .u8 (lo8 v))) b (put l o v) :=
  (h.set o (by omega) (hi8 v) (by unfold hi8; omega)).set (o + 1) (by simpa using ho) (lo8 v) (by unfold lo8; omega)

/-! encoding/binary -/
set_option maxHeartbeats 800000 in
theorem PutUint16_any (b o m c : Nat) (v : Int) (x0 x1 : Value) (w : World) (hm : 2 ≤ m) (hv0 : 0 ≤ v) (hv1 : v ≤ 65535) (ic : isC w b)
    (c0 : w.cell? ⟨b, o, none⟩ = some x0) (c1 : w.cell? ⟨b, o + 1, none⟩ = some x1) :
    Calls Yba.prog 21 #[.agg #[], .slice (some ⟨b, o, none⟩) m c, .int .u16 v] w fun e w' => e = .returned (.tuple #[]) ∧
      w' = ((w.setCell ⟨b, o, none⟩ (.int .u8 (hi8 v))).setCell ⟨b, o + 1, none⟩ (.int .u8 (lo8 v))).alloc (.cells #[] 42) := by
  have z := ic.frozen
  have bl := ic.lt
  have hm0 : 0 < m := by omega
  have hm1 : (1 : Int) < (m : Int) := by omega
  go_enter Yba.func21, Yba.ntmps21
  go_wp2
  go_end0
  exact ⟨rfl, rfl⟩

set_option maxHeartbeats 800000 in
theorem Uint16_any (b o m c : Nat) (x0 x1 : Int) (w : World) (hm : 2 ≤ m) (h00 : 0 ≤ x0) (h01 : x0 ≤ 255) (h10 : 0 ≤ x1) (h11 : x1 ≤ 255)
    (c0 : w.cell? ⟨b, o, none⟩ = some (.int .u8 x0)) (c1 : w.cell? ⟨b, o + 1, none⟩ = some (.int .u8 x1)) :
    Calls Yba.prog 26 #[.agg #[], .slice (some ⟨b, o, none⟩) m c] w fun e w' => e = .returned (.int .u16 (x0 * 256 + x1)) ∧ Below w.heap.size w w' := by
  have hm0 : 0 < m := by omega
  have hm1 : (1 : Int) < (m : Int) := by omega
  have bl : b < w.heap.size := World.block_lt_of_cell? w _ c0
  have hor : bits .or .u16 x1 (x0 * 256) = x0 * 256 + x1 := by rw [u16_or8 x1 (x0 * 256) h10 (by omega) (by omega) (by omega) (by omega)]; omega
  have HO := hid hor
  clear hor
  go_enter Yba.func26, Yba.ntmps26
  go_wp2
  go_quiet (fail)
  go_wp2
  go_ret
  rw [← HO.out]
  exact ⟨rfl, (Below.refl _ _).alloc (Nat.le_refl _) _ |>.drewN nq⟩

/-- The node over block b. -/
abbrev nd (b n cap : Nat) : Value := .agg #[.slice (some ⟨b, 0, none⟩) n cap]

/-- What stands while a method reads: its boxed receiver, and the page. -/
structure RS (w0 : World) (bx b n cap : Nat) (l : List Int) (w : World) : Prop where
  box : w.cell? ⟨bx, 0, none⟩ = some (.slice (some ⟨b, 0, none⟩) n cap)
  buf : bufAt w b l
  below : Below w0.heap.size w0 w
  blt : bx < w.heap.size

theorem RS.drew {w0 w : World} {bx b n cap : Nat} {l : List Int} (h : RS w0 bx b n cap l w) : RS w0 bx b n cap l w.drew := ⟨h.box, h.buf.kept rfl, h.below.drew, h.blt⟩
theorem RS.step {w0 w w' : World} {bx b n cap : Nat} {l : List Int} (h : RS w0 bx b n cap l w) (hb : Below w.heap.size w w') : RS w0 bx b n cap l w' :=
  ⟨(cell_heap (hb.block bx h.blt)).trans h.box, h.buf.below hb, h.below.trans (hb.mono h.below.size), Nat.lt_of_lt_of_le h.blt hb.size⟩
theorem RS.both {w0 w : World} {bx b n cap : Nat} {l : List Int} (h : RS w0 bx b n cap l w) : w.cell? ⟨bx, 0, none⟩ = some (.slice (some ⟨b, 0, none⟩) n cap) ∧ RS w0 bx b n cap l w := ⟨h.box, h⟩
theorem RS.bothDrew {w0 w : World} {bx b n cap : Nat} {l : List Int} (h : RS w0 bx b n cap l w) : w.drew.cell? ⟨bx, 0, none⟩ = some (.slice (some ⟨b, 0, none⟩) n cap) ∧ RS w0 bx b n cap l w.drew := h.drew.both
theorem RS.bothStep {w0 w w' : World} {bx b n cap : Nat} {l : List Int} (h : w.cell? ⟨bx, 0, none⟩ = some (.slice (some ⟨b, 0, none⟩) n cap) ∧ RS w0 bx b n cap l w) (hb : Below w.heap.size w w') : w'.cell? ⟨bx, 0, none⟩ = some (.slice (some ⟨b, 0, none⟩) n cap) ∧ RS w0 bx b n cap l w' := (h.2.step hb).both
theorem RS.start {w : World} {b n cap : Nat} {l : List Int} (h : bufAt w b l) : RS w w.heap.size b n cap l (w.alloc (.cells #[.slice (some ⟨b, 0, none⟩) n cap] 25)) :=
  ⟨by rw [World.cell?_alloc_new]; rfl, h.kept (Below.heap_alloc _ _ _ h.ic.lt), (Below.refl _ _).alloc (Nat.le_refl _) _, by simp⟩

set_option maxHeartbeats 1600000 in
theorem u16_any (b n cap o : Nat) (x : Int) (l : List Int) (w : World) (hx : x = o) (hb : bufAt w b l) (hn : n = l.length) (hc : n ≤ cap) (hcm : cap ≤ 9223372036854775807) (ho : o + 1 < n) :
    Calls Yba.prog 14 #[nd b n cap, .int .i64 x] w fun e w' => e = .returned (.int .i64 (get2 l o)) ∧ Below w.heap.size w w' := by
  subst hx
  have h0 : o < l.length := by omega
  have h1 : o + 1 < l.length := by omega
  have r0 := hb.rng l[o] (List.getElem_mem h0)
  have r1 := hb.rng l[o + 1] (List.getElem_mem h1)
  have hg : get2 l o = l[o] * 256 + l[o + 1] := by simp [get2, h0, h1]
  rw [hg]
  have hRS := RS.start (n := n) (cap := cap) hb
  have hcall : ∀ W, (W.cell? ⟨w.heap.size, 0, none⟩ = some (.slice (some ⟨b, 0, none⟩) n cap) ∧ RS w w.heap.size b n cap l W) → Calls Yba.prog 26 #[.agg #[], .slice (some ⟨b, o, none⟩) (n - o) (cap - o)] W fun e w' => e = .returned (.int .u16 (l[o] * 256 + l[o + 1])) ∧ Below W.heap.size W w' :=
    fun W h => Uint16_any b o (n - o) (cap - o) l[o] l[o + 1] W (by omega) r0.1 r0.2 r1.1 r1.2 (h.2.buf.cell o h0) (h.2.buf.cell (o + 1) h1)
  have HC := hid hcall
  generalize l[o] = y0 at *
  generalize l[o + 1] = y1 at *
  have hne : ¬ cap = o := by omega
  have hoc : (o : Int) ≤ (n : Int) := by omega
  have hncap : (n : Int) ≤ (cap : Int) := by omega
  have r00 := r0.1
  have r01 := r0.2
  have r10 := r1.1
  have r11 := r1.2
  clear hcall hg hn h0 h1
  go_enter Yba.func14, Yba.ntmps14
  go_wp2
  go_region_held3 (fun w' => w'.cell? ⟨w.heap.size, 0, none⟩ = some (.slice (some ⟨b, 0, none⟩) n cap) ∧ RS w w.heap.size b n cap l w') (first | (refine RS.bothDrew ?_; assumption) | (refine RS.bothStep ?_ hb'; assumption)) (first | (go_at_call 26; refine Calls.mono (HC.out _ ?_) ?_; assumption; rintro e w' ⟨rfl, hb'⟩))
  rename_i hHeld
  go_wp2
  go_ret
  rw [i64w (y0 * 256 + y1) (by omega)]
  exact ⟨rfl, hHeld.2.below⟩
end Go.Proofs.Ybulkcnti
