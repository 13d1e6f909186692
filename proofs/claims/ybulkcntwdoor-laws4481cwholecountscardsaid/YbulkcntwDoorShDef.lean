import Derived.Test.YbulkcntwDoorShare
import Derived.Test.YbulkcntwDoorCompact
import Derived.Test.YbulkcntwDoorOwn
namespace Go.Proofs.YbulkcntwDoor
open Go.RowKit Go.Sort
set_option linter.unusedVariables false
set_option linter.unusedSimpArgs false

/-- A share. -/
structure Sh where
  c : C
  fh : Nat
  fl : Nat
  lh : Nat
  ll : Nat
instance : Inhabited Sh := ⟨⟨default, 0, 0, 0, 0⟩⟩
abbrev Sh.enc (s : Sh) : List Value := [.int .u64 (s.c.hi : Int), .int .u64 (s.c.lo : Int), .string s.c.ad, .int .u64 (s.fh : Int), .int .u64 (s.fl : Int), .int .u64 (s.lh : Int), .int .u64 (s.ll : Int)]
def encsS (d : List Sh) : List Value := d.flatMap Sh.enc
theorem encsS_length (d : List Sh) : (encsS d).length = d.length * 7 := by
  induction d with
  | nil => rfl
  | cons a d ih => simp only [encsS, List.flatMap_cons, List.length_append, List.length_cons, List.length_nil] at *; omega
theorem encsS_append (a b : List Sh) : encsS (a ++ b) = encsS a ++ encsS b := by simp [encsS]
theorem encsS_get (d : List Sh) (i r : Nat) (h : i < d.length) (hr : r < 7) : (encsS d)[i * 7 + r]? = (Sh.enc d[i]!)[r]? := by
  induction d generalizing i with
  | nil => exact absurd h (by simp)
  | cons a d ih =>
    cases i with
    | zero =>
      simp only [encsS, List.flatMap_cons]
      rw [List.getElem?_append_left (by simp [Sh.enc]; omega)]
      simp
    | succ i =>
      have := ih i (by simpa using h)
      simp only [encsS, List.flatMap_cons] at *
      rw [List.getElem?_append_right (by simp [Sh.enc]; omega), show (i + 1) * 7 + r - (Sh.enc a).length = i * 7 + r by simp [Sh.enc]; omega, this]
      simp
theorem encsS_one (d : List Sh) : ∀ u ∈ encsS d, u.oneCell' = true := by
  intro u hu
  simp only [encsS, List.mem_flatMap] at hu
  obtain ⟨c, _, hc⟩ := hu
  simp [Sh.enc] at hc
  rcases hc with rfl | rfl | rfl | rfl | rfl | rfl | rfl <;> rfl
theorem bl_alloc {a w : World} (h : Below a.heap.size a w) (o : Obj) : Below a.heap.size a (w.alloc o) := h.alloc h.size o
theorem bl_drew {a w : World} (h : Below a.heap.size a w) : Below a.heap.size a w.drew := h.drew
abbrev C.arr (c : C) : Array Value := #[.int .u64 (c.hi : Int), .int .u64 (c.lo : Int), .string c.ad]
theorem Bx.three {b : Nat} {t : TypeId} {u v x : Value} {w : World} (h : Bx b t #[u, v, x] w) : (w.cell? ⟨b, 0, none⟩ = some u ∧ w.cell? ⟨b, 1, none⟩ = some v ∧ w.cell? ⟨b, 2, none⟩ = some x) ∧ w.frozen? ⟨b, 0, none⟩ = false ∧ w.frozen? ⟨b, 1, none⟩ = false ∧ w.frozen? ⟨b, 2, none⟩ = false := ⟨⟨h.cell 0, h.cell 1, h.cell 2⟩, h.isC.frozen _, h.isC.frozen _, h.isC.frozen _⟩

theorem bxal2a {w w' : World} {cs : Array Value} {t : TypeId} {o : Obj} (b : Below ((w.alloc (.cells cs t)).alloc o).heap.size ((w.alloc (.cells cs t)).alloc o) w') : Bx w.heap.size t cs w' := Bx.read (al2a w _ _) b
theorem bxal2b {w w' : World} {cs : Array Value} {t : TypeId} {o : Obj} (b : Below ((w.alloc o).alloc (.cells cs t)).heap.size ((w.alloc o).alloc (.cells cs t)) w') : Bx (w.heap.size + 1) t cs w' := Bx.read (al2b w _ _) b
theorem bxal2a_drew {w w' : World} {cs : Array Value} {t : TypeId} {o : Obj} (b : Below ((w.alloc (.cells cs t)).alloc o).drew.heap.size ((w.alloc (.cells cs t)).alloc o).drew w') : Bx w.heap.size t cs w' := Bx.read (w := ((w.alloc (.cells cs t)).alloc o).drew) (al2a w _ _) b
theorem bxal2b_drew {w w' : World} {cs : Array Value} {t : TypeId} {o : Obj} (b : Below ((w.alloc o).alloc (.cells cs t)).drew.heap.size ((w.alloc o).alloc (.cells cs t)).drew w') : Bx (w.heap.size + 1) t cs w' := Bx.read (w := ((w.alloc o).alloc (.cells cs t)).drew) (al2b w _ _) b
theorem bx_new (w : World) (cs : Array Value) (t : TypeId) : Bx w.heap.size t cs (w.alloc (.cells cs t)) := heap_alloc_new w _
theorem bx_2a (w : World) (cs : Array Value) (t : TypeId) (o : Obj) : Bx w.heap.size t cs ((w.alloc (.cells cs t)).alloc o) := al2a w _ _
theorem bx_2b (w : World) (cs : Array Value) (t : TypeId) (o : Obj) : Bx (w.heap.size + 1) t cs ((w.alloc o).alloc (.cells cs t)) := al2b w _ _
theorem Bx.thru {b : Nat} {t : TypeId} {cs : Array Value} {w W w' : World} (h : Bx b t cs w) (h1 : Below w.heap.size w W) (h2 : Below W.heap.size W w') : Bx b t cs w' := (h.read h1).read h2
theorem Bx.two_set {b : Nat} {t : TypeId} {u v x y : Value} {w : World} (h : Bx b t #[u, v] w) : Bx b t #[x, y] ((w.setCell ⟨b, 0, none⟩ x).setCell ⟨b, 1, none⟩ y) := (h.set 0 x).set 1 y
theorem Bx.two_set26 {b : Nat} {x y : Value} {w : World} (h : Bx b 26 #[.int .u64 0, .int .u64 0] w) : Bx b 26 #[x, y] ((w.setCell ⟨b, 0, none⟩ x).setCell ⟨b, 1, none⟩ y) := (h.set 0 x).set 1 y
theorem Bx.two_other {b b' : Nat} {t : TypeId} {cs : Array Value} {x y : Value} {w : World} (h : Bx b t cs w) (hb : ¬ b = b') : Bx b t cs ((w.setCell ⟨b', 0, none⟩ x).setCell ⟨b', 1, none⟩ y) := (h.other b' 0 x hb).other b' 1 y hb

theorem news7 (W : World) (s : Sh) (t : TypeId) (q : Nat) (hq : q = W.heap.size) : ∀ j u, (Sh.enc s)[j]? = some u → (W.alloc (.cells #[.int .u64 (s.c.hi : Int), .int .u64 (s.c.lo : Int), .string s.c.ad, .int .u64 (s.fh : Int), .int .u64 (s.fl : Int), .int .u64 (s.lh : Int), .int .u64 (s.ll : Int)] t)).cell? ((⟨q, 0, none⟩ : Addr).add j) = some u := by
  intro j u hj
  have hadd : (⟨q, 0, none⟩ : Addr).add j = ⟨q, j, none⟩ := by unfold Addr.add; split <;> simp_all
  rw [hadd, hq, cell_of_row _ _ _ _ _ _ (heap_alloc_new W _)]
  simpa [Sh.enc] using hj
theorem Bx.one {b : Nat} {t : TypeId} {u : Value} {w : World} (h : Bx b t #[u] w) : w.cell? ⟨b, 0, none⟩ = some u ∧ w.frozen? ⟨b, 0, none⟩ = false := ⟨h.cell 0, h.isC.frozen _⟩
end Go.Proofs.YbulkcntwDoor
