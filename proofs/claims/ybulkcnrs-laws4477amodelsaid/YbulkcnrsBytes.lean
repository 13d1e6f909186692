import Derived.Test.YbulkcnrsPtr
import Derived.Laws.IdiomStrings
import Derived.Deep.Draws
namespace Go.Proofs.Ybulkcnrs
open Go.RowKit
set_option linter.unusedVariables false
set_option linter.unusedSimpArgs false

/-- From the start of block xb on lie these bytes. -/
def bytesAt (w : World) (xb : Nat) (l : List UInt8) : Prop := ∀ j (hj : j < l.length), w.cell? ⟨xb, j, none⟩ = some (.int .u8 (l[j].toNat : Int))

theorem bytesAt.of_heap {w w' : World} {xb : Nat} {l : List UInt8} (h : bytesAt w xb l) (hh : w'.heap[xb]? = w.heap[xb]?) : bytesAt w' xb l := by
  intro j hj
  rw [← h j hj]
  unfold World.cell?
  rw [hh]

theorem conv_back (w : World) (xb cap n : Nat) (l : List UInt8) (hn : n = l.length) (h : bytesAt w xb l) : (convert 30 9 (.slice (some ⟨xb, 0, none⟩) n cap)).run Yba.prog w = .ok (.string ⟨l.toArray⟩) w := by
  subst hn
  refine run_convert_bytes_back w 30 9 5 ⟨xb, 0, none⟩ cap l Yba.underlying30 Yba.underlying5 Yba.underlying9 ?_
  intro j hj
  have : (⟨xb, 0, none⟩ : Addr).add j = ⟨xb, j, none⟩ := by unfold Addr.add; split <;> simp_all
  rw [this]
  exact h j hj

set_option maxHeartbeats 800000 in
theorem bytesEqual_same (w : World) (xb yb c d n m : Nat) (l : List UInt8) (hn : n = l.length) (hm : m = l.length) (hx : bytesAt w xb l) (hy : bytesAt w yb l) :
    Calls Yba.prog 10 #[.slice (some ⟨xb, 0, none⟩) n c, .slice (some ⟨yb, 0, none⟩) m d] w fun e w' => e = .returned (.bool true) ∧ w' = w := by
  have h1 := conv_back w xb c n l hn hx
  have h2 := conv_back w yb d m l hm hy
  clear hn hm
  go_enter Yba.func10, Yba.ntmps10
  go_wp2
  go_ret
  exact ⟨rfl, rfl⟩

/-- '[]byte(s)' -/
theorem conv_to (s : ByteArray) (w : World) : (convert 9 30 (.string s)).run Yba.prog w = .ok (.slice (some ⟨w.heap.size, 0, none⟩) s.size (grownCap w s.size 0 5))
      (w.drew.alloc (.cells (bytesRow s (grownCap w s.size 0 5)) 5 ((bytesRow s (grownCap w s.size 0 5)).size, (bytesRow s (grownCap w s.size 0 5)).size + 1))) :=
  run_bytes_of_string w 9 30 5 s Yba.underlying9 Yba.underlying30 Yba.underlying5

theorem bytesAt_new (w : World) (s : ByteArray) (c : Nat) (f : Nat × Nat) : bytesAt (w.alloc (.cells (bytesRow s c) 5 f)) w.heap.size s.data.toList := by
  intro j hj
  have hj' : j < s.data.size := by simpa using hj
  have hh : (w.alloc (.cells (bytesRow s c) 5 f)).heap[w.heap.size]? = some (.cells (bytesRow s c) 5 f) := by
    show (w.heap.push _)[w.heap.size]? = _
    simp
  unfold World.cell?
  simp only [hh]
  have hs : j < s.size := hj'
  simp [bytesRow, Array.getElem?_append, hs, hj']

theorem bytesAt_drew {w : World} {xb : Nat} {l : List UInt8} (h : bytesAt w xb l) : bytesAt w.drew xb l := h
theorem bytesAt_drewN {w : World} {xb : Nat} {l : List UInt8} (n : Nat) (h : bytesAt w xb l) : bytesAt (w.drewN n) xb l := h
end Go.Proofs.Ybulkcnrs
