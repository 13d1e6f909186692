import Derived.Test.YbulkcnrsCache
namespace Go.Proofs.Ybulkcnrs
open Go.RowKit
set_option linter.unusedVariables false
set_option linter.unusedSimpArgs false

/-- Block b is a row of cells of element type t, none frozen. -/
def isT (w : World) (b : Nat) (t : TypeId) : Prop := ∃ c, w.heap[b]? = some (.cells c t (0, 0))

theorem isT.isC {w : World} {b : Nat} {t : TypeId} (h : isT w b t) : isC w b := by obtain ⟨c, h⟩ := h; exact ⟨c, t, h⟩
theorem isT.one {w : World} {b : Nat} {t t' : TypeId} (h : isT w b t) (h' : isT w b t') : t = t' := by
  obtain ⟨c, h⟩ := h
  obtain ⟨c', h'⟩ := h'
  rw [h] at h'
  simp at h'
  exact h'.2
theorem isT.ne {w : World} {b b' : Nat} {t t' : TypeId} (h : isT w b t) (h' : isT w b' t') (ht : t ≠ t') : ¬ b = b' := by
  rintro rfl
  exact ht (h.one h')
theorem isT_setCell (w : World) (a : Addr) (v : Value) (b : Nat) (t : TypeId) (h : isT w b t) : isT (w.setCell a v) b t := by
  obtain ⟨c, h⟩ := h
  by_cases hb : a.block = b
  · subst hb
    exact ⟨_, by simp only [World.setCell, Array.getElem?_modify, if_true, h, Option.map_some]; rfl⟩
  · exact ⟨c, by rw [Below.heap_setCell _ _ _ _ (Ne.symm hb)]; exact h⟩
theorem isT.of_heap {w w' : World} {b : Nat} {t : TypeId} (h : isT w b t) (hh : w'.heap[b]? = w.heap[b]?) : isT w' b t := by
  obtain ⟨c, h⟩ := h
  exact ⟨c, hh.trans h⟩

theorem cell_heap {w w' : World} {b i : Nat} (hh : w'.heap[b]? = w.heap[b]?) : w'.cell? ⟨b, i, none⟩ = w.cell? ⟨b, i, none⟩ := by
  unfold World.cell?
  simp only [hh]

/-! several stores, one behind the other -/
abbrev Wr := Nat × Nat × Value
def sets (w : World) : List Wr → World
  | [] => w
  | x :: r => sets (w.setCell ⟨x.1, x.2.1, none⟩ x.2.2) r

theorem sets_heap : ∀ (l : List Wr) (w : World) (b : Nat), (∀ x ∈ l, ¬ x.1 = b) → (sets w l).heap[b]? = w.heap[b]?
  | [], _, _, _ => rfl
  | x :: r, w, b, h => by
    show (sets _ r).heap[b]? = _
    rw [sets_heap r _ b (fun y hy => h y (List.mem_cons_of_mem _ hy)), Below.heap_setCell _ _ _ _ (Ne.symm (h x List.mem_cons_self))]

theorem sets_cell : ∀ (l : List Wr) (w : World) (b i : Nat), (∀ x ∈ l, ¬ x.1 = b ∨ ¬ x.2.1 = i) → (sets w l).cell? ⟨b, i, none⟩ = w.cell? ⟨b, i, none⟩
  | [], _, _, _, _ => rfl
  | x :: r, w, b, i, h => by
    show (sets _ r).cell? _ = _
    rw [sets_cell r _ b i (fun y hy => h y (List.mem_cons_of_mem _ hy))]
    rcases h x List.mem_cons_self with h | h
    · exact sc_ne _ _ _ _ _ _ h
    · exact sc_off _ _ _ _ _ _ h

theorem sets_at {l r : List Wr} {w : World} {b i : Nat} {v : Value} {u : Value} (hu : w.cell? ⟨b, i, none⟩ = some u) (hr : ∀ x ∈ r, ¬ x.1 = b ∨ ¬ x.2.1 = i) : (sets w (l ++ (b, i, v) :: r)).cell? ⟨b, i, none⟩ = some v := by
  induction l generalizing w u with
  | nil =>
    show (sets _ r).cell? _ = _
    rw [sets_cell r _ b i hr]
    exact World.cell?_setCell_same _ _ _ hu
  | cons x l ih =>
    show (sets (w.setCell _ _) _).cell? _ = _
    by_cases h : x.1 = b ∧ x.2.1 = i
    · obtain ⟨rfl, rfl⟩ := h
      exact ih (World.cell?_setCell_same _ _ _ hu)
    · refine ih (u := u) ?_
      rw [← hu]
      by_cases hb : x.1 = b
      · exact sc_off _ _ _ _ _ _ (fun hi => h ⟨hb, hi⟩)
      · exact sc_ne _ _ _ _ _ _ hb

theorem sets_isT : ∀ (l : List Wr) (w : World) (b : Nat) (t : TypeId), isT w b t → isT (sets w l) b t
  | [], _, _, _, h => h
  | x :: r, w, b, t, h => sets_isT r _ b t (isT_setCell _ _ _ _ _ h)

theorem sets_isM : ∀ (l : List Wr) (w : World) (b : Nat) (es : Array MapEntry) (ck : Nat), isM w b es ck → isM (sets w l) b es ck
  | [], _, _, _, _, h => h
  | x :: r, w, b, es, ck, h => sets_isM r _ b es ck (by rw [isM_setCell]; exact h)

theorem sets_size : ∀ (l : List Wr) (w : World), (sets w l).heap.size = w.heap.size
  | [], _ => rfl
  | x :: r, w => by
    show (sets _ r).heap.size = _
    rw [sets_size r]; simp

theorem sets_below (B : Nat) : ∀ (l : List Wr) (w0 w : World), Below B w0 w → (∀ x ∈ l, B ≤ x.1) → Below B w0 (sets w l)
  | [], _, _, h, _ => h
  | x :: r, w0, w, h, hl => sets_below B r w0 _ (h.setCell (hl x List.mem_cons_self) _) (fun y hy => hl y (List.mem_cons_of_mem _ hy))

theorem sets_append : ∀ (l r : List Wr) (w : World), sets w (l ++ r) = sets (sets w l) r
  | [], _, _ => rfl
  | x :: l, r, w => sets_append l r _

theorem setCell_comm (w : World) (a b : Addr) (u v : Value) (h : ¬ a.block = b.block) : (w.setCell a u).setCell b v = (w.setCell b v).setCell a u := by
  unfold World.setCell
  have : (w.heap.modify a.block fun | .cells c elem frozen => .cells (if a.spot.isSome then c else c.setIfInBounds a.off u) elem frozen | o => o).modify b.block (fun | .cells c elem frozen => .cells (if b.spot.isSome then c else c.setIfInBounds b.off v) elem frozen | o => o)
      = (w.heap.modify b.block fun | .cells c elem frozen => .cells (if b.spot.isSome then c else c.setIfInBounds b.off v) elem frozen | o => o).modify a.block (fun | .cells c elem frozen => .cells (if a.spot.isSome then c else c.setIfInBounds a.off u) elem frozen | o => o) := by
    apply Array.ext_getElem?
    intro i
    simp only [Array.getElem?_modify]
    by_cases h1 : a.block = i
    · by_cases h2 : b.block = i
      · exact absurd (h1.trans h2.symm) h
      · simp [h1, h2]
    · by_cases h2 : b.block = i
      · simp [h1, h2]
      · simp [h1, h2]
  exact congrArg (fun h => ({ w with heap := h } : World)) this

/-- A store into another block passes by. -/
theorem sets_comm : ∀ (l : List Wr) (w : World) (a : Addr) (v : Value), (∀ x ∈ l, ¬ x.1 = a.block) → (sets w l).setCell a v = sets (w.setCell a v) l
  | [], _, _, _, _ => rfl
  | x :: r, w, a, v, h => by
    show (sets _ r).setCell a v = sets _ r
    rw [sets_comm r _ a v (fun y hy => h y (List.mem_cons_of_mem _ hy)), setCell_comm w ⟨x.1, x.2.1, none⟩ a _ _ (h x List.mem_cons_self)]

/-- Under the lock, and unlocked again. -/
theorem sets_lock (l : List Wr) (w : World) (a : Addr) (u v : Value) (hv : w.cell? a = some v) (h : ∀ x ∈ l, ¬ x.1 = a.block) : (sets (w.setCell a u) l).setCell a v = sets w l := by
  rw [sets_comm l _ a v h, relock w a u v hv]

/-! the ring -/
def Linked (w : World) : List Nat → Prop
  | a :: b :: r => w.cell? ⟨a, 0, none⟩ = some (pt b) ∧ w.cell? ⟨b, 1, none⟩ = some (pt a) ∧ Linked w (b :: r)
  | _ => True

theorem Linked.kept {w w' : World} : ∀ {l : List Nat}, Linked w l → (∀ a ∈ l.dropLast, w'.cell? ⟨a, 0, none⟩ = w.cell? ⟨a, 0, none⟩) → (∀ b ∈ l.tail, w'.cell? ⟨b, 1, none⟩ = w.cell? ⟨b, 1, none⟩) → Linked w' l
  | [], _, _, _ => trivial
  | [_], _, _, _ => trivial
  | a :: b :: r, h, h0, h1 => by
    obtain ⟨c0, c1, hr⟩ := h
    refine ⟨(h0 a (by simp)).trans c0, (h1 b (by simp)).trans c1, hr.kept (fun x hx => h0 x ?_) (fun x hx => h1 x ?_)⟩
    · simp only [List.dropLast_cons_cons]; exact List.mem_cons_of_mem _ hx
    · simp only [List.tail_cons] at hx ⊢; exact List.mem_cons_of_mem _ hx

theorem linked_split {w : World} : ∀ (l : List Nat) (a : Nat) (r : List Nat), Linked w (l ++ a :: r) ↔ Linked w (l ++ [a]) ∧ Linked w (a :: r)
  | [], a, r => by simp [Linked]
  | [x], a, r => by simp [Linked, and_assoc]
  | x :: y :: l, a, r => by
    have := linked_split (w := w) (y :: l) a r
    simp only [List.cons_append] at this ⊢
    simp only [Linked, this, and_assoc]

end Go.Proofs.Ybulkcnrs
