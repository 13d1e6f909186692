import Derived.Test.YbulkcnrsRing
import Derived.Test.YbulkcnrsBytes
namespace Go.Proofs.Ybulkcnrs
open Go.RowKit
set_option linter.unusedVariables false
set_option linter.unusedSimpArgs false

/-- An object that is kept: its offset, type and content; where its list element, its own struct and its content lie. -/
structure Ent where
  off : Int
  t : Int
  bs : List UInt8
  eb : Nat
  ob : Nat
  xb : Nat
  cap : Nat

def tot : List Ent → Nat
  | [] => 0
  | e :: r => e.bs.length + tot r

theorem tot_append (a b : List Ent) : tot (a ++ b) = tot a + tot b := by
  induction a with
  | nil => simp [tot]
  | cons e r ih => simp [tot, ih]; omega

structure ElemOK (w : World) (lb : Nat) (e : Ent) : Prop where
  te : isT w e.eb 56
  c2 : w.cell? ⟨e.eb, 2, none⟩ = some (pt lb)
  c3 : w.cell? ⟨e.eb, 3, none⟩ = some (.iface 53 (pt e.ob))
  obj : w.heap[e.ob]? = some (.cells #[.int .i64 e.off, .int .u8 e.t, .slice (some ⟨e.xb, 0, none⟩) e.bs.length e.cap] 58)
  row : ∃ c f, w.heap[e.xb]? = some (.cells c 5 f)
  bytes : bytesAt w e.xb e.bs
  wf : (Lit.int .i64 e.off).wf = true

abbrev nodes (lb : Nat) (L : List Ent) : List Nat := lb :: (L.map Ent.eb ++ [lb])
abbrev keysOf (L : List Ent) : List (Int × Nat) := L.map fun e => (e.off, e.eb)

/-- The list and the map hold just L, front to back. -/
structure LSt (w : World) (lb mb : Nat) (L : List Ent) : Prop where
  ring : Linked w (nodes lb L)
  len : w.cell? ⟨lb, 4, none⟩ = some (.int .i64 L.length)
  tl : isT w lb 67
  map : ∃ es ck, isM w mb es ck ∧ MapFit es (keysOf L)
  nd : (L.map Ent.eb).Nodup
  el : ∀ e ∈ L, ElemOK w lb e

theorem lt_of_heap {w : World} {b : Nat} {o : Obj} (h : w.heap[b]? = some o) : b < w.heap.size := (Array.getElem?_eq_some_iff.1 h).1

section
variable {w w' : World} {lb mb : Nat} {L : List Ent} {e : Ent}

theorem ElemOK.lt (h : ElemOK w lb e) : e.eb < w.heap.size := h.te.isC.lt

theorem not49_of {c : Array Value} {t : TypeId} {f : Nat × Nat} {b : Nat} (h : w.heap[b]? = some (.cells c t f)) (ht : t ≠ 49) : ¬ isT w b 49 := by
  rintro ⟨c', h'⟩
  rw [h] at h'
  simp at h'
  exact ht h'.2.1

theorem ElemOK.kept (h : ElemOK w lb e) (hk : ∀ b, b < w.heap.size → ¬ isT w b 49 → w'.heap[b]? = w.heap[b]?) : ElemOK w' lb e := by
  have h1 : w'.heap[e.eb]? = w.heap[e.eb]? := hk _ h.lt (fun h' => absurd (h.te.one h') (by decide))
  have h2 : w'.heap[e.ob]? = w.heap[e.ob]? := hk _ (lt_of_heap h.obj) (not49_of h.obj (by decide))
  obtain ⟨c, f, hr⟩ := h.row
  have h3 : w'.heap[e.xb]? = w.heap[e.xb]? := hk _ (lt_of_heap hr) (not49_of hr (by decide))
  exact ⟨h.te.of_heap h1, (cell_heap h1).trans h.c2, (cell_heap h1).trans h.c3, h2.trans h.obj, ⟨c, f, h3.trans hr⟩, h.bytes.of_heap h3, h.wf⟩

theorem LSt.kept (h : LSt w lb mb L) (hk : ∀ b, b < w.heap.size → ¬ isT w b 49 → w'.heap[b]? = w.heap[b]?) : LSt w' lb mb L := by
  have hl : w'.heap[lb]? = w.heap[lb]? := hk _ h.tl.isC.lt (fun h' => absurd (h.tl.one h') (by decide))
  have he : ∀ e ∈ L, w'.heap[e.eb]? = w.heap[e.eb]? := fun e he => hk _ (h.el e he).lt (fun h' => absurd ((h.el e he).te.one h') (by decide))
  obtain ⟨es, ck, hm, hF⟩ := h.map
  have hmb : w'.heap[mb]? = w.heap[mb]? := hk _ hm.lt (by rintro ⟨c, h'⟩; rw [hm] at h'; simp at h')
  have hn : ∀ b ∈ nodes lb L, w'.heap[b]? = w.heap[b]? := by
    intro b hb
    simp only [List.mem_cons, List.mem_append, List.mem_map, List.not_mem_nil, or_false] at hb
    rcases hb with rfl | ⟨e, hm, rfl⟩ | rfl
    · exact hl
    · exact he e hm
    · exact hl
  refine ⟨h.ring.kept (fun a ha => cell_heap (hn a (List.dropLast_subset _ ha))) (fun b hb => cell_heap (hn b (List.mem_of_mem_tail hb))), (cell_heap hl).trans h.len, h.tl.of_heap hl, ⟨es, ck, hmb.trans hm, hF⟩, h.nd, fun e hm => (h.el e hm).kept hk⟩

/-- A ring's node is no other block. -/
theorem LSt.nodeT (h : LSt w lb mb L) {b : Nat} (hb : b ∈ nodes lb L) : isT w b 67 ∨ isT w b 56 := by
  simp only [List.mem_cons, List.mem_append, List.mem_map, List.not_mem_nil, or_false] at hb
  rcases hb with rfl | ⟨e, hm, rfl⟩ | rfl
  · exact Or.inl h.tl
  · exact Or.inr (h.el e hm).te
  · exact Or.inl h.tl

theorem LSt.lb_notin (h : LSt w lb mb L) : lb ∉ L.map Ent.eb := by
  intro hb
  obtain ⟨e, hm, he⟩ := List.mem_map.1 hb
  have h1 := (h.el e hm).te
  rw [he] at h1
  exact absurd (h1.one h.tl) (by decide)

/-- Stores into the ring's first two cells, of nodes alone: all but the ring stays. -/
theorem LSt.el_sets (h : LSt w lb mb L) {l : List Wr} (hl : ∀ x ∈ l, x.1 ∈ nodes lb L ∧ x.2.1 < 2) (e : Ent) (he : e ∈ L) : ElemOK (sets w l) lb e := by
  have h1 := h.el e he
  have hob : ∀ x ∈ l, ¬ x.1 = e.ob := fun x hx hb => by
    have h2 := h.nodeT (hl x hx).1
    rw [hb] at h2
    rcases h2 with ⟨c, h2⟩ | ⟨c, h2⟩ <;> (rw [h1.obj] at h2; simp at h2)
  obtain ⟨c, f, hr⟩ := h1.row
  have hxb : ∀ x ∈ l, ¬ x.1 = e.xb := fun x hx hb => by
    have h2 := h.nodeT (hl x hx).1
    rw [hb] at h2
    rcases h2 with ⟨c, h2⟩ | ⟨c, h2⟩ <;> (rw [hr] at h2; simp at h2)
  refine ⟨sets_isT _ _ _ _ h1.te, ?_, ?_, (sets_heap l w _ hob).trans h1.obj, ⟨c, f, (sets_heap l w _ hxb).trans hr⟩, h1.bytes.of_heap (sets_heap l w _ hxb), h1.wf⟩
  · rw [sets_cell l w _ _ (fun x hx => Or.inr (by have := (hl x hx).2; omega))]; exact h1.c2
  · rw [sets_cell l w _ _ (fun x hx => Or.inr (by have := (hl x hx).2; omega))]; exact h1.c3
end

/-- The writes of MoveToFront of e, between p and n, f the first. -/
abbrev mvL (lb eb fb pb nb : Nat) : List Wr := [(pb, 0, pt nb), (nb, 1, pt pb), (eb, 1, pt lb), (eb, 0, pt fb), (lb, 0, pt eb), (fb, 1, pt eb)]

theorem last_mem {α : Type} {l : List α} {x : α} (h : l.getLast? = some x) : x ∈ l := List.mem_of_getLast? h

/-- What the ring says around a node: A ++ e :: B, A not empty. -/
theorem ring_around {w : World} {lb : Nat} {a e : Nat} {A B : List Nat} (h : Linked w (lb :: ((a :: A) ++ e :: B ++ [lb]))) :
    ∃ p n, p ∈ a :: A ∧ n ∈ B ++ [lb] ∧ (∃ A', a :: A = A' ++ [p]) ∧ (∃ B', B ++ [lb] = n :: B') ∧ w.cell? ⟨lb, 0, none⟩ = some (pt a) ∧ w.cell? ⟨a, 1, none⟩ = some (pt lb) ∧
      w.cell? ⟨p, 0, none⟩ = some (pt e) ∧ w.cell? ⟨e, 1, none⟩ = some (pt p) ∧ w.cell? ⟨e, 0, none⟩ = some (pt n) ∧ w.cell? ⟨n, 1, none⟩ = some (pt e) := by
  obtain ⟨A', p, hA⟩ : ∃ A' p, a :: A = A' ++ [p] := ⟨(a :: A).dropLast, (a :: A).getLast (by simp), (List.dropLast_concat_getLast (by simp)).symm⟩
  obtain ⟨n, B', hB⟩ : ∃ n B', B ++ [lb] = n :: B' := by
    cases B with
    | nil => exact ⟨lb, [], rfl⟩
    | cons b r => exact ⟨b, r ++ [lb], rfl⟩
  have h0 := h
  simp only [List.cons_append] at h0
  refine ⟨p, n, by rw [hA]; simp, by rw [hB]; simp, ⟨A', hA⟩, ⟨B', hB⟩, h0.1, h0.2.1, ?_⟩
  have e1 : lb :: ((a :: A) ++ e :: B ++ [lb]) = (lb :: A') ++ p :: (e :: n :: B') := by
    rw [hA, ← hB]; simp
  rw [e1] at h
  have h2 := ((linked_split _ _ _).1 h).2
  exact ⟨h2.1, h2.2.1, h2.2.2.1, h2.2.2.2.1⟩

/-- MoveToFront turns the ring. -/
theorem ring_move {w : World} {lb a e p n : Nat} {A B A' B' : List Nat} (h : Linked w (lb :: ((a :: A) ++ e :: B ++ [lb]))) (hnd : (lb :: ((a :: A) ++ e :: B)).Nodup) (hA : a :: A = A' ++ [p]) (hB : B ++ [lb] = n :: B') :
    Linked (sets w (mvL lb e a p n)) (lb :: (e :: ((a :: A) ++ B) ++ [lb])) := by
  have e1 : lb :: ((a :: A) ++ e :: B ++ [lb]) = (lb :: A') ++ p :: (e :: n :: B') := by rw [hA, ← hB]; simp
  have hh := h
  rw [e1] at hh
  obtain ⟨hl, hr⟩ := (linked_split _ _ _).1 hh
  obtain ⟨k1, k2, k3, k4, k5⟩ := hr
  have hpA : p ∈ a :: A := by rw [hA]; simp
  have hnB : n ∈ B ++ [lb] := by rw [hB]; simp
  have nd := hnd
  simp only [List.nodup_cons, List.nodup_append, List.mem_append, List.mem_cons, not_or] at nd
  have hep : ¬ e = p := fun hh => by subst hh; rw [List.mem_cons] at hpA; grind
  have hla : ¬ lb = a := by grind
  have hea : ¬ e = a := by grind
  have hel : ¬ e = lb := by grind
  have hen : ¬ e = n := fun hh => by subst hh; rw [List.mem_append, List.mem_singleton] at hnB; grind
  have hpl : ¬ p = lb := fun hh => by subst hh; rw [List.mem_cons] at hpA; grind
  have hpn : ¬ p = n := fun hh => by subst hh; rw [List.mem_append, List.mem_singleton] at hnB; rw [List.mem_cons] at hpA; grind
  have hna : ¬ n = a := fun hh => by subst hh; rw [List.mem_append, List.mem_singleton] at hnB; grind
  have h0 := h
  simp only [List.cons_append] at h0
  have c0 := h0.1
  have c1 := h0.2.1
  -- the pieces
  have hAk : Linked (sets w (mvL lb e a p n)) (a :: A) := by
    have hA0 : Linked w (a :: A) := by
      have : lb :: ((a :: A) ++ e :: B ++ [lb]) = lb :: a :: (A ++ e :: B ++ [lb]) := by simp
      rw [this] at h
      have h2 := h.2.2
      have e2 : a :: (A ++ e :: B ++ [lb]) = A' ++ p :: (e :: (B ++ [lb])) := by
        have : a :: (A ++ e :: B ++ [lb]) = (a :: A) ++ e :: (B ++ [lb]) := by simp
        rw [this, hA]; simp
      rw [e2] at h2
      rw [hA]
      exact ((linked_split _ _ _).1 h2).1
    refine hA0.kept (fun x hx => sets_cell _ _ _ _ ?_) (fun x hx => sets_cell _ _ _ _ ?_)
    · have hxA : x ∈ a :: A := List.dropLast_subset _ hx
      have hxp : ¬ p = x := by
        rw [hA, List.dropLast_concat] at hx
        have nd2 : (A' ++ [p]).Nodup := by rw [← hA]; simp only [List.nodup_cons]; grind
        rw [List.nodup_append] at nd2
        grind
      rw [List.mem_cons] at hxA
      intro y hy
      simp only [mvL, List.mem_cons, List.not_mem_nil, or_false] at hy
      rcases hy with rfl | rfl | rfl | rfl | rfl | rfl
      · exact Or.inl hxp
      · exact Or.inr (by simp)
      · exact Or.inr (by simp)
      · exact Or.inl (by grind)
      · exact Or.inl (by grind)
      · exact Or.inr (by simp)
    · simp only [List.tail_cons] at hx
      intro y hy
      simp only [mvL, List.mem_cons, List.not_mem_nil, or_false] at hy
      rcases hy with rfl | rfl | rfl | rfl | rfl | rfl
      · exact Or.inr (by simp)
      · refine Or.inl ?_
        intro hh
        rw [List.mem_append, List.mem_singleton] at hnB
        simp only at hh
        subst hh
        grind
      · exact Or.inl (by grind)
      · exact Or.inr (by simp)
      · exact Or.inr (by simp)
      · exact Or.inl (by grind)
  have hBk : Linked (sets w (mvL lb e a p n)) (n :: B') := by
    refine k5.kept (fun x hx => sets_cell _ _ _ _ ?_) (fun x hx => sets_cell _ _ _ _ ?_)
    · have hxB : x ∈ B := by rw [← hB, List.dropLast_concat] at hx; exact hx
      intro y hy
      simp only [mvL, List.mem_cons, List.not_mem_nil, or_false] at hy
      rw [List.mem_cons] at hpA
      rcases hy with rfl | rfl | rfl | rfl | rfl | rfl
      · refine Or.inl ?_
        intro hh
        simp only at hh
        subst hh
        grind
      · exact Or.inr (by simp)
      · exact Or.inr (by simp)
      · exact Or.inl (by grind)
      · exact Or.inl (by grind)
      · exact Or.inr (by simp)
    · have nd3 : (n :: B').Nodup := by
        rw [← hB, List.nodup_append]
        grind
      rw [List.nodup_cons] at nd3
      simp only [List.tail_cons] at hx
      have hxB : x ∈ B ++ [lb] := by rw [hB]; exact List.mem_cons_of_mem _ hx
      rw [List.mem_append, List.mem_singleton] at hxB
      intro y hy
      simp only [mvL, List.mem_cons, List.not_mem_nil, or_false] at hy
      rcases hy with rfl | rfl | rfl | rfl | rfl | rfl
      · exact Or.inr (by simp)
      · exact Or.inl (by grind)
      · exact Or.inl (by grind)
      · exact Or.inr (by simp)
      · exact Or.inr (by simp)
      · exact Or.inl (by grind)
  have r1 : (sets w (mvL lb e a p n)).cell? ⟨p, 0, none⟩ = some (pt n) := sets_at (l := []) k1 (by
    intro y hy
    simp only [List.mem_cons, List.not_mem_nil, or_false] at hy
    rcases hy with rfl | rfl | rfl | rfl | rfl <;> grind)
  have r2 : (sets w (mvL lb e a p n)).cell? ⟨n, 1, none⟩ = some (pt p) := sets_at (l := [(p, 0, pt n)]) k4 (by
    intro y hy
    simp only [List.mem_cons, List.not_mem_nil, or_false] at hy
    rcases hy with rfl | rfl | rfl | rfl <;> grind)
  have r3 : (sets w (mvL lb e a p n)).cell? ⟨e, 1, none⟩ = some (pt lb) := sets_at (l := [(p, 0, pt n), (n, 1, pt p)]) k2 (by
    intro y hy
    simp only [List.mem_cons, List.not_mem_nil, or_false] at hy
    rcases hy with rfl | rfl | rfl <;> grind)
  have r4 : (sets w (mvL lb e a p n)).cell? ⟨e, 0, none⟩ = some (pt a) := sets_at (l := [(p, 0, pt n), (n, 1, pt p), (e, 1, pt lb)]) k3 (by
    intro y hy
    simp only [List.mem_cons, List.not_mem_nil, or_false] at hy
    rcases hy with rfl | rfl <;> grind)
  have r5 : (sets w (mvL lb e a p n)).cell? ⟨lb, 0, none⟩ = some (pt e) := sets_at (l := [(p, 0, pt n), (n, 1, pt p), (e, 1, pt lb), (e, 0, pt a)]) c0 (by
    intro y hy
    simp only [List.mem_cons, List.not_mem_nil, or_false] at hy
    rcases hy with rfl <;> grind)
  have r6 : (sets w (mvL lb e a p n)).cell? ⟨a, 1, none⟩ = some (pt e) := sets_at (l := [(p, 0, pt n), (n, 1, pt p), (e, 1, pt lb), (e, 0, pt a), (lb, 0, pt e)]) c1 (by simp)
  have e3 : lb :: (e :: ((a :: A) ++ B) ++ [lb]) = [lb] ++ e :: ((a :: A) ++ (B ++ [lb])) := by simp
  rw [e3, linked_split]
  refine ⟨⟨r5, r3, trivial⟩, ?_⟩
  have e4 : e :: ((a :: A) ++ (B ++ [lb])) = [e] ++ a :: (A ++ (B ++ [lb])) := by simp
  rw [e4, linked_split]
  refine ⟨⟨r4, r6, trivial⟩, ?_⟩
  have e5 : a :: (A ++ (B ++ [lb])) = A' ++ p :: (n :: B') := by
    have : a :: (A ++ (B ++ [lb])) = (a :: A) ++ (B ++ [lb]) := by simp
    rw [this, hA, hB]; simp
  rw [e5, linked_split]
  refine ⟨by rw [← hA]; exact hAk, r1, r2, hBk⟩
end Go.Proofs.Ybulkcnrs
