import Derived.Test.YbulkcntiAlloc
namespace Go.Proofs.Ybulkcnti
open Go.RowKit
set_option linter.unusedVariables false
set_option linter.unusedSimpArgs false

theorem getD_set (l : List Int) (i j : Nat) (v : Int) : (l.set i v).getD j 0 = if i = j ∧ i < l.length then v else l.getD j 0 := by
  simp only [List.getD_eq_getElem?_getD, List.getElem?_set]
  by_cases h : i = j
  · subst h
    by_cases h2 : i < l.length
    · simp [h2]
    · simp [h2]
  · simp [h]
theorem getD_set_ne (l : List Int) (i j : Nat) (v : Int) (h : ¬ i = j) : (l.set i v).getD j 0 = l.getD j 0 := by rw [getD_set, if_neg (fun k => h k.1)]
theorem getD_put_ne (l : List Int) (o j : Nat) (v : Int) (h : ¬ o = j) (h1 : ¬ o + 1 = j) : (put l o v).getD j 0 = l.getD j 0 := by unfold put; rw [getD_set_ne _ _ _ _ h1, getD_set_ne _ _ _ _ h]
theorem get2_set_ne (l : List Int) (i o : Nat) (v : Int) (h : ¬ i = o) (h1 : ¬ i = o + 1) : get2 (l.set i v) o = get2 l o := by unfold get2; rw [getD_set_ne _ _ _ _ h, getD_set_ne _ _ _ _ h1]
theorem get2_put_ne (l : List Int) (i o : Nat) (v : Int) (h : i + 1 < o ∨ o + 1 < i) : get2 (put l i v) o = get2 l o := by
  unfold get2
  rw [getD_put_ne _ _ _ _ (by omega) (by omega), getD_put_ne _ _ _ _ (by omega) (by omega)]
theorem get2_put (l : List Int) (o : Nat) (v : Int) (h : o + 1 < l.length) : get2 (put l o v) o = v := by
  unfold get2 put
  rw [getD_set_ne _ _ _ _ (by omega), getD_set, if_pos ⟨rfl, by omega⟩, getD_set, if_pos ⟨rfl, by rw [List.length_set]; omega⟩]
  unfold hi8 lo8
  omega
theorem getD_clr : ∀ (k : Nat) (l : List Int) (o j : Nat), (clr k l o).getD j 0 = if o ≤ j ∧ j < o + k then 0 else l.getD j 0
  | 0, l, o, j => by rw [clr, if_neg (by omega)]
  | k + 1, l, o, j => by
    rw [clr, getD_clr k, getD_set]
    by_cases h1 : o + 1 ≤ j ∧ j < o + 1 + k
    · rw [if_pos h1, if_pos (by omega)]
    · rw [if_neg h1]
      by_cases h2 : o = j
      · subst h2
        rw [if_pos (by omega : o ≤ o ∧ o < o + (k + 1))]
        by_cases h3 : o < l.length
        · rw [if_pos ⟨rfl, h3⟩]
        · rw [if_neg (fun h => h3 h.2), List.getD_eq_getElem?_getD, List.getElem?_eq_none (by omega)]; rfl
      · rw [if_neg (fun h => h2 h.1), if_neg (by omega)]
theorem get2_clr_in (k : Nat) (l : List Int) (o j : Nat) (h : o ≤ j) (h1 : j + 1 < o + k) : get2 (clr k l o) j = 0 := by
  unfold get2
  rw [getD_clr, getD_clr, if_pos (by omega), if_pos (by omega)]
  rfl
theorem get2_clr_out (k : Nat) (l : List Int) (o j : Nat) (h : j + 1 < o ∨ o + k ≤ j) : get2 (clr k l o) j = get2 l j := by
  unfold get2
  rw [getD_clr, getD_clr, if_neg (by omega), if_neg (by omega)]

theorem page0_length (n : Nat) (l : List Int) (k v : Int) : (page0 n l k v).length = l.length := by
  unfold page0
  simp only [put_length, List.length_set, clr_length]

/-- A place of the fresh page that neither the head's writes nor the directory's touch. -/
theorem page0_facts (n : Nat) (l : List Int) (k v : Int) (hn : 64 ≤ n) (hl : l.length = n) :
    get2 (page0 n l k v) 6 = 32 ∧ get2 (page0 n l k v) 4 = 2 ∧ get2 (page0 n l k v) 12 = 2 ∧ get2 (page0 n l k v) 8 = 0 ∧ get2 (page0 n l k v) 10 = 0 ∧ (page0 n l k v).getD 0 0 = k := by
  unfold page0
  refine ⟨?_, ?_, ?_, ?_, ?_, ?_⟩
  · rw [get2_put_ne _ _ _ _ (by omega), get2_put_ne _ _ _ _ (by omega), get2_put_ne _ _ _ _ (by omega), get2_put_ne _ _ _ _ (by omega), get2_set_ne _ _ _ _ (by omega) (by omega), get2_set_ne _ _ _ _ (by omega) (by omega), get2_put_ne _ _ _ _ (by omega), get2_put_ne _ _ _ _ (by omega), get2_put _ _ _ (by simp [put_length, clr_length]; omega)]
  · rw [get2_put_ne _ _ _ _ (by omega), get2_put_ne _ _ _ _ (by omega), get2_put_ne _ _ _ _ (by omega), get2_put_ne _ _ _ _ (by omega), get2_set_ne _ _ _ _ (by omega) (by omega), get2_set_ne _ _ _ _ (by omega) (by omega), get2_put_ne _ _ _ _ (by omega), get2_put_ne _ _ _ _ (by omega), get2_put_ne _ _ _ _ (by omega), get2_put _ _ _ (by simp [put_length, clr_length]; omega)]
  · rw [get2_put_ne _ _ _ _ (by omega), get2_put_ne _ _ _ _ (by omega), get2_put _ _ _ (by simp [put_length, clr_length]; omega)]
  · rw [get2_put_ne _ _ _ _ (by omega), get2_put_ne _ _ _ _ (by omega), get2_put_ne _ _ _ _ (by omega), get2_put_ne _ _ _ _ (by omega), get2_set_ne _ _ _ _ (by omega) (by omega), get2_set_ne _ _ _ _ (by omega) (by omega), get2_put_ne _ _ _ _ (by omega), get2_put_ne _ _ _ _ (by omega), get2_put_ne _ _ _ _ (by omega), get2_put_ne _ _ _ _ (by omega), get2_set_ne _ _ _ _ (by omega) (by omega), get2_set_ne _ _ _ _ (by omega) (by omega), get2_clr_in _ _ _ _ (by omega) (by omega)]
  · rw [get2_put_ne _ _ _ _ (by omega), get2_put_ne _ _ _ _ (by omega), get2_put_ne _ _ _ _ (by omega), get2_put_ne _ _ _ _ (by omega), get2_set_ne _ _ _ _ (by omega) (by omega), get2_set_ne _ _ _ _ (by omega) (by omega), get2_put_ne _ _ _ _ (by omega), get2_put_ne _ _ _ _ (by omega), get2_put_ne _ _ _ _ (by omega), get2_put_ne _ _ _ _ (by omega), get2_set_ne _ _ _ _ (by omega) (by omega), get2_set_ne _ _ _ _ (by omega) (by omega), get2_clr_in _ _ _ _ (by omega) (by omega)]
  · rw [getD_put_ne _ _ _ _ (by omega) (by omega), getD_put_ne _ _ _ _ (by omega) (by omega), getD_put_ne _ _ _ _ (by omega) (by omega), getD_put_ne _ _ _ _ (by omega) (by omega), getD_set_ne _ _ _ _ (by omega), getD_set_ne _ _ _ _ (by omega), getD_put_ne _ _ _ _ (by omega) (by omega), getD_put_ne _ _ _ _ (by omega) (by omega), getD_put_ne _ _ _ _ (by omega) (by omega), getD_put_ne _ _ _ _ (by omega) (by omega), getD_set_ne _ _ _ _ (by omega), getD_set, if_pos ⟨rfl, by rw [clr_length]; omega⟩]

/-- A fresh page: nothing on the free list. -/
theorem alloc_fresh (n : Nat) (P : List Int) (size spare : Int) (h6 : get2 P 6 = 32) (h4 : get2 P 4 = 2) (h12 : get2 P 12 = 2) :
    allocSpec P n size spare [] = if (n : Int) - 8 - 32 < size + spare then (0, 0, P) else (32, 2, put (put P 6 (32 + size)) 4 3) := by
  have hr : roomOf P n = (n : Int) - 8 - 32 := by unfold roomOf; rw [h6, h12]; omega
  unfold allocSpec
  rw [hr, h6, h4]
  have : (if spare ≤ (n : Int) - 8 - 32 then findFit size 0 [] else none) = none := by split <;> rfl
  rw [this]
  rfl

/-- What stands in a law's frame: the page at b, its node in a variable's cell at x. -/
structure TS (w0 : World) (b x n : Nat) (l : List Int) (w : World) : Prop where
  box : w.cell? ⟨x, 0, none⟩ = some (.slice (some ⟨b, 0, none⟩) n n)
  pg : Pg w b n n l
  below : Below w0.heap.size w0 w
  b0 : w0.heap.size ≤ b
  x0 : w0.heap.size ≤ x
  xlt : x < w.heap.size
  xne : ¬ x = b

theorem TS.read {w0 w w' : World} {b x n : Nat} {l : List Int} (h : TS w0 b x n l w) (hb : Below w.heap.size w w') : TS w0 b x n l w' :=
  ⟨(cell_heap (hb.block _ h.xlt)).trans h.box, h.pg.below hb, h.below.trans (hb.mono h.below.size), h.b0, h.x0, Nat.lt_of_lt_of_le h.xlt hb.size, h.xne⟩
theorem TS.wrote {w0 w w' : World} {b x n : Nat} {l l' : List Int} (h : TS w0 b x n l w) (ho : Only b w w') (hp : Pg w' b n n l') : TS w0 b x n l' w' :=
  ⟨(ho.cell h.xlt h.xne).trans h.box, hp, ho.below h.below h.below.size h.b0, h.b0, h.x0, Nat.lt_of_lt_of_le h.xlt ho.size, h.xne⟩
theorem TS.other {w0 w w' : World} {b x n : Nat} {l : List Int} (h : TS w0 b x n l w) {g : Nat} (ho : Only g w w') (hg : w0.heap.size ≤ g) (h1 : ¬ b = g) (h2 : ¬ x = g) : TS w0 b x n l w' :=
  ⟨(ho.cell h.xlt h2).trans h.box, h.pg.kept (ho.block _ h.pg.buf.ic.lt h1), ho.below h.below h.below.size hg, h.b0, h.x0, Nat.lt_of_lt_of_le h.xlt ho.size, h.xne⟩
end Go.Proofs.Ybulkcnti
