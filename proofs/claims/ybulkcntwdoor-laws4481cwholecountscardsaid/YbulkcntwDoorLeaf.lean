import Derived.Test.YbulkcntwDoorFrame
import Derived.Shelf.SlSortCmp.QuietGrown
namespace Go.Proofs.YbulkcntwDoor
open Go.RowKit Go.Sort
set_option linter.unusedVariables false
set_option linter.unusedSimpArgs false

theorem gr_below {w w' : World} (h : ∃ q os, w' = grow (w.drewN q) os) : Below w.heap.size w w' := by
  obtain ⟨q, os, rfl⟩ := h
  refine ⟨rfl, rfl, rfl, by rw [size_grow]; exact Nat.le_add_right _ _, fun k hk => ?_⟩
  simp only [grow]
  rw [Array.getElem?_append_left (by exact hk)]
  rfl

theorem g3 (w : World) (a b c : Obj) : ∃ q os, (((w.alloc a).alloc b).alloc c) = grow (w.drewN q) os := ⟨0, _, by rw [alloc_eq_grow, alloc_eq_grow, alloc_eq_grow, grow_grow, grow_grow]; rfl⟩
theorem g2 (w : World) (a b : Obj) : ∃ q os, ((w.alloc a).alloc b) = grow (w.drewN q) os := ⟨0, _, by rw [alloc_eq_grow, alloc_eq_grow, grow_grow]; rfl⟩

theorem gr_after {w w1 : World} (h : ∃ q os, w1 = grow (w.drewN q) os) (n : Nat) (os : Array Obj) : ∃ q os', grow (w1.drewN n) os = grow (w.drewN q) os' := by
  obtain ⟨q, os1, rfl⟩ := h
  exact ⟨q + n, os1 ++ os, by show grow (grow ((w.drewN q).drewN n) os1) os = _; rw [grow_grow, World.drewN_drewN]⟩

set_option maxHeartbeats 2000000 in
theorem sub_g (h1 l1 h2 l2 : Nat) (w : World) :
    Calls Ybad.prog 12 #[idv h1 l1, idv h2 l2] w fun e w' => e = .returned (idv (subH h1 l1 h2 l2) (subL l1 l2)) ∧ ∃ q os, w' = grow (w.drewN q) os := by
  obtain ⟨b, hb⟩ : ∃ b : Nat, b = if l1 < l2 then 1 else 0 := ⟨_, rfl⟩
  have hb1 : b ≤ 1 := by rw [hb]; split <;> omega
  obtain ⟨l3, hl3⟩ : ∃ l3 : Nat, l3 = (l1 + M - l2) % M := ⟨_, rfl⟩
  obtain ⟨h3, hh3⟩ : ∃ h3 : Nat, h3 = (h1 + M - h2 - b) % M := ⟨_, rfl⟩
  have e1 : ∀ W, (callFunc 19 #[.int .u64 (l1 : Int), .int .u64 (l2 : Int), .int .u64 0]).run Ybad.prog W = .ok (.value (.tuple #[.int .u64 (l3 : Int), .int .u64 (b : Int)])) W := fun W => by
    have := run_sub l1 l2 0 (by omega) W
    rw [hl3, hb]
    simpa using this
  have e2 : ∀ W, (callFunc 19 #[.int .u64 (h1 : Int), .int .u64 (h2 : Int), .int .u64 (b : Int)]).run Ybad.prog W = .ok (.value (.tuple #[.int .u64 (h3 : Int), .int .u64 ((if h1 < h2 + b then 1 else 0 : Nat) : Int)])) W := fun W => by
    rw [hh3]; exact run_sub h1 h2 b hb1 W
  unfold subH subL
  rw [← hb, ← hl3, ← hh3]
  clear hb hl3 hh3
  generalize ((if h1 < h2 + b then 1 else 0 : Nat) : Int) = bb at e2
  go_enter Ybad.func12, Ybad.ntmps12
  go_wp2
  refine bodyPost_ret (v := idv h3 l3) (by simp [results, Ybad.results12, go_sem]) rfl ?_
  exact ⟨rfl, g3 _ _ _ _⟩

set_option maxHeartbeats 2000000 in
theorem compare_g (h1 l1 h2 l2 : Nat) (w : World) :
    Calls Ybad.prog 24 #[idv h1 l1, idv h2 l2] w fun e w' => e = .returned (.int .i64 (cmp h1 l1 h2 l2)) ∧ ∃ q os, w' = grow (w.drewN q) os := by
  unfold cmp
  by_cases c1 : h1 < h2
  · rw [if_pos c1]
    have d1 : decide ((h1 : Int) < (h2 : Int)) = true := by simp; omega
    go_enter Ybad.func24, Ybad.ntmps24
    go_wp2
    go_ret
    exact ⟨rfl, g2 _ _ _⟩
  · rw [if_neg c1]
    have d1 : decide ((h1 : Int) < (h2 : Int)) = false := by simp; omega
    by_cases c2 : h2 < h1
    · rw [if_pos c2]
      have d2 : decide ((h2 : Int) < (h1 : Int)) = true := by simp; omega
      go_enter Ybad.func24, Ybad.ntmps24
      go_wp2
      go_ret
      exact ⟨rfl, g2 _ _ _⟩
    · rw [if_neg c2]
      have d2 : decide ((h2 : Int) < (h1 : Int)) = false := by simp; omega
      by_cases c3 : l1 < l2
      · rw [if_pos c3]
        have d3 : decide ((l1 : Int) < (l2 : Int)) = true := by simp; omega
        go_enter Ybad.func24, Ybad.ntmps24
        go_wp2
        go_ret
        exact ⟨rfl, g2 _ _ _⟩
      · rw [if_neg c3]
        have d3 : decide ((l1 : Int) < (l2 : Int)) = false := by simp; omega
        by_cases c4 : l2 < l1
        · rw [if_pos c4]
          have d4 : decide ((l2 : Int) < (l1 : Int)) = true := by simp; omega
          go_enter Ybad.func24, Ybad.ntmps24
          go_wp2
          go_ret
          exact ⟨rfl, g2 _ _ _⟩
        · rw [if_neg c4]
          have d4 : decide ((l2 : Int) < (l1 : Int)) = false := by simp; omega
          go_enter Ybad.func24, Ybad.ntmps24
          go_wp2
          go_ret
          exact ⟨rfl, g2 _ _ _⟩

/-- The same identifier. -/
def same (a b : C) : Bool := decide ((a.hi : Int) = (b.hi : Int)) && decide ((a.lo : Int) = (b.lo : Int))
theorem same_iff (a b : C) : same a b = true ↔ a.hi = b.hi ∧ a.lo = b.lo := by unfold same; simp; omega
set_option maxHeartbeats 2000000 in
theorem eq_g (a b : C) (w : World) :
    Calls Ybad.prog 31 #[a.val, b.val] w fun e w' => e = .returned (.bool (same a b)) ∧ ∃ q os, w' = grow (w.drewN q) os := by
  obtain ⟨ah, al, aa⟩ := a
  obtain ⟨bh, bl, ba⟩ := b
  unfold same
  dsimp only [C.val]
  by_cases c1 : (ah : Int) = (bh : Int)
  · by_cases c2 : (al : Int) = (bl : Int)
    · have e1 : ah = bh := by omega
      have e2 : al = bl := by omega
      subst e1 e2
      clear c1 c2
      go_enter Ybad.func31, Ybad.ntmps31
      go_wp2
      go_ret
      exact ⟨by simp, g2 _ _ _⟩
    · have e1 : ah = bh := by omega
      subst e1
      go_enter Ybad.func31, Ybad.ntmps31
      go_wp2
      go_ret
      exact ⟨by simp [c2], g2 _ _ _⟩
  · go_enter Ybad.func31, Ybad.ntmps31
    go_wp2
    go_ret
    exact ⟨by simp [c1], g2 _ _ _⟩

/-- A share, as she is handed on. -/
abbrev shv (c : C) (fh fl lh ll : Nat) : Value := .agg #[.int .u64 (c.hi : Int), .int .u64 (c.lo : Int), .string c.ad, .int .u64 (fh : Int), .int .u64 (fl : Int), .int .u64 (lh : Int), .int .u64 (ll : Int)]
def holdsV (fh fl lh ll h l : Nat) : Bool := decide (cmp (subH h l fh fl) (subL l fl) (subH lh ll fh fl) (subL ll fl) ≤ 0)
set_option maxHeartbeats 1000000 in
theorem holds_g (c : C) (fh fl lh ll h l : Nat) (w : World) :
    Calls Ybad.prog 36 #[shv c fh fl lh ll, idv h l] w fun e w' => e = .returned (.bool (holdsV fh fl lh ll h l)) ∧ ∃ q os, w' = grow (w.drewN q) os := by
  have H1 := hid (fun W => sub_g h l fh fl W)
  have H2 := hid (fun W => sub_g lh ll fh fl W)
  have H3 := hid (fun W => compare_g (subH h l fh fl) (subL l fl) (subH lh ll fh fl) (subL ll fl) W)
  unfold holdsV
  generalize subH h l fh fl = a1 at *
  generalize subL l fl = a2 at *
  generalize subH lh ll fh fl = a3 at *
  generalize subL ll fl = a4 at *
  generalize cmp a1 a2 a3 a4 = r at *
  obtain ⟨w1, hw1⟩ : ∃ w1, w1 = ((w.alloc (.cells #[.int .u64 (c.hi : Int), .int .u64 (c.lo : Int), .string c.ad, .int .u64 (fh : Int), .int .u64 (fl : Int), .int .u64 (lh : Int), .int .u64 (ll : Int)] 65)).alloc (.cells #[.int .u64 (h : Int), .int .u64 (l : Int)] 26)) := ⟨_, rfl⟩
  have f : ∀ n os, (grow (w1.drewN n) os).cell? ⟨w.heap.size, 3, none⟩ = some (.int .u64 (fh : Int)) ∧ (grow (w1.drewN n) os).cell? ⟨w.heap.size, 4, none⟩ = some (.int .u64 (fl : Int)) ∧ (grow (w1.drewN n) os).cell? ⟨w.heap.size, 5, none⟩ = some (.int .u64 (lh : Int)) ∧ (grow (w1.drewN n) os).cell? ⟨w.heap.size, 6, none⟩ = some (.int .u64 (ll : Int)) ∧ (grow (w1.drewN n) os).cell? ⟨w.heap.size + 1, 0, none⟩ = some (.int .u64 (h : Int)) ∧ (grow (w1.drewN n) os).cell? ⟨w.heap.size + 1, 1, none⟩ = some (.int .u64 (l : Int)) := fun n os => by
    refine ⟨cell_grown (by simp [hw1]; omega) ?_ n os, cell_grown (by simp [hw1]; omega) ?_ n os, cell_grown (by simp [hw1]; omega) ?_ n os, cell_grown (by simp [hw1]; omega) ?_ n os, cell_grown (by simp [hw1]) ?_ n os, cell_grown (by simp [hw1]) ?_ n os⟩ <;> simp [hw1]
  have f3 := fun n os => (f n os).1
  have f4 := fun n os => (f n os).2.1
  have f5 := fun n os => (f n os).2.2.1
  have f6 := fun n os => (f n os).2.2.2.1
  have f7 := fun n os => (f n os).2.2.2.2.1
  have f8 := fun n os => (f n os).2.2.2.2.2
  clear f
  have mixed : Ybad.prog.follows .mixedOrders = true := by kernel_rfl
  go_enter Ybad.func36, Ybad.ntmps36
  go_wp2_with fail
  rw [← hw1]
  have HW := hid hw1
  clear hw1
  go_quiet_grown (first | (go_at_call 12; with_reducible (refine Calls.grown_of (H1.out _))) | (go_at_call 12; with_reducible (refine Calls.grown_of (H2.out _))) | (go_at_call 24; with_reducible (refine Calls.grown_of (H3.out _))))
  go_wp2
  go_ret
  exact ⟨rfl, gr_after (by rw [HW.out]; exact g2 _ _ _) nq osq⟩

/-- Where the node's box and its own identifier lie. -/
structure Slf (bx rb sh sl : Nat) (w : World) : Prop where
  box : w.cell? ⟨bx, 0, none⟩ = some (.pointer (some ⟨rb, 0, none⟩))
  hi : w.cell? ⟨rb, 0, none⟩ = some (.int .u64 (sh : Int))
  lo : w.cell? ⟨rb, 1, none⟩ = some (.int .u64 (sl : Int))
theorem lt_of_cell {w : World} {b i : Nat} {v : Value} (h : w.cell? ⟨b, i, none⟩ = some v) : b < w.heap.size := World.block_lt_of_cell? w ⟨b, i, none⟩ h
/-- How the ring orders two contacts. -/
def rcmp (sh sl : Nat) (a b : C) : Int := cmp (subH a.hi a.lo sh sl) (subL a.lo sl) (subH b.hi b.lo sh sl) (subL b.lo sl)
set_option maxHeartbeats 1000000 in
theorem ring_g (bx rb sh sl : Nat) (a b : C) (w : World) (hS : Slf bx rb sh sl w) :
    Calls Ybad.prog 29 #[a.val, b.val, .pointer (some ⟨bx, 0, none⟩)] w fun e w' => e = .returned (.int .i64 (rcmp sh sl a b)) ∧ ∃ q os, w' = grow (w.drewN q) os := by
  obtain ⟨ah, al, aa⟩ := a
  obtain ⟨bh, bl, ba⟩ := b
  unfold rcmp
  dsimp only [C.val]
  have H1 := hid (fun W => sub_g ah al sh sl W)
  have H2 := hid (fun W => sub_g bh bl sh sl W)
  have H3 := hid (fun W => compare_g (subH ah al sh sl) (subL al sl) (subH bh bl sh sl) (subL bl sl) W)
  generalize subH ah al sh sl = a1 at *
  generalize subL al sl = a2 at *
  generalize subH bh bl sh sl = a3 at *
  generalize subL bl sl = a4 at *
  generalize cmp a1 a2 a3 a4 = r at *
  obtain ⟨w1, hw1⟩ : ∃ w1, w1 = ((w.alloc (.cells #[.int .u64 (ah : Int), .int .u64 (al : Int), .string aa] 43)).alloc (.cells #[.int .u64 (bh : Int), .int .u64 (bl : Int), .string ba] 43)) := ⟨_, rfl⟩
  have hb1 : Below w.heap.size w w1 := hw1 ▸ gr_below (g2 _ _ _)
  have hsz : w1.heap.size = w.heap.size + 2 := by simp [hw1]
  have l1 := lt_of_cell hS.box
  have l2 := lt_of_cell hS.hi
  have f0 := fun n os => cell_grown (w := w1) (a := ⟨bx, 0, none⟩) (by rw [hsz]; show bx < _; omega) ((hb1.cell (p := ⟨bx, 0, none⟩) l1).trans hS.box) n os
  have f1 := fun n os => cell_grown (w := w1) (a := ⟨rb, 0, none⟩) (by rw [hsz]; show rb < _; omega) ((hb1.cell (p := ⟨rb, 0, none⟩) l2).trans hS.hi) n os
  have f2 := fun n os => cell_grown (w := w1) (a := ⟨rb, 1, none⟩) (by rw [hsz]; show rb < _; omega) ((hb1.cell (p := ⟨rb, 1, none⟩) l2).trans hS.lo) n os
  have f3 := fun n os => cell_grown (w := w1) (a := ⟨w.heap.size, 0, none⟩) (v := .int .u64 (ah : Int)) (by rw [hsz]; show w.heap.size < _; omega) (by simp [hw1]) n os
  have f4 := fun n os => cell_grown (w := w1) (a := ⟨w.heap.size, 1, none⟩) (v := .int .u64 (al : Int)) (by rw [hsz]; show w.heap.size < _; omega) (by simp [hw1]) n os
  have f5 := fun n os => cell_grown (w := w1) (a := ⟨w.heap.size + 1, 0, none⟩) (v := .int .u64 (bh : Int)) (by rw [hsz]; show w.heap.size + 1 < _; omega) (by simp [hw1]) n os
  have f6 := fun n os => cell_grown (w := w1) (a := ⟨w.heap.size + 1, 1, none⟩) (v := .int .u64 (bl : Int)) (by rw [hsz]; show w.heap.size + 1 < _; omega) (by simp [hw1]) n os
  clear hS hb1 hsz l1 l2
  have mixed : Ybad.prog.follows .mixedOrders = true := by kernel_rfl
  go_enter Ybad.func29, Ybad.ntmps29
  go_wp2_with fail
  rw [← hw1]
  have HW := hid hw1
  clear hw1
  go_quiet_grown (first | (go_at_call 12; with_reducible (refine Calls.grown_of (H1.out _))) | (go_at_call 12; with_reducible (refine Calls.grown_of (H2.out _))) | (go_at_call 24; with_reducible (refine Calls.grown_of (H3.out _))))
  go_wp2
  go_ret
  exact ⟨rfl, gr_after (by rw [HW.out]; exact g2 _ _ _) nq osq⟩
end Go.Proofs.YbulkcntwDoor
