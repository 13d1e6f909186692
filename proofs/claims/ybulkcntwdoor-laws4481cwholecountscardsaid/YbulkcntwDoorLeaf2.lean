import Derived.Test.YbulkcntwDoorLeaf
namespace Go.Proofs.YbulkcntwDoor
open Go.RowKit Go.Sort
set_option linter.unusedVariables false
set_option linter.unusedSimpArgs false

/-- A routes value, as newRoutes lays it. -/
abbrev rtv (sh sl k : Nat) : Value := .agg #[.int .u64 (sh : Int), .int .u64 (sl : Int), .int .i64 (k : Int), .slice none 0 0, .slice none 0 0, .slice none 0 0, .map none, .map none, .slice none 0 0, .slice none 0 0, .pointer none, .slice none 0 0, .bool false]
set_option maxHeartbeats 1000000 in
theorem newRoutes_any (sh sl k : Nat) (w : World) :
    Calls Ybad.prog 4 #[idv sh sl, .int .i64 (k : Int)] w fun e w' => e = .returned (rtv sh sl k) ∧ Below w.heap.size w w' := by
  go_enter Ybad.func4, Ybad.ntmps4
  go_wp2
  refine bodyPost_ret (v := rtv sh sl k) (by simp [results, Ybad.results4, go_sem]) rfl ?_
  exact ⟨rfl, ((Below.refl _ _).alloc (Nat.le_refl _) _).alloc (by simp) _⟩

set_option maxHeartbeats 1000000 in
theorem placed_any (rb g n cap : Nat) (w : World) (hm : w.cell? ⟨rb, 7, none⟩ = some (.map none)) (hn : n ≤ 15) (hc : n ≤ cap) (hc2 : cap ≤ 9223372036854775807) :
    Calls Ybad.prog 21 #[.pointer (some ⟨rb, 0, none⟩), .slice (some ⟨g, 0, none⟩) n cap] w fun e w' => e = .returned (.slice (some ⟨g, 0, none⟩) n cap) ∧ w' = w := by
  have h1 : ¬ (16 : Int) < (n : Int) := by omega
  have h2 : (n : Int) ≤ 16 := by omega
  have h3 : min (n : Int) 16 = (n : Int) := by omega
  have h4 : (n : Int) ≤ (cap : Int) := by omega
  go_enter Ybad.func21, Ybad.ntmps21
  go_wp2
  go_ret
  exact ⟨rfl, rfl⟩
set_option maxHeartbeats 400000 in
theorem meet_any (b1 b2 bx : Nat) (p : Option Addr) (n cap : Nat) (w : World) (h1 : w.cell? ⟨b1, 0, none⟩ = some (.slice p n cap)) (hn : n ≤ 15) :
    Calls Ybad.prog 22 #[.pointer (some ⟨b1, 0, none⟩), .pointer (some ⟨b2, 0, none⟩), .pointer (some ⟨bx, 0, none⟩)] w fun e w' => e = .returned (.bool true) ∧ ∃ q os, w' = grow (w.drewN q) os := by
  have d1 : decide ((n : Int) < 16) = true := by simp; omega
  have d2 : (n : Int) < 16 := by omega
  have mixed : Ybad.prog.follows .mixedOrders = true := by kernel_rfl
  have f1 := fun m os => cell_grown (w := w) (a := ⟨b1, 0, none⟩) (lt_of_cell h1) h1 m os
  go_enter Ybad.func22, Ybad.ntmps22
  go_wp2_with fail
  refine wp_region_quiet_grown (by assumption) (by kernel_rfl) ?_
  repeat (first | go_big_quiet_skip | quiet_step (fail))
  refine wpQuiet_nil ?_
  intro _ hw'
  obtain ⟨⟨nq, osq⟩, hw''⟩ := hw'
  subst hw''
  go_wp2
  go_ret
  exact ⟨rfl, nq, osq, rfl⟩
set_option maxHeartbeats 1000000 in
theorem spans_any (v : Value) (fh fl lh ll : Nat) (w : World) (hv : v.oneCell' = true) :
    Calls Ybad.prog 35 #[.agg #[v, .bool true], idv fh fl, idv lh ll] w fun e w' => e = .returned (.bool true) ∧ ∃ q os, w' = grow (w.drewN q) os := by
  go_enter Ybad.func35, Ybad.ntmps35
  go_wp2
  go_ret
  exact ⟨rfl, g3 _ _ _ _⟩
theorem isC_new (w : World) (c : Array Value) (t : TypeId) : isC (w.alloc (.cells c t)) w.heap.size := ⟨c, t, heap_alloc_new w _⟩
set_option maxHeartbeats 1000000 in
theorem prefixEnd_any (h l d k : Nat) (q1 : h < M) (q2 : l < M) (hd : d < 20) (hk : k ≤ 8) (w : World) :
    Calls Ybad.prog 11 #[idv h l, .int .i64 (d : Int), .int .i64 (k : Int)] w fun e w' => e = .returned (idv (endH h (min (d * k) 128)) (endL l (min (d * k) 128))) ∧ Below w.heap.size w w' := by
  have hdk : d * k ≤ 19 * 8 := Nat.mul_le_mul (by omega) hk
  obtain ⟨m, hm⟩ : ∃ m, m = min (d * k) 128 := ⟨_, rfl⟩
  have hm128 : m ≤ 128 := by omega
  have e1 : (d : Int) * (k : Int) = ((d * k : Nat) : Int) := by simp
  generalize d * k = dk at *
  have e2 : IntKind.i64.wrap (dk : Int) = (dk : Int) := i64w _ (by omega)
  have e3 : (if (128 : Int) < (dk : Int) then 128 else (dk : Int)) = (m : Int) := by split <;> omega
  have HQ : Hid (onesHi m < M ∧ onesLo m < M) := hid ⟨by unfold onesHi M; have : 0 < 2 ^ (64 - m) := Nat.pos_of_ne_zero (by simp); split; omega; split <;> omega, by unfold onesLo M; have : 0 < 2 ^ (128 - m) := Nat.pos_of_ne_zero (by simp); split <;> omega⟩
  have HO := hid (fun W => ones_any m hm128 W)
  have HN := hid (fun W => not_any (onesHi m) (onesLo m) HQ.out.1 HQ.out.2 W)
  have HR := hid (fun W => or_any h l (M - 1 - onesHi m) (M - 1 - onesLo m) q1 q2 (by have := hM; omega) (by have := hM; omega) W)
  rw [← hm]
  unfold endH endL
  clear hm
  generalize M - 1 - onesHi m = n1 at *
  generalize M - 1 - onesLo m = n2 at *
  generalize onesHi m = o1 at *
  generalize onesLo m = o2 at *
  generalize h ||| n1 = r1 at *
  generalize l ||| n2 = r2 at *
  clear q1 q2 hd hk hdk HQ
  obtain ⟨w1, hw1⟩ : ∃ w1, w1 = ((w.alloc (.cells #[.int .u64 (h : Int), .int .u64 (l : Int)] 26)).alloc (.cells #[.int .u64 0, .int .u64 0] 26)) := ⟨_, rfl⟩
  have hb1 : Below w.heap.size w w1 := hw1 ▸ gr_below (g2 _ _ _)
  have hsz : w1.heap.size = w.heap.size + 2 := by simp [hw1]
  have c1 : w1.cell? ⟨w.heap.size, 0, none⟩ = some (.int .u64 (h : Int)) := by simp [hw1]
  have c2 : w1.cell? ⟨w.heap.size, 1, none⟩ = some (.int .u64 (l : Int)) := by simp [hw1]
  have c3 : isC w1 (w.heap.size + 1) := by rw [hw1]; have := isC_new (w.alloc (.cells #[.int .u64 (h : Int), .int .u64 (l : Int)] 26)) #[.int .u64 0, .int .u64 0] 26; rwa [show (w.alloc (.cells #[.int .u64 (h : Int), .int .u64 (l : Int)] 26)).heap.size = w.heap.size + 1 by simp] at this
  have c4 : w1.cell? ⟨w.heap.size + 1, 0, none⟩ = some (.int .u64 0) := by simp [hw1]
  have c5 : w1.cell? ⟨w.heap.size + 1, 1, none⟩ = some (.int .u64 0) := by simp [hw1]
  go_enter Ybad.func11, Ybad.ntmps11
  go_wp2_with fail
  rw [← hw1]
  have HW := hid hw1
  have KQ : ∀ {W : World}, Below w1.heap.size w1 W → W.cell? ⟨w.heap.size + 1, 0, none⟩ = some (.int .u64 0) ∧ W.cell? ⟨w.heap.size + 1, 1, none⟩ = some (.int .u64 0) ∧ W.frozen? ⟨w.heap.size + 1, 0, none⟩ = false ∧ W.frozen? ⟨w.heap.size + 1, 1, none⟩ = false := fun {W} X => ⟨(X.cell (p := ⟨w.heap.size + 1, 0, none⟩) (by rw [hsz]; show w.heap.size + 1 < _; omega)).trans c4, (X.cell (p := ⟨w.heap.size + 1, 1, none⟩) (by rw [hsz]; show w.heap.size + 1 < _; omega)).trans c5, (c3.of_heap (X.block _ (by rw [hsz]; omega))).frozen _, (c3.of_heap (X.block _ (by rw [hsz]; omega))).frozen _⟩
  have KP : ∀ {W : World}, Below w1.heap.size w1 W → W.cell? ⟨w.heap.size, 0, none⟩ = some (.int .u64 (h : Int)) ∧ W.cell? ⟨w.heap.size, 1, none⟩ = some (.int .u64 (l : Int)) := fun {W} X => ⟨(X.cell (p := ⟨w.heap.size, 0, none⟩) (by rw [hsz]; show w.heap.size < _; omega)).trans c1, (X.cell (p := ⟨w.heap.size, 1, none⟩) (by rw [hsz]; show w.heap.size < _; omega)).trans c2⟩
  have KS : ∀ {W : World} {u v : Value}, Below w1.heap.size w1 W → ((W.setCell ⟨w.heap.size + 1, 0, none⟩ u).setCell ⟨w.heap.size + 1, 1, none⟩ v).cell? ⟨w.heap.size, 0, none⟩ = some (.int .u64 (h : Int)) ∧ ((W.setCell ⟨w.heap.size + 1, 0, none⟩ u).setCell ⟨w.heap.size + 1, 1, none⟩ v).cell? ⟨w.heap.size, 1, none⟩ = some (.int .u64 (l : Int)) := fun {W u v} X => by
    rw [sc_ne _ _ _ _ _ _ (by omega), sc_ne _ _ _ _ _ _ (by omega), sc_ne _ _ _ _ _ _ (by omega), sc_ne _ _ _ _ _ _ (by omega)]
    exact KP X
  clear hw1
  go_region_held3 (fun w' => w'.cell? ⟨w.heap.size, 0, none⟩ = some (.int .u64 (h : Int)) ∧ w'.cell? ⟨w.heap.size, 1, none⟩ = some (.int .u64 (l : Int))) (first | (exact KP X3) | (exact KS X3) | (exact KP X2) | (exact KP X1) | (exact KP (Below.refl _ _).drew)) (first | (go_at_call 17; with_reducible (refine Calls.mono (HO.out _) ?_); rintro e w2 ⟨rfl, b2⟩; have X1 := ((Below.refl w1.heap.size w1).drew).trans (b2.mono (Nat.le_refl _))) | (go_at_call 18; with_reducible (refine Calls.mono (HN.out _) ?_); rintro e w3 ⟨rfl, b3⟩; have X2 := X1.trans (b3.mono X1.size)) | (go_at_call 16; with_reducible (refine Calls.mono (HR.out _) ?_); rintro e w4 ⟨rfl, b4⟩; have X3 := X2.trans (b4.mono X2.size); obtain ⟨z0, z1, z2, z3⟩ := KQ X3))
  go_wp2
  have s0 : (w4.setCell ⟨w.heap.size + 1, 0, none⟩ (.int .u64 (r1 : Int))).cell? ⟨w.heap.size + 1, 0, none⟩ = some (.int .u64 (r1 : Int)) := World.cell?_setCell_same _ _ _ z0
  have s1 : ((w4.setCell ⟨w.heap.size + 1, 0, none⟩ (.int .u64 (r1 : Int))).setCell ⟨w.heap.size + 1, 1, none⟩ (.int .u64 (r2 : Int))).cell? ⟨w.heap.size + 1, 1, none⟩ = some (.int .u64 (r2 : Int)) := World.cell?_setCell_same _ _ _ ((sc_off _ _ _ _ _ _ (by omega)).trans z1)
  refine bodyPost_ret (v := idv r1 r2) (by simp [results, Ybad.results11, go_sem, s0, s1]) rfl ?_
  exact ⟨rfl, ((hb1.trans (X3.mono (by rw [hsz]; omega))).setCell (by simp) _).setCell (by simp) _⟩
end Go.Proofs.YbulkcntwDoor
