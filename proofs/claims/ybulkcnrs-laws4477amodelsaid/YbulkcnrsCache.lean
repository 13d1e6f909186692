import Derived.Test.YbulkcnrsList
import Derived.Test.YbulkcnrsMap
import Derived.Test.YbulkcnrsLocks
import Derived.Deep.QuietTactic
import Derived.BigQuiet
import Derived.Deep.RegionHeld3
namespace Go.Proofs.Ybulkcnrs
open Go.RowKit Go.Maps Go.ChangeMaps Go.MuLone
set_option linter.unusedVariables false
set_option linter.unusedSimpArgs false
attribute [local go_sem] isC_setCell isC_drew isC_allocs isM_setCell isM_drew isM_allocs sb_cell sb_frozen sb_isC sb_size sb_isM sb_drew

set_option maxHeartbeats 1600000 in
theorem newCache_any (lim : Int) (w : World) :
    Calls Yba.prog 5 #[.int .i64 lim] w fun e w' => e = .returned (pt (w.heap.size + 2)) ∧
      w' = ((w.alloc (.cells #[pt w.heap.size, pt w.heap.size, .pointer none, .nilIface, .int .i64 0] 67)).alloc (.map #[] 0)).alloc (.cells #[.int .i32 0, .int .u32 0, .int .i64 lim, .int .i64 0, pt w.heap.size, .map (some (w.heap.size + 1))] 49) := by
  have hmm := @run_makeMap Yba.prog
  go_enter Yba.func5, Yba.ntmps5
  go_wp2
  go_ret
  exact ⟨rfl, rfl⟩

/-- The cache's own six cells. -/
structure CacheAt (w : World) (cb lb mb : Nat) (lim size : Int) : Prop where
  c0 : w.cell? ⟨cb, 0, none⟩ = some (.int .i32 0)
  c1 : w.cell? ⟨cb, 1, none⟩ = some (.int .u32 0)
  c2 : w.cell? ⟨cb, 2, none⟩ = some (.int .i64 lim)
  c3 : w.cell? ⟨cb, 3, none⟩ = some (.int .i64 size)
  c4 : w.cell? ⟨cb, 4, none⟩ = some (pt lb)
  c5 : w.cell? ⟨cb, 5, none⟩ = some (.map (some mb))
  ic : isC w cb

/-- Locked and unlocked again: nothing has turned. -/
theorem relock (w : World) (a : Addr) (u v : Value) (h : w.cell? a = some v) : (w.setCell a u).setCell a v = w := by
  unfold World.setCell
  have : (w.heap.modify a.block fun | .cells c elem frozen => .cells (if a.spot.isSome then c else c.setIfInBounds a.off u) elem frozen | o => o).modify a.block (fun | .cells c elem frozen => .cells (if a.spot.isSome then c else c.setIfInBounds a.off v) elem frozen | o => o) = w.heap := by
    apply Array.ext_getElem?
    intro i
    simp only [Array.getElem?_modify]
    by_cases hi : a.block = i
    · subst hi
      simp only [if_true]
      unfold World.cell? at h
      cases hh : w.heap[a.block]? with
      | none => simp
      | some x =>
        rw [hh] at h
        cases x <;> simp
        simp at h
        obtain ⟨h1, h2⟩ := h
        simp [h1]
        apply Array.ext_getElem?
        intro j
        rw [Array.getElem?_setIfInBounds]
        by_cases hj : a.off = j
        · subst hj
          simp
          obtain ⟨h3, h4⟩ := Array.getElem?_eq_some_iff.1 h2
          rw [if_pos h3, h2]
        · simp [hj]
    · simp [hi]
  exact congrArg (fun h => ({ w with heap := h } : World)) this

set_option maxHeartbeats 1600000 in
theorem get_miss (cb lb mb ck : Nat) (lim size k : Int) (es : Array MapEntry) (M : List (Int × Nat)) (w : World) (hC : CacheAt w cb lb mb lim size) (hF : MapFit es M) (hm : isM w mb es ck)
    (hw : (Lit.int .i64 k).wf = true) (hk : ∀ b, (k, b) ∉ M) :
    Calls Yba.prog 9 #[pt cb, .int .i64 k] w fun e w' => e = .returned (.tuple #[.int .u8 0, .slice none 0 0, .bool false]) ∧ w' = w := by
  have c0 := hC.c0
  have c5 := hC.c5
  have z := hC.ic.frozen
  have hl := look_miss (mb := mb) (ck := ck) hF hw hk
  go_enter_defers Yba.func9, Yba.ntmps9
  go_wp2_with (go_at_call 15; refine (lock_free Yba.muLib ⟨cb, 0, none⟩ _ c0 (z 0)).mono ?_; rintro e w' ⟨rfl, rfl⟩)
  refine leaves_cons (f := 16) (args := #[.pointer (some ⟨cb, 0, none⟩)]) (by simp) (by simp [go_sem]) ?_
  refine (unlock_deferred Yba.muLib ⟨cb, 0, none⟩ .returning _ ?_ ?_).mono ?_
  · exact World.cell?_setCell_same w _ _ c0
  · simp [z]
  rintro e u' w'' ⟨rfl, rfl, rfl⟩
  exact ⟨_, results_tmp3 rfl _ _ _, rfl, relock w _ _ _ c0⟩

theorem ta53 (b : Nat) (w : World) : (Instr.typeAssert (.iface 53 (pt b)) 20 53 false).run Yba.prog w = .ok (pt b) w := by kernel_rfl
theorem ta53ok (b : Nat) (w : World) : (Instr.typeAssert (.iface 53 (pt b)) 20 53 true).run Yba.prog w = .ok (.tuple #[pt b, .bool true]) w := by kernel_rfl
theorem mi53 (b : Nat) (w : World) : (Instr.makeInterface 53 (pt b)).run Yba.prog w = .ok (.iface 53 (pt b)) w := by kernel_rfl

theorem sc_ne (w : World) (b i b' j : Nat) (v : Value) (h : ¬ b = b') : (w.setCell ⟨b, i, none⟩ v).cell? ⟨b', j, none⟩ = w.cell? ⟨b', j, none⟩ :=
  World.cell?_setCell_other _ _ _ _ (by simp [h])
theorem sc_off (w : World) (b i b' j : Nat) (v : Value) (h : ¬ i = j) : (w.setCell ⟨b, i, none⟩ v).cell? ⟨b', j, none⟩ = w.cell? ⟨b', j, none⟩ :=
  World.cell?_setCell_other _ _ _ _ (by simp [h])

set_option maxHeartbeats 3200000 in
theorem get_first (cb lb mb ck eb ob xb n c : Nat) (lim size k t : Int) (es : Array MapEntry) (M : List (Int × Nat)) (w : World) (hC : CacheAt w cb lb mb lim size) (hF : MapFit es M) (hm : isM w mb es ck)
    (hk : (k, eb) ∈ M) (hcl : ¬ cb = lb) (hce : ¬ cb = eb) (hco : ¬ cb = ob) (il : isC w lb) (ie : isC w eb)
    (ce2 : w.cell? ⟨eb, 2, none⟩ = some (pt lb)) (ce3 : w.cell? ⟨eb, 3, none⟩ = some (.iface 53 (pt ob))) (cl0 : w.cell? ⟨lb, 0, none⟩ = some (pt eb))
    (co1 : w.cell? ⟨ob, 1, none⟩ = some (.int .u8 t)) (co2 : w.cell? ⟨ob, 2, none⟩ = some (.slice (some ⟨xb, 0, none⟩) n c)) :
    Calls Yba.prog 9 #[pt cb, .int .i64 k] w fun e w' => e = .returned (.tuple #[.int .u8 t, .slice (some ⟨xb, 0, none⟩) n c, .bool true]) ∧ ∃ nq, w' = w.drewN nq := by
  have c0 := hC.c0
  have c4 := hC.c4
  have c5 := hC.c5
  have z := hC.ic.frozen
  have hl := look_hit (mb := mb) (ck := ck) hF hk
  have hta := ta53
  go_enter_defers Yba.func9, Yba.ntmps9
  go_wp2_with (go_at_call 15; refine (lock_free Yba.muLib ⟨cb, 0, none⟩ _ c0 (z 0)).mono ?_; rintro e w' ⟨rfl, rfl⟩)
  refine (moveToFront_first lb eb _ ((sc_ne _ _ _ _ _ _ hce).trans ce2) ((sc_ne _ _ _ _ _ _ hcl).trans cl0) (by rw [isC_setCell]; exact ie) (by rw [isC_setCell]; exact il)).mono ?_
  rintro e w' ⟨rfl, rfl⟩
  go_wp2
  go_quiet (fail)
  go_wp2
  refine leaves_cons (f := 16) (args := #[.pointer (some ⟨cb, 0, none⟩)]) (by simp) (by simp [go_sem]) ?_
  refine (unlock_deferred Yba.muLib ⟨cb, 0, none⟩ .returning _ ?_ ?_).mono ?_
  · simp [World.cell?_setCell_same w _ _ c0]
  · simp [z]
  rintro e u' w'' ⟨rfl, rfl, rfl⟩
  refine ⟨_, results_tmp3 rfl _ _ _, rfl, nq, ?_⟩
  exact congrArg (fun x => x.drewN nq) (relock w _ _ _ c0)

set_option maxHeartbeats 3200000 in
theorem add_big (cb lb mb ck xb n c : Nat) (lim size k t : Int) (es : Array MapEntry) (M : List (Int × Nat)) (w : World) (hC : CacheAt w cb lb mb lim size) (hF : MapFit es M) (hm : isM w mb es ck)
    (hw : (Lit.int .i64 k).wf = true) (hk : ∀ b, (k, b) ∉ M) (hn : lim < n) (hn2 : n ≤ maxLen) :
    Calls Yba.prog 6 #[pt cb, .int .i64 k, .int .u8 t, .slice (some ⟨xb, 0, none⟩) n c] w fun e w' => e = .returned (.tuple #[]) ∧ w' = w := by
  have c0 := hC.c0
  have c2 := hC.c2
  have c5 := hC.c5
  have z := hC.ic.frozen
  have hl := look_miss (mb := mb) (ck := ck) hF hw hk
  go_enter_defers Yba.func6, Yba.ntmps6
  go_wp2_with (go_at_call 15; refine (lock_free Yba.muLib ⟨cb, 0, none⟩ _ c0 (z 0)).mono ?_; rintro e w' ⟨rfl, rfl⟩)
  refine leaves_cons (f := 16) (args := #[.pointer (some ⟨cb, 0, none⟩)]) (by simp) (by simp [go_sem]) ?_
  refine (unlock_deferred Yba.muLib ⟨cb, 0, none⟩ .returning _ ?_ ?_).mono ?_
  · exact World.cell?_setCell_same w _ _ c0
  · simp [z]
  rintro e u' w'' ⟨rfl, rfl, rfl⟩
  exact ⟨_, results_none rfl _ _ _, rfl, relock w _ _ _ c0⟩
end Go.Proofs.Ybulkcnrs
