import Derived.Test.YbulkcnrsAdd
import Derived.Test.YbulkcnrsBytes
import Derived.ProofKit
import Derived.OpenShut
import Derived.ShutString
namespace Go.Proofs.Ybulkcnrs.lawS4477AFresh
open Go.ChangeShapes Go.WideShapes Go.ChangeAt Go.RowKit
open Go.ChangeMaps (open_string shut_string)
open Go.Maps Go.ChangeMaps Go.MuLone
set_option linter.unusedVariables false
set_option linter.unusedSimpArgs false

theorem own : ownKnob Yba.prog.godebug = none := by kernel_rfl

theorem i8_bounds {a : Int} (h : (Lit.int .i8 a).wf = true) : -128 ≤ a ∧ a ≤ 127 := by
  have : IntKind.i8.min ≤ a ∧ a ≤ IntKind.i8.max := by simpa [Lit.wf] using h
  have h1 : IntKind.i8.min = -128 := by decide
  have h2 : IntKind.i8.max = 127 := by decide
  rw [h1, h2] at this
  exact this

/-- The world behind newCache and '[]byte(s)'. -/
def w2 (w : World) (lim : Int) (r : Array Value) (f : Nat × Nat) : World :=
  (((w.alloc (.cells #[pt w.heap.size, pt w.heap.size, .pointer none, .nilIface, .int .i64 0] 67)).alloc (.map #[] 0)).alloc (.cells #[.int .i32 0, .int .u32 0, .int .i64 lim, .int .i64 0, pt w.heap.size, .map (some (w.heap.size + 1))] 49)).alloc (.cells r 5 f)

theorem heap_at (w : World) (o : Obj) (n : Nat) (h : n = w.heap.size) : (w.alloc o).heap[n]? = some o := by
  subst h
  show (w.heap.push o)[w.heap.size]? = _
  simp

section
variable (w : World) (lim : Int) (r : Array Value) (f : Nat × Nat)
theorem w2_size : (w2 w lim r f).heap.size = w.heap.size + 4 := by unfold w2; simp
theorem w2_l : (w2 w lim r f).heap[w.heap.size]? = some (.cells #[pt w.heap.size, pt w.heap.size, .pointer none, .nilIface, .int .i64 0] 67) := by
  unfold w2
  rw [Below.heap_alloc _ _ _ (by simp; omega), Below.heap_alloc _ _ _ (by simp; omega), Below.heap_alloc _ _ _ (by simp)]
  exact heap_at _ _ _ rfl
theorem w2_m : (w2 w lim r f).heap[w.heap.size + 1]? = some (.map #[] 0) := by
  unfold w2
  rw [Below.heap_alloc _ _ _ (by simp), Below.heap_alloc _ _ _ (by simp)]
  exact heap_at _ _ _ (by simp)
theorem w2_c : (w2 w lim r f).heap[w.heap.size + 2]? = some (.cells #[.int .i32 0, .int .u32 0, .int .i64 lim, .int .i64 0, pt w.heap.size, .map (some (w.heap.size + 1))] 49) := by
  unfold w2
  rw [Below.heap_alloc _ _ _ (by simp)]
  exact heap_at _ _ _ (by simp)
theorem w2_old (b : Nat) (h : b < w.heap.size) : (w2 w lim r f).heap[b]? = w.heap[b]? := by
  unfold w2
  rw [Below.heap_alloc _ _ _ (by simp; omega), Below.heap_alloc _ _ _ (by simp; omega), Below.heap_alloc _ _ _ (by simp; omega), Below.heap_alloc _ _ _ h]
theorem w2_below : Below w.heap.size w (w2 w lim r f) := ⟨rfl, rfl, rfl, by rw [w2_size]; omega, fun k hk => w2_old w lim r f k hk⟩
end

theorem cell_of {w : World} {b : Nat} {c : Array Value} {t : TypeId} {f : Nat × Nat} (h : w.heap[b]? = some (.cells c t f)) (i : Nat) : w.cell? ⟨b, i, none⟩ = c[i]? := by
  unfold World.cell?
  simp only [h]
  rfl

theorem w2_cache (w : World) (lim : Int) (r : Array Value) (f : Nat × Nat) : CacheAt (w2 w lim r f) (w.heap.size + 2) w.heap.size (w.heap.size + 1) lim 0 :=
  ⟨cell_of (w2_c w lim r f) 0, cell_of (w2_c w lim r f) 1, cell_of (w2_c w lim r f) 2, cell_of (w2_c w lim r f) 3, cell_of (w2_c w lim r f) 4, cell_of (w2_c w lim r f) 5, ⟨_, _, w2_c w lim r f⟩⟩

theorem cache_drew {w : World} {cb lb mb : Nat} {lim size : Int} (h : CacheAt w cb lb mb lim size) : CacheAt w.drew cb lb mb lim size := ⟨h.c0, h.c1, h.c2, h.c3, h.c4, h.c5, h.ic⟩
theorem cache_drewN {w : World} {cb lb mb : Nat} {lim size : Int} (n : Nat) (h : CacheAt w cb lb mb lim size) : CacheAt (w.drewN n) cb lb mb lim size := ⟨h.c0, h.c1, h.c2, h.c3, h.c4, h.c5, h.ic⟩

/-- All that is known of the world at the call of add. -/
structure Ready (w W : World) (lim : Int) (s : ByteArray) : Prop where
  cache : CacheAt W (w.heap.size + 2) w.heap.size (w.heap.size + 1) lim 0
  map : isM W (w.heap.size + 1) #[] 0
  list : W.heap[w.heap.size]? = some (.cells #[pt w.heap.size, pt w.heap.size, .pointer none, .nilIface, .int .i64 0] 67)
  bytes : bytesAt W (w.heap.size + 3) s.data.toList
  size : W.heap.size = w.heap.size + 4
  below : Below w.heap.size w W

theorem ready (w : World) (lim : Int) (s : ByteArray) (cp : Nat) (f : Nat × Nat) : Ready w (w2 w lim (bytesRow s cp) f).drew lim s :=
  ⟨cache_drew (w2_cache w lim _ f), w2_m w lim _ f, w2_l w lim _ f, by
    have := bytesAt_new (((w.alloc (.cells #[pt w.heap.size, pt w.heap.size, .pointer none, .nilIface, .int .i64 0] 67)).alloc (.map #[] 0)).alloc (.cells #[.int .i32 0, .int .u32 0, .int .i64 lim, .int .i64 0, pt w.heap.size, .map (some (w.heap.size + 1))] 49)) s cp f
    simp only [World.size_alloc] at this
    exact this, w2_size w lim _ f, (w2_below w lim _ f).drew⟩

/-! the content does not fit -/
set_option maxHeartbeats 3200000 in
theorem walk_big (a0 : Int) (a1 : Int) (a2 : Int) (a3 : ByteArray) (w0 : (Lit.int .i8 a0).wf = true) (w1 : (Lit.int .i64 a1).wf = true) (w2' : (Lit.int .u8 a2).wf = true) (w3 : a3.size ≤ maxLen) (w : World) (hb : a0 < a3.size) :
    Calls Yba.prog 4 #[.int .i8 a0, .int .i64 a1, .int .u8 a2, .string a3] w fun e w' => e = .returned (.bool true) ∧ Below w.heap.size w w' := by
  have hl := i8_bounds w0
  have hcv := conv_to
  go_enter Yba.func4, Yba.ntmps4
  go_wp2_with (go_at_call 5; refine (newCache_any _ _).mono ?_; rintro e w' ⟨rfl, rfl⟩)
  generalize grownCap (((w.alloc _).alloc _).alloc _) a3.size 0 5 = cp
  clear hcv
  have hR := ready w a0 a3 cp ((bytesRow a3 cp).size, (bytesRow a3 cp).size + 1)
  change Calls Yba.prog 6 #[pt (w.heap.size + 2), .int .i64 a1, .int .u8 a2, .slice (some ⟨w.heap.size + 3, 0, none⟩) a3.size cp] (w2 w a0 (bytesRow a3 cp) ((bytesRow a3 cp).size, (bytesRow a3 cp).size + 1)).drew _
  generalize (w2 w a0 (bytesRow a3 cp) ((bytesRow a3 cp).size, (bytesRow a3 cp).size + 1)).drew = W at hR
  refine (add_big (w.heap.size + 2) w.heap.size (w.heap.size + 1) 0 (w.heap.size + 3) a3.size cp a0 0 a1 a2 #[] [] W hR.cache MapFit.nil hR.map w1 (by simp) hb w3).mono ?_
  rintro e w' ⟨rfl, rfl⟩
  go_wp2_with fail
  refine (get_miss (w.heap.size + 2) w.heap.size (w.heap.size + 1) 0 a0 0 a1 #[] [] _ hR.cache MapFit.nil hR.map w1 (by simp)).mono ?_
  rintro e w' ⟨rfl, rfl⟩
  have c3 := hR.cache.c3
  have c4 := hR.cache.c4
  have c5 := hR.cache.c5
  have hlen := cell_of hR.list 4
  have hml := len_map _ hR.map
  have hB := hR.below
  clear hR
  go_wp2
  go_ret
  exact ⟨rfl, hB⟩

/-- All that is known of the world behind add, where the content fits. -/
structure Kept (w W : World) (lim k t : Int) (s : ByteArray) (c : Nat) : Prop where
  cache : CacheAt W (w.heap.size + 2) w.heap.size (w.heap.size + 1) lim s.size
  map : isM W (w.heap.size + 1) #[{ key := .int .i64 k, val := pt (w.heap.size + 5), born := 0 }] 1
  l0 : W.cell? ⟨w.heap.size, 0, none⟩ = some (pt (w.heap.size + 5))
  l4 : W.cell? ⟨w.heap.size, 4, none⟩ = some (.int .i64 1)
  il : isC W w.heap.size
  elem : W.heap[w.heap.size + 5]? = some (.cells #[pt w.heap.size, pt w.heap.size, pt w.heap.size, .iface 53 (pt (w.heap.size + 4))] 56)
  obj : W.heap[w.heap.size + 4]? = some (.cells #[.int .i64 k, .int .u8 t, .slice (some ⟨w.heap.size + 3, 0, none⟩) s.size c] 58)
  bytes : bytesAt W (w.heap.size + 3) s.data.toList
  size : W.heap.size = w.heap.size + 6
  below : Below w.heap.size w W

theorem kept_of {w W X : World} {lim k t : Int} {s : ByteArray} (hR : Ready w W lim s) (c nq : Nat)
    (a0 : X.cell? ⟨w.heap.size + 2, 0, none⟩ = some (.int .i32 1)) (ai : ∀ i, ¬ 0 = i → X.cell? ⟨w.heap.size + 2, i, none⟩ = W.cell? ⟨w.heap.size + 2, i, none⟩)
    (aM : isM X (w.heap.size + 1) #[{ key := .int .i64 k, val := pt (w.heap.size + 5), born := 0 }] 1)
    (aE : X.heap[w.heap.size + 5]? = some (.cells #[pt w.heap.size, pt w.heap.size, pt w.heap.size, .iface 53 (pt (w.heap.size + 4))] 56))
    (aO : X.heap[w.heap.size + 4]? = some (.cells #[.int .i64 k, .int .u8 t, .slice (some ⟨w.heap.size + 3, 0, none⟩) s.size c] 58))
    (aS : X.heap.size = w.heap.size + 6) (aI : isC X (w.heap.size + 2)) (aL : isC X w.heap.size)
    (aOld : ∀ b, b < W.heap.size → ¬ w.heap.size + 2 = b → ¬ w.heap.size = b → ¬ b = w.heap.size + 1 → X.heap[b]? = W.heap[b]?)
    (l0 : X.cell? ⟨w.heap.size, 0, none⟩ = some (pt (w.heap.size + 5))) (l4 : X.cell? ⟨w.heap.size, 4, none⟩ = some (.int .i64 1))
    (aT : X.os = W.os ∧ X.tape = W.tape ∧ X.output = W.output) :
    Kept w (((X.setCell ⟨w.heap.size + 2, 3, none⟩ (.int .i64 (0 + s.size))).setCell ⟨w.heap.size + 2, 0, none⟩ (.int .i32 0)).drewN nq) lim k t s c := by
  have hz := hR.size
  have hC := hR.cache
  have hX : ∀ b, ¬ w.heap.size + 2 = b → (((X.setCell ⟨w.heap.size + 2, 3, none⟩ (.int .i64 (0 + s.size))).setCell ⟨w.heap.size + 2, 0, none⟩ (.int .i32 0)).drewN nq).heap[b]? = X.heap[b]? := by
    intro b hb
    show ((X.setCell ⟨w.heap.size + 2, 3, none⟩ (.int .i64 (0 + s.size))).setCell ⟨w.heap.size + 2, 0, none⟩ (.int .i32 0)).heap[b]? = X.heap[b]?
    rw [Below.heap_setCell _ _ _ _ (Ne.symm hb), Below.heap_setCell _ _ _ _ (Ne.symm hb)]
  have hXc : ∀ b i, ¬ w.heap.size + 2 = b → (((X.setCell ⟨w.heap.size + 2, 3, none⟩ (.int .i64 (0 + s.size))).setCell ⟨w.heap.size + 2, 0, none⟩ (.int .i32 0)).drewN nq).cell? ⟨b, i, none⟩ = X.cell? ⟨b, i, none⟩ := by
    intro b i hb
    rw [World.cell?_drewN, sc_ne _ _ _ _ _ _ hb, sc_ne _ _ _ _ _ _ hb]
  have h3 : (X.setCell ⟨w.heap.size + 2, 3, none⟩ (.int .i64 (0 + s.size))).cell? ⟨w.heap.size + 2, 3, none⟩ = some (.int .i64 s.size) := by
    rw [World.cell?_setCell_same _ _ _ ((ai 3 (by omega)).trans hC.c3)]; simp
  have sz : ((X.setCell ⟨w.heap.size + 2, 3, none⟩ (.int .i64 (0 + s.size))).setCell ⟨w.heap.size + 2, 0, none⟩ (.int .i32 0)).heap.size = w.heap.size + 6 := by
    rw [World.size_setCell, World.size_setCell, aS]
  refine ⟨cache_drewN nq ⟨?_, ?_, ?_, ?_, ?_, ?_, ?_⟩, (hX _ (by omega)).trans aM, (hXc _ _ (by omega)).trans l0, (hXc _ _ (by omega)).trans l4, ?_, (hX _ (by omega)).trans aE, (hX _ (by omega)).trans aO, ?_, sz, ?_⟩
  · exact World.cell?_setCell_same _ _ _ ((sc_off _ _ _ _ _ _ (by omega)).trans a0)
  · rw [sc_off _ _ _ _ _ _ (by omega), sc_off _ _ _ _ _ _ (by omega), ai 1 (by omega)]; exact hC.c1
  · rw [sc_off _ _ _ _ _ _ (by omega), sc_off _ _ _ _ _ _ (by omega), ai 2 (by omega)]; exact hC.c2
  · rw [sc_off _ _ _ _ _ _ (by omega)]; exact h3
  · rw [sc_off _ _ _ _ _ _ (by omega), sc_off _ _ _ _ _ _ (by omega), ai 4 (by omega)]; exact hC.c4
  · rw [sc_off _ _ _ _ _ _ (by omega), sc_off _ _ _ _ _ _ (by omega), ai 5 (by omega)]; exact hC.c5
  · rw [isC_setCell, isC_setCell]; exact aI
  · show isC ((X.setCell ⟨w.heap.size + 2, 3, none⟩ (.int .i64 (0 + s.size))).setCell ⟨w.heap.size + 2, 0, none⟩ (.int .i32 0)) w.heap.size
    rw [isC_setCell, isC_setCell]; exact aL
  · exact hR.bytes.of_heap ((hX _ (by omega)).trans (aOld _ (by omega) (by omega) (by omega) (by omega)))
  · have hB := hR.below
    refine hB.trans ⟨aT.1, aT.2.1, aT.2.2, ?_, fun b hb => (hX b (by omega)).trans (aOld b (by omega) (by omega) (by omega) (by omega))⟩
    show W.heap.size ≤ ((X.setCell ⟨w.heap.size + 2, 3, none⟩ (.int .i64 (0 + s.size))).setCell ⟨w.heap.size + 2, 0, none⟩ (.int .i32 0)).heap.size
    rw [sz]; omega

theorem kept {w W : World} {lim k t : Int} {s : ByteArray} (hR : Ready w W lim s) (c nq : Nat) :
    Kept w ((((added W (w.heap.size + 2) w.heap.size w.heap.size (w.heap.size + 1) 0 s.size c (w.heap.size + 3) 0 k t #[]).setCell ⟨w.heap.size + 2, 3, none⟩ (.int .i64 (0 + s.size))).setCell ⟨w.heap.size + 2, 0, none⟩ (.int .i32 0)).drewN nq) lim k t s c := by
  have hz := hR.size
  have hC := hR.cache
  have bc : w.heap.size + 2 < W.heap.size := by omega
  have n1 : ¬ w.heap.size = w.heap.size + 2 := by omega
  have n2 : ¬ w.heap.size + 2 = w.heap.size + 1 := by omega
  have n3 : ¬ w.heap.size = w.heap.size + 1 := by omega
  have n4 : ¬ w.heap.size + 2 = w.heap.size := by omega
  have ic : isC W (w.heap.size + 2) := hC.ic
  have il : isC W w.heap.size := ⟨_, _, hR.list⟩
  have e1 : wrap64 (0 + 1) = 1 := by unfold wrap64; omega
  have bl : w.heap.size < W.heap.size := by omega
  refine kept_of hR c nq (X := added W (w.heap.size + 2) w.heap.size w.heap.size (w.heap.size + 1) 0 s.size c (w.heap.size + 3) 0 k t #[]) ?_ ?_ ?_ ?_ ?_ ?_ ?_ ?_ ?_ ?_ ?_ ?_
  · exact added_cb0 hC.c0 bc n1 n1 n2
  · exact fun i hi => added_cb i hi bc n1 n1 n2
  · have := added_isM (w := W) (cb := w.heap.size + 2) (lb := w.heap.size) (fb := w.heap.size) (mb := w.heap.size + 1) (ck := 0) (n := s.size) (c := c) (xb := w.heap.size + 3) (ln := 0) (k := k) (t := t) (es := #[]) (by omega)
    rw [hz] at this
    simpa using this
  · have := added_eb (w := W) (cb := w.heap.size + 2) (lb := w.heap.size) (fb := w.heap.size) (mb := w.heap.size + 1) (ck := 0) (n := s.size) (c := c) (xb := w.heap.size + 3) (ln := 0) (k := k) (t := t) (es := #[]) (by omega)
    rw [hz] at this
    exact this
  · have := added_ob (w := W) (cb := w.heap.size + 2) (lb := w.heap.size) (fb := w.heap.size) (mb := w.heap.size + 1) (ck := 0) (n := s.size) (c := c) (xb := w.heap.size + 3) (ln := 0) (k := k) (t := t) (es := #[]) (by omega)
    rw [hz] at this
    exact this
  · rw [added_size, hz]
  · exact added_isC ic n2
  · exact added_isC il n3
  · exact fun b hb h1 h2 h4 => added_old hb h1 h2 h2 h4
  · unfold added
    rw [sb_cell _ _ _ _ _ n3, World.cell?_alloc_past _ _ _ (by simp; omega), World.cell?_alloc_past _ _ _ (by simpa using bl), sc_off _ _ _ _ _ _ (show ¬ 4 = 0 by omega), sc_off _ _ _ _ _ _ (show ¬ 1 = 0 by omega), hz]
    refine World.cell?_setCell_same (u := pt w.heap.size) _ _ _ ?_
    rw [sc_ne _ _ _ _ _ _ n4]
    exact cell_of hR.list 0
  · unfold added
    rw [sb_cell _ _ _ _ _ n3, World.cell?_alloc_past _ _ _ (by simp; omega), World.cell?_alloc_past _ _ _ (by simpa using bl), e1]
    refine World.cell?_setCell_same (u := .int .i64 0) _ _ _ ?_
    rw [sc_off _ _ _ _ _ _ (show ¬ 1 = 4 by omega), sc_off _ _ _ _ _ _ (show ¬ 0 = 4 by omega), sc_ne _ _ _ _ _ _ n4]
    exact cell_of hR.list 4
  · exact added_rest

theorem fit1 (k : Int) (b : Nat) (hw : (Lit.int .i64 k).wf = true) : MapFit #[{ key := .int .i64 k, val := pt b, born := 0 }] [(k, b)] := by
  have := MapFit.put (ck := 0) (b := b) MapFit.nil hw (by simp)
  simpa using this

set_option maxHeartbeats 6400000 in
theorem walk_fit (a0 : Int) (a1 : Int) (a2 : Int) (a3 : ByteArray) (w0 : (Lit.int .i8 a0).wf = true) (w1 : (Lit.int .i64 a1).wf = true) (w2' : (Lit.int .u8 a2).wf = true) (w3 : a3.size ≤ maxLen) (w : World) (hb : a3.size ≤ a0) :
    Calls Yba.prog 4 #[.int .i8 a0, .int .i64 a1, .int .u8 a2, .string a3] w fun e w' => e = .returned (.bool true) ∧ Below w.heap.size w w' := by
  have hl := i8_bounds w0
  have hcv := conv_to
  go_enter Yba.func4, Yba.ntmps4
  go_wp2_with (go_at_call 5; refine (newCache_any _ _).mono ?_; rintro e w' ⟨rfl, rfl⟩)
  generalize grownCap (((w.alloc _).alloc _).alloc _) a3.size 0 5 = cp
  have hR := ready w a0 a3 cp ((bytesRow a3 cp).size, (bytesRow a3 cp).size + 1)
  change Calls Yba.prog 6 #[pt (w.heap.size + 2), .int .i64 a1, .int .u8 a2, .slice (some ⟨w.heap.size + 3, 0, none⟩) a3.size cp] (w2 w a0 (bytesRow a3 cp) ((bytesRow a3 cp).size, (bytesRow a3 cp).size + 1)).drew _
  generalize (w2 w a0 (bytesRow a3 cp) ((bytesRow a3 cp).size, (bytesRow a3 cp).size + 1)).drew = W at hR
  have il : isC W w.heap.size := ⟨_, _, hR.list⟩
  refine (add_fit (w.heap.size + 2) w.heap.size w.heap.size (w.heap.size + 1) 0 (w.heap.size + 3) a3.size cp 0 a0 0 a1 a2 (pt w.heap.size) #[] [] W hR.cache MapFit.nil hR.map w1 (by simp) (by omega) w3 (by omega) (by omega) hl.2 il il (by omega) (by omega) (by omega) (by omega) (by omega) (cell_of hR.list 0) (cell_of hR.list 4) (cell_of hR.list 1)).mono ?_
  rintro e w' ⟨rfl, nq, hw'⟩
  have hK := kept (k := a1) (t := a2) hR cp nq
  rw [← hw'] at hK
  clear hw' hR il
  go_wp2_with fail
  refine (get_first (w.heap.size + 2) w.heap.size (w.heap.size + 1) 1 (w.heap.size + 5) (w.heap.size + 4) (w.heap.size + 3) a3.size cp a0 a3.size a1 a2 _ [(a1, w.heap.size + 5)] w' hK.cache (fit1 a1 _ w1) hK.map (by simp) (by omega) (by omega) (by omega) hK.il ⟨_, _, hK.elem⟩
    (cell_of hK.elem 2) (cell_of hK.elem 3) hK.l0 (cell_of hK.obj 1) (cell_of hK.obj 2)).mono ?_
  rintro e w'' ⟨rfl, n2, rfl⟩
  have c3 := hK.cache.c3
  have c4 := hK.cache.c4
  have c5 := hK.cache.c5
  have hlen := hK.l4
  have hml := len_map _ hK.map
  have hB := hK.below
  have hby := hK.bytes
  have hsz := hK.size
  go_wp2_with fail
  generalize grownCap (w'.drewN n2) a3.size 0 5 = cq
  have hnew := bytesAt_new (w'.drewN (n2 + 1)) a3 cq ((bytesRow a3 cq).size, (bytesRow a3 cq).size + 1)
  have hsz' : (w'.drewN (n2 + 1)).heap.size = w.heap.size + 6 := hsz
  rw [hsz'] at hnew
  have hby' : bytesAt ((w'.drewN (n2 + 1)).alloc (.cells (bytesRow a3 cq) 5 ((bytesRow a3 cq).size, (bytesRow a3 cq).size + 1))) (w.heap.size + 3) a3.data.toList :=
    (bytesAt_drewN (n2 + 1) hby).of_heap (Below.heap_alloc (w'.drewN (n2 + 1)) _ _ (by rw [hsz']; omega))
  refine (bytesEqual_same ((w'.drewN (n2 + 1)).alloc (.cells (bytesRow a3 cq) 5 ((bytesRow a3 cq).size, (bytesRow a3 cq).size + 1))) (w.heap.size + 3) (w.heap.size + 6) cp cq a3.size a3.size a3.data.toList (by simp) (by simp) hby' hnew).mono ?_
  rintro e w4 ⟨rfl, rfl⟩
  have hB2 : Below w.heap.size w ((w'.drewN (n2 + 1)).alloc (.cells (bytesRow a3 cq) 5 ((bytesRow a3 cq).size, (bytesRow a3 cq).size + 1))) :=
    Below.alloc (w := w'.drewN (n2 + 1)) ⟨hB.os, hB.tape, hB.output, hB.size, hB.block⟩ (by rw [hsz']; omega) _
  have hold : ∀ b i, b < w.heap.size + 6 → ((w'.drewN (n2 + 1)).alloc (.cells (bytesRow a3 cq) 5 ((bytesRow a3 cq).size, (bytesRow a3 cq).size + 1))).cell? ⟨b, i, none⟩ = w'.cell? ⟨b, i, none⟩ :=
    fun b i hb => World.cell?_alloc_past (w := w'.drewN (n2 + 1)) _ _ _ (by rw [hsz']; exact hb)
  have c3' := (hold _ 3 (by omega)).trans c3
  have c4' := (hold _ 4 (by omega)).trans c4
  have c5' := (hold _ 5 (by omega)).trans c5
  have hlen' := (hold _ 4 (by omega)).trans hlen
  have hm' : isM ((w'.drewN (n2 + 1)).alloc (.cells (bytesRow a3 cq) 5 ((bytesRow a3 cq).size, (bytesRow a3 cq).size + 1))) (w.heap.size + 1) #[{ key := .int .i64 a1, val := pt (w.heap.size + 5), born := 0 }] 1 :=
    (Below.heap_alloc (w'.drewN (n2 + 1)) _ _ (by rw [hsz']; omega)).trans hK.map
  have hml' := len_map _ hm'
  generalize ((w'.drewN (n2 + 1)).alloc (.cells (bytesRow a3 cq) 5 ((bytesRow a3 cq).size, (bytesRow a3 cq).size + 1))) = V at *
  clear hold hK hcv hnew hml hlen c3 c4 c5 hB hm' hsz hsz' hby hby'
  go_wp2
  go_ret
  exact ⟨rfl, hB2⟩

theorem walk (a0 : Int) (a1 : Int) (a2 : Int) (a3 : ByteArray) (w0 : (Lit.int .i8 a0).wf = true) (w1 : (Lit.int .i64 a1).wf = true) (w2 : (Lit.int .u8 a2).wf = true) (w3 : a3.size ≤ maxLen) (w : World) :
    Calls Yba.prog 4 #[.int .i8 a0, .int .i64 a1, .int .u8 a2, .string a3] w fun e w' => e = .returned (.bool true) ∧ Below w.heap.size w w' := by
  by_cases h : (a3.size : Int) ≤ a0
  · exact walk_fit a0 a1 a2 a3 w0 w1 w2 w3 w h
  · exact walk_big a0 a1 a2 a3 w0 w1 w2 w3 w (by omega)

/-! ### THE ROW's STEP: WRITTEN OUT: LEAVE IT -/
set_option maxRecDepth 100000 in
theorem lifted (os : Os) (started : os.Started) (H : Type) (enc : TypeId × Value → H) :
    ReturnsInHanded {} Yba.checked os 4 .any (Rows.lawS4477AFreshSpec.pre6 enc Yba.prog Yba.f4 Rows.lawS4477AFreshRow.domain false) (Rows.lawS4477AFreshSpec.post enc Yba.prog Yba.f4 false true false false) := by
  refine returnsInHanded_of_change (C := Yba.checked) own started (by kernel_rfl) Yba.func4
    (ChangeSpec.witness6 (enc := enc) (C := Yba.checked) false ⟨#[], #[.int .i8 0, .int .i64 0, .int .u8 0, .string ByteArray.empty], []⟩ 8 (by kernel_rfl) (by kernel_rfl) (by kernel_rfl) (by kernel_rfl)) ?_
  intro W base args ds gs before hval0 hW hcnd _
  have hval : ∀ (j : Nat) t v, Yba.f4.params[j]? = some t → args[j]? = some v → Value.okWide Yba.prog W .any base t v := hval0
  have hW' := hW
  obtain ⟨p, q, hA0, hV, rfl, hfz, hnd⟩ := hW
  have hA : DataW.TrodAll enc Yba.prog W 0 (fun _ => true) true Yba.f4.params.toList args.toList ds p := hA0
  rw [Yba.params4] at hA hval
  obtain ⟨v0, vs0, d0, ds0, p0, q0, hargs, rfl, rfl, h0, r0⟩ := trodAll_cons hA
  obtain ⟨v1, vs1, d1, ds1, p1, q1, rfl, rfl, rfl, h1, r1⟩ := trodAll_cons r0
  obtain ⟨v2, vs2, d2, ds2, p2, q2, rfl, rfl, rfl, h2, r2⟩ := trodAll_cons r1
  obtain ⟨v3, vs3, d3, ds3, p3, q3, rfl, rfl, rfl, h3, r3⟩ := trodAll_cons r2
  obtain ⟨rfl, rfl, rfl⟩ := trodAll_nil r3
  obtain rfl : args = #[v0, v1, v2, v3] := by cases args; simp_all
  obtain ⟨rfl, rfl⟩ := trodVars_none hV
  obtain ⟨a0, rfl, rfl, rfl, w0⟩ := open_int Yba.underlying22 (hval 0 22 v0 rfl rfl) h0
  obtain ⟨a1, rfl, rfl, rfl, w1⟩ := open_int Yba.underlying2 (hval 1 2 v1 rfl rfl) h1
  obtain ⟨a2, rfl, rfl, rfl, w2⟩ := open_int Yba.underlying5 (hval 2 5 v2 rfl rfl) h2
  obtain ⟨a3, rfl, rfl, rfl, w3⟩ := open_string Yba.underlying9 (hval 3 9 v3 rfl rfl) h3
  clear hA0 hval0
  simp only [List.append_nil] at hW'
  refine (walk a0 a1 a2 a3 w0 w1 w2 w3 W).mono fun e W' ⟨he, hg⟩ => ?_
  subst he
  exact ⟨_, rfl, _, _, _, [], [], [], hW', (trodAll_cons_mk (shut_bool Yba.underlying4 _) trodAll_mk0), (trodAll_cons_mk (shut_int Yba.underlying22 w0) (trodAll_cons_mk (shut_int Yba.underlying2 w1) (trodAll_cons_mk (shut_int Yba.underlying5 w2) (trodAll_cons_mk (shut_string Yba.underlying9 w3) trodAll_mk0)))), rfl,
    hg.frame _, fun h => by cases h⟩

theorem over : Rows.lawS4477AFreshRow.holds Yba.pinned (OpenSpec.ofChange Rows.lawS4477AFreshSpec) :=
  OpenClaim.holds_of_wide 4 Yba.f4 rfl rfl rfl rfl rfl rfl rfl ⟨rfl, rfl, rfl, rfl, rfl⟩ rfl rfl rfl rfl rfl (by kernel_rfl) Yba.func4 (by kernel_rfl)
    (of_decide_eq_true (by kernel_rfl)) (by unfold Func.isWrapper; first | (rw [if_pos (by decide +kernel)]; kernel_rfl) | (rw [if_neg (by decide +kernel)]; exact ⟨rfl, rfl⟩))
    (fun os started H enc _ => lifted os started H enc)

/-- ████ THE STATEMENT ████ -/
theorem proved : Rows.LawS4477AFreshSaid :=
  over
end Go.Proofs.Ybulkcnrs.lawS4477AFresh
