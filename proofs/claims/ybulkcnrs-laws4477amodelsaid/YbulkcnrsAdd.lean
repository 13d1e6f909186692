import Derived.Test.YbulkcnrsCache
namespace Go.Proofs.Ybulkcnrs
open Go.RowKit Go.Maps Go.ChangeMaps Go.MuLone
set_option linter.unusedVariables false
set_option linter.unusedSimpArgs false
attribute [local go_sem] isC_setCell isC_drew isC_allocs isM_setCell isM_drew isM_allocs sb_cell sb_frozen sb_isC sb_size sb_isM sb_drew

theorem hid {p : Prop} (h : p) : Hid p := h

/-- The world behind 'c.at[offset] = c.order.PushFront(&cached{offset, t, content})' under the lock. -/
def added (w : World) (cb lb fb mb ck n c xb : Nat) (ln k t : Int) (es : Array MapEntry) : World :=
  setBlock ((((((w.setCell ⟨cb, 0, none⟩ (.int .i32 1)).setCell ⟨lb, 0, none⟩ (pt (w.heap.size + 1))).setCell ⟨fb, 1, none⟩ (pt (w.heap.size + 1))).setCell ⟨lb, 4, none⟩ (.int .i64 (wrap64 (ln + 1)))).alloc
      (.cells #[.int .i64 k, .int .u8 t, .slice (some ⟨xb, 0, none⟩) n c] 58)).alloc (.cells #[pt fb, pt lb, pt lb, .iface 53 (pt w.heap.size)] 56))
    mb (.map (es.push { key := .int .i64 k, val := pt (w.heap.size + 1), born := ck }) (ck + 1))

section
variable {w : World} {cb lb fb mb ck n c xb : Nat} {ln k t : Int} {es : Array MapEntry}
theorem added_old {b : Nat} (hb : b < w.heap.size) (h1 : ¬ cb = b) (h2 : ¬ lb = b) (h3 : ¬ fb = b) (h4 : ¬ b = mb) : (added w cb lb fb mb ck n c xb ln k t es).heap[b]? = w.heap[b]? := by
  unfold added
  rw [sb_heap _ _ _ _ h4, Below.heap_alloc _ _ _ (by simp; omega), Below.heap_alloc _ _ _ (by simpa using hb), Below.heap_setCell _ _ _ _ (Ne.symm h2), Below.heap_setCell _ _ _ _ (Ne.symm h3), Below.heap_setCell _ _ _ _ (Ne.symm h2), Below.heap_setCell _ _ _ _ (Ne.symm h1)]
theorem added_cb (i : Nat) (hi : ¬ 0 = i) (hb : cb < w.heap.size) (h2 : ¬ lb = cb) (h3 : ¬ fb = cb) (h4 : ¬ cb = mb) : (added w cb lb fb mb ck n c xb ln k t es).cell? ⟨cb, i, none⟩ = w.cell? ⟨cb, i, none⟩ := by
  unfold added
  rw [sb_cell _ _ _ _ _ h4, World.cell?_alloc_past _ _ _ (by simp; omega), World.cell?_alloc_past _ _ _ (by simpa using hb), sc_ne _ _ _ _ _ _ h2, sc_ne _ _ _ _ _ _ h3, sc_ne _ _ _ _ _ _ h2, sc_off _ _ _ _ _ _ hi]
theorem added_cb0 {u : Value} (hu : w.cell? ⟨cb, 0, none⟩ = some u) (hb : cb < w.heap.size) (h2 : ¬ lb = cb) (h3 : ¬ fb = cb) (h4 : ¬ cb = mb) : (added w cb lb fb mb ck n c xb ln k t es).cell? ⟨cb, 0, none⟩ = some (.int .i32 1) := by
  unfold added
  rw [sb_cell _ _ _ _ _ h4, World.cell?_alloc_past _ _ _ (by simp; omega), World.cell?_alloc_past _ _ _ (by simpa using hb), sc_ne _ _ _ _ _ _ h2, sc_ne _ _ _ _ _ _ h3, sc_ne _ _ _ _ _ _ h2]
  exact World.cell?_setCell_same _ _ _ hu
theorem added_size : (added w cb lb fb mb ck n c xb ln k t es).heap.size = w.heap.size + 2 := by
  unfold added
  rw [sb_size]; simp
theorem added_isM (hm : mb < w.heap.size) : isM (added w cb lb fb mb ck n c xb ln k t es) mb (es.push { key := .int .i64 k, val := pt (w.heap.size + 1), born := ck }) (ck + 1) := by
  unfold added
  rw [sb_isM _ _ _ _ (by simp; omega)]; trivial
theorem added_isC {b : Nat} (hb : isC w b) (h4 : ¬ b = mb) : isC (added w cb lb fb mb ck n c xb ln k t es) b := by
  unfold added
  rw [sb_isC _ _ _ _ h4, isC_allocs, isC_allocs, isC_setCell, isC_setCell, isC_setCell, isC_setCell]
  exact Or.inl (Or.inl hb)
theorem added_eb (hm : mb < w.heap.size) : (added w cb lb fb mb ck n c xb ln k t es).heap[w.heap.size + 1]? = some (.cells #[pt fb, pt lb, pt lb, .iface 53 (pt w.heap.size)] 56) := by
  unfold added
  rw [sb_heap _ _ _ _ (by omega)]
  show (Array.push _ _)[w.heap.size + 1]? = _
  rw [Array.getElem?_push, if_pos (by simp)]
theorem added_rest : (added w cb lb fb mb ck n c xb ln k t es).os = w.os ∧ (added w cb lb fb mb ck n c xb ln k t es).tape = w.tape ∧ (added w cb lb fb mb ck n c xb ln k t es).output = w.output := by
  simp only [added, setBlock, World.setCell, World.alloc, and_self]
theorem added_ob (hm : mb < w.heap.size) : (added w cb lb fb mb ck n c xb ln k t es).heap[w.heap.size]? = some (.cells #[.int .i64 k, .int .u8 t, .slice (some ⟨xb, 0, none⟩) n c] 58) := by
  unfold added
  rw [sb_heap _ _ _ _ (by omega), Below.heap_alloc _ _ _ (by simp)]
  show (Array.push _ _)[w.heap.size]? = _
  rw [Array.getElem?_push, if_pos (by simp)]
end

set_option maxHeartbeats 6400000 in
theorem add_fit (cb lb fb mb ck xb n c : Nat) (ln lim size k t : Int) (y : Value) (es : Array MapEntry) (M : List (Int × Nat)) (w : World) (hC : CacheAt w cb lb mb lim size) (hF : MapFit es M) (hm : isM w mb es ck)
    (hw : (Lit.int .i64 k).wf = true) (hk : ∀ b, (k, b) ∉ M) (hn : ¬ lim < n) (hn2 : n ≤ maxLen) (hs0 : 0 ≤ size) (hs1 : size + n ≤ lim) (hlim : lim ≤ 127)
    (il : isC w lb) (iF : isC w fb) (hcl : ¬ cb = lb) (hcf : ¬ cb = fb) (hcm : ¬ cb = mb) (hlm : ¬ lb = mb) (hfm : ¬ fb = mb)
    (cl0 : w.cell? ⟨lb, 0, none⟩ = some (pt fb)) (cl4 : w.cell? ⟨lb, 4, none⟩ = some (.int .i64 ln)) (cf1 : w.cell? ⟨fb, 1, none⟩ = some y) :
    Calls Yba.prog 6 #[pt cb, .int .i64 k, .int .u8 t, .slice (some ⟨xb, 0, none⟩) n c] w fun e w' => e = .returned (.tuple #[]) ∧
      ∃ nq, w' = (((added w cb lb fb mb ck n c xb ln k t es).setCell ⟨cb, 3, none⟩ (.int .i64 (size + n))).setCell ⟨cb, 0, none⟩ (.int .i32 0)).drewN nq := by
  have c0 := hC.c0
  have c2 := hC.c2
  have c3 := hC.c3
  have c4 := hC.c4
  have c5 := hC.c5
  have z := hC.ic.frozen
  have zl := il.frozen
  have zf := iF.frozen
  have hl := look_miss (mb := mb) (ck := ck) hF hw hk
  have hp := put_new (mb := mb) (ck := ck) hF hw hk
  have hmi := mi53
  have bl := il.lt
  have bf := iF.lt
  have bc := hC.ic.lt
  have bm := hm.lt
  have hpf := pushFront_any lb fb ln y w.heap.size (((w.setCell ⟨cb, 0, none⟩ (.int .i32 1)).alloc (.cells #[.int .i64 k, .int .u8 t, .slice (some ⟨xb, 0, none⟩) n c] 58)).drew) (by simp; omega) (by simp; omega)
    (by rw [World.cell?_drew, World.cell?_alloc_past _ _ _ (by simpa using bl), sc_ne _ _ _ _ _ _ hcl]; exact cl0) (by rw [World.cell?_drew, World.cell?_alloc_past _ _ _ (by simpa using bl), sc_ne _ _ _ _ _ _ hcl]; exact cl4)
    (by rw [World.cell?_drew, World.cell?_alloc_past _ _ _ (by simpa using bf), sc_ne _ _ _ _ _ _ hcf]; exact cf1)
    (fun i => by rw [World.frozen?_drew, World.frozen?_alloc_past _ _ _ (by simpa using bl), World.frozen?_setCell]; exact zl i)
    (fun i => by rw [World.frozen?_drew, World.frozen?_alloc_past _ _ _ (by simpa using bf), World.frozen?_setCell]; exact zf i)
  have HP : Hid _ := hpf
  clear hpf
  go_enter_defers Yba.func6, Yba.ntmps6
  go_wp2_with (go_at_call 15; refine (lock_free Yba.muLib ⟨cb, 0, none⟩ _ c0 (z 0)).mono ?_; rintro e w' ⟨rfl, rfl⟩)
  go_region_held3 (fun w' => w'.cell? ⟨cb, 4, none⟩ = some (pt lb) ∧ w'.cell? ⟨cb, 5, none⟩ = some (.map (some mb))) (constructor <;> go_simp) (first | (go_at_call 18; refine Calls.mono HP.out ?_; rintro e w' ⟨rfl, rfl⟩))
  show Exit.then _ _ _ _ (added w cb lb fb mb ck n c xb ln k t es).drew
  have x0 := added_cb0 (w := w) (ck := ck) (n := n) (c := c) (xb := xb) (ln := ln) (k := k) (t := t) (es := es) c0 bc (Ne.symm hcl) (Ne.symm hcf) hcm
  have x2 := (added_cb (w := w) (ck := ck) (n := n) (c := c) (xb := xb) (ln := ln) (k := k) (t := t) (es := es) 2 (by omega) bc (Ne.symm hcl) (Ne.symm hcf) hcm).trans c2
  have x3 := (added_cb (w := w) (ck := ck) (n := n) (c := c) (xb := xb) (ln := ln) (k := k) (t := t) (es := es) 3 (by omega) bc (Ne.symm hcl) (Ne.symm hcf) hcm).trans c3
  have xz := (added_isC (w := w) (cb := cb) (lb := lb) (fb := fb) (ck := ck) (n := n) (c := c) (xb := xb) (ln := ln) (k := k) (t := t) (es := es) hC.ic hcm).frozen
  generalize hX : added w cb lb fb mb ck n c xb ln k t es = X at *
  have HX := hid hX
  clear hX
  clear hl hp hmi HP c0 c2 c3 c4 c5 z zl zf cl0 cl4 cf1 hm hF hC il iF
  go_wp2
  refine wp_loop_rounds 1 ?_
  rw [rounds_succ]
  go_wp2
  go_quiet (fail)
  go_wp2
  refine leaves_cons (f := 16) (args := #[.pointer (some ⟨cb, 0, none⟩)]) (by simp) (by simp [go_sem]) ?_
  refine (unlock_deferred Yba.muLib ⟨cb, 0, none⟩ .returning _ ?_ ?_).mono ?_
  · simp [sc_off, x0]
  · simp [xz]
  rintro e u' w'' ⟨rfl, rfl, rfl⟩
  refine ⟨_, results_none rfl _ _ _, rfl, 1 + nq, ?_⟩
  rw [HX.out]
  exact congrArg (fun d => ({ (X.setCell ⟨cb, 3, none⟩ (.int .i64 (size + n))).setCell ⟨cb, 0, none⟩ (.int .i32 0) with drawn := d } : World)) (Nat.add_assoc X.drawn 1 nq)
end Go.Proofs.Ybulkcnrs
