import Derived.Test.YbulkcnrsPtr
import Derived.Maps.OwnSet
namespace Go.Proofs.Ybulkcnrs
open Go.RowKit Go.Maps Go.ChangeMaps
set_option linter.unusedVariables false
set_option linter.unusedSimpArgs false

theorem law2 : Keyed Yba.prog 2 := int_keyed Yba.underlying2
theorem zero51 (w : World) : (zeroValue 51).run Yba.prog w = .ok (.pointer none) w := by kernel_rfl

/-- Block b is a map with these entries. -/
def isM (w : World) (b : Nat) (es : Array MapEntry) (ck : Nat) : Prop := w.heap[b]? = some (.map es ck)

theorem isM_setCell (w : World) (a : Addr) (v : Value) (b : Nat) (es : Array MapEntry) (ck : Nat) : isM (w.setCell a v) b es ck = isM w b es ck := by
  unfold isM
  apply propext
  simp only [World.setCell, Array.getElem?_modify]
  by_cases hb : a.block = b
  · subst hb
    cases hh : w.heap[a.block]? with
    | none => simp
    | some x => cases x <;> simp
  · rw [if_neg hb]

theorem isM_drew (w : World) (b : Nat) (es : Array MapEntry) (ck : Nat) : isM w.drew b es ck = isM w b es ck := propext Iff.rfl
theorem isM_alloc (w : World) (o : Obj) (b : Nat) (es : Array MapEntry) (ck : Nat) (h : b < w.heap.size) : isM (w.alloc o) b es ck = isM w b es ck := by
  unfold isM
  rw [Below.heap_alloc w o b h]
theorem isM_allocs (w : World) (o : Obj) (b : Nat) (es : Array MapEntry) (ck : Nat) : isM (w.alloc o) b es ck = (isM w b es ck ∨ (b = w.heap.size ∧ o = .map es ck)) := by
  unfold isM
  show ((w.heap.push o)[b]? = _) = _
  rw [Array.getElem?_push]
  by_cases h : b = w.heap.size
  · subst h; simp
  · simp [h]
theorem isC_allocs (w : World) (o : Obj) (b : Nat) : isC (w.alloc o) b = (isC w b ∨ (b = w.heap.size ∧ ∃ c t, o = .cells c t (0, 0))) := by
  unfold isC
  show (∃ c t, (w.heap.push o)[b]? = _) = _
  rw [Array.getElem?_push]
  by_cases h : b = w.heap.size
  · subst h; simp
  · simp [h]
theorem isM_new (w : World) (b : Nat) (es : Array MapEntry) (ck : Nat) (h : b = w.heap.size) : isM (w.alloc (.map es ck)) b es ck = True := by
  subst h
  refine eq_true ?_
  show (w.heap.push _)[w.heap.size]? = _
  simp
theorem isM.lt {w : World} {b : Nat} {es : Array MapEntry} {ck : Nat} (h : isM w b es ck) : b < w.heap.size := (Array.getElem?_eq_some_iff.1 h).1

/-! the world behind a store into a map -/
theorem sb_heap (w : World) (b : Nat) (o : Obj) (k : Nat) (h : ¬ k = b) : (setBlock w b o).heap[k]? = w.heap[k]? := by
  unfold setBlock
  rw [Array.getElem?_setIfInBounds_ne (by omega)]
theorem sb_cell (w : World) (b : Nat) (o : Obj) (k i : Nat) (h : ¬ k = b) : (setBlock w b o).cell? ⟨k, i, none⟩ = w.cell? ⟨k, i, none⟩ := by
  unfold World.cell?
  rw [sb_heap w b o k h]
theorem sb_frozen (w : World) (b : Nat) (o : Obj) (k i : Nat) (h : ¬ k = b) : (setBlock w b o).frozen? ⟨k, i, none⟩ = w.frozen? ⟨k, i, none⟩ := by
  unfold World.frozen?
  rw [sb_heap w b o k h]
theorem sb_isC (w : World) (b : Nat) (o : Obj) (k : Nat) (h : ¬ k = b) : isC (setBlock w b o) k = isC w k := by
  unfold isC
  rw [sb_heap w b o k h]
theorem sb_size (w : World) (b : Nat) (o : Obj) : (setBlock w b o).heap.size = w.heap.size := by simp [setBlock]
theorem sb_isM (w : World) (b : Nat) (es : Array MapEntry) (ck : Nat) (h : b < w.heap.size) : isM (setBlock w b (.map es ck)) b es ck = True := by
  refine eq_true ?_
  unfold isM setBlock
  simp [h]
theorem sb_drew (w : World) (b : Nat) (o : Obj) : setBlock w.drew b o = (setBlock w b o).drew := by cases w; exact Eq.refl _

/-! what the entries are good for -/
abbrev kv (x : MapEntry) : Value × Value := (x.key, x.val)
abbrev kp (p : Int × Nat) : Value × Value := (.int .i64 p.1, pt p.2)

structure MapFit (es : Array MapEntry) (M : List (Int × Nat)) : Prop where
  perm : (es.toList.map kv).Perm (M.map kp)
  nd : (M.map (·.1)).Nodup
  wf : ∀ p ∈ M, (Lit.int .i64 p.1).wf = true

theorem erase_perm {α : Type} : ∀ (l : List α) (j : Nat) (x : α), l[j]? = some x → l.Perm (x :: l.eraseIdx j)
  | [], _, _, h => by simp at h
  | a :: l, 0, x, h => by simp at h; subst h; exact List.Perm.refl _
  | a :: l, j + 1, x, h => by
    simp at h
    simp only [List.eraseIdx_cons_succ]
    exact ((erase_perm l j x h).cons a).trans (List.Perm.swap x a _)

theorem nodup_kp : ∀ {M : List (Int × Nat)}, (M.map (·.1)).Nodup → (M.map kp).Nodup
  | [], _ => by simp
  | p :: r, h => by
    simp only [List.map_cons, List.nodup_cons, List.mem_map] at h ⊢
    refine ⟨?_, nodup_kp h.2⟩
    rintro ⟨q, hq, e⟩
    have e1 : Value.int .i64 q.1 = Value.int .i64 p.1 := congrArg Prod.fst e
    injection e1 with _ e1
    exact h.1 ⟨q, hq, e1⟩

theorem MapFit.nil : MapFit #[] [] := ⟨by simp, by simp, by simp⟩

theorem MapFit.size {es : Array MapEntry} {M : List (Int × Nat)} (h : MapFit es M) : es.size = M.length := by
  have := h.perm.length_eq
  simpa using this

theorem MapFit.ent {es : Array MapEntry} {M : List (Int × Nat)} (h : MapFit es M) {x : MapEntry} (hx : x ∈ es.toList) : ∃ p ∈ M, kv x = kp p := by
  have h1 : kv x ∈ M.map kp := h.perm.mem_iff.1 (List.mem_map_of_mem hx)
  obtain ⟨p, hp, e⟩ := List.mem_map.1 h1
  exact ⟨p, hp, e.symm⟩

theorem MapFit.keys {es : Array MapEntry} {M : List (Int × Nat)} (h : MapFit es M) : ∀ e ∈ es.toList, ∃ l, keyOf Yba.prog 2 e.key = some l := by
  intro x hx
  obtain ⟨p, hp, e⟩ := h.ent hx
  have e1 : x.key = .int .i64 p.1 := congrArg Prod.fst e
  exact ⟨_, by rw [e1]; exact keyOf_int_mk Yba.underlying2 (h.wf p hp)⟩

theorem nodup_one {M : List (Int × Nat)} (h : (M.map (·.1)).Nodup) {k : Int} {a b : Nat} (ha : (k, a) ∈ M) (hb : (k, b) ∈ M) : a = b := by
  induction M with
  | nil => cases ha
  | cons p r ih =>
    simp only [List.map_cons, List.nodup_cons, List.mem_map] at h
    rcases List.mem_cons.1 ha with ea | ea
    · rcases List.mem_cons.1 hb with eb | eb
      · rw [← ea] at eb; exact (congrArg Prod.snd eb).symm
      · exact absurd ⟨_, eb, by rw [← ea]⟩ h.1
    · rcases List.mem_cons.1 hb with eb | eb
      · exact absurd ⟨_, ea, by rw [← eb]⟩ h.1
      · exact ih h.2 ea eb

theorem MapFit.hit {es : Array MapEntry} {M : List (Int × Nat)} (h : MapFit es M) {k : Int} {b : Nat} (hk : (k, b) ∈ M) (w : World) :
    ∃ j e, (Instr.findKey 2 (.int .i64 k) es.toList).run Yba.prog w = .ok (some (j, pt b)) w ∧ es.toList[j]? = some e ∧ kv e = kp (k, b) := by
  have hkey := keyOf_int_mk Yba.underlying2 (h.wf _ hk)
  rcases law2.find w hkey es.toList h.keys with ⟨_, h2⟩ | ⟨j, e, h1, h2, h3⟩
  · exfalso
    have h1 : kp (k, b) ∈ es.toList.map kv := h.perm.mem_iff.2 (List.mem_map_of_mem hk)
    obtain ⟨x, hx, e⟩ := List.mem_map.1 h1
    exact h2 x hx (congrArg Prod.fst e)
  · obtain ⟨p, hp, e1⟩ := h.ent (List.mem_of_getElem? h2)
    have e2 : e.key = .int .i64 p.1 := congrArg Prod.fst e1
    rw [h3] at e2
    injection e2 with _ e2
    obtain ⟨pk, pb⟩ := p
    simp only at e2
    subst e2
    have := nodup_one h.nd hk hp
    subst this
    have e3 : e.val = pt b := congrArg Prod.snd e1
    rw [e3] at h1
    exact ⟨j, e, h1, h2, e1⟩

theorem MapFit.miss {es : Array MapEntry} {M : List (Int × Nat)} (h : MapFit es M) {k : Int} (hw : (Lit.int .i64 k).wf = true) (hk : ∀ b, (k, b) ∉ M) (w : World) :
    (Instr.findKey 2 (.int .i64 k) es.toList).run Yba.prog w = .ok none w := by
  rcases law2.find w (keyOf_int_mk Yba.underlying2 hw) es.toList h.keys with ⟨h1, _⟩ | ⟨j, e, h1, h2, h3⟩
  · exact h1
  · exfalso
    obtain ⟨p, hp, e1⟩ := h.ent (List.mem_of_getElem? h2)
    have e2 : e.key = .int .i64 p.1 := congrArg Prod.fst e1
    rw [h3] at e2
    injection e2 with _ e2
    exact hk p.2 (by rw [e2]; exact hp)

section
variable {es : Array MapEntry} {M : List (Int × Nat)} {ck mb : Nat} {k : Int} {b : Nat}

theorem look_hit (h : MapFit es M) (hk : (k, b) ∈ M) (w : World) (hm : isM w mb es ck) :
    (Instr.lookup 47 (.map (some mb)) (.int .i64 k) true).run Yba.prog w = .ok (.tuple #[pt b, .bool true]) w := by
  obtain ⟨j, e, h1, _⟩ := h.hit hk w
  simp [Instr.lookup, run_underlying Yba.underlying47, MapKept.run_getObj_map hm, law2.check w _ (keyOf_int_mk Yba.underlying2 (h.wf _ hk)), h1, Result.andThen]

theorem look_hit1 (h : MapFit es M) (hk : (k, b) ∈ M) (w : World) (hm : isM w mb es ck) :
    (Instr.lookup 47 (.map (some mb)) (.int .i64 k) false).run Yba.prog w = .ok (pt b) w := by
  obtain ⟨j, e, h1, _⟩ := h.hit hk w
  simp [Instr.lookup, run_underlying Yba.underlying47, MapKept.run_getObj_map hm, law2.check w _ (keyOf_int_mk Yba.underlying2 (h.wf _ hk)), h1, Result.andThen]

theorem look_miss (h : MapFit es M) (hw : (Lit.int .i64 k).wf = true) (hk : ∀ b, (k, b) ∉ M) (w : World) (hm : isM w mb es ck) :
    (Instr.lookup 47 (.map (some mb)) (.int .i64 k) true).run Yba.prog w = .ok (.tuple #[.pointer none, .bool false]) w := by
  simp [Instr.lookup, run_underlying Yba.underlying47, MapKept.run_getObj_map hm, law2.check w _ (keyOf_int_mk Yba.underlying2 hw), h.miss hw hk w, zero51, Result.andThen]

theorem len_map (w : World) (hm : isM w mb es ck) (ty : TypeId) :
    (Builtin.len_ #[47] ty #[.map (some mb)]).run Yba.prog w = .ok (.int .i64 es.size) w := by
  simp [Builtin.len_, run_underlying Yba.underlying47, MapKept.run_getObj_map hm, goInt, Result.andThen]

theorem put_new (h : MapFit es M) (hw : (Lit.int .i64 k).wf = true) (hk : ∀ b, (k, b) ∉ M) (v : Value) (w : World) (hm : isM w mb es ck) :
    (Instr.mapUpdate 47 (.map (some mb)) (.int .i64 k) v).run Yba.prog w = .ok () (setBlock w mb (.map (es.push ⟨.int .i64 k, v, ck⟩) (ck + 1))) := by
  simp [Instr.mapUpdate, run_underlying Yba.underlying47, MapKept.run_getObj_map hm, law2.check w _ (keyOf_int_mk Yba.underlying2 hw), h.miss hw hk w, MapKept.run_setObj_map _ hm, Result.andThen, setBlock]

theorem MapFit.put (h : MapFit es M) (hw : (Lit.int .i64 k).wf = true) (hk : ∀ b, (k, b) ∉ M) : MapFit (es.push ⟨.int .i64 k, pt b, ck⟩) ((k, b) :: M) := by
  refine ⟨?_, ?_, ?_⟩
  · simp only [Array.toList_push, List.map_append, List.map_cons, List.map_nil]
    exact (List.perm_append_singleton _ _).trans (h.perm.cons _)
  · simp only [List.map_cons, List.nodup_cons, List.mem_map]
    refine ⟨?_, h.nd⟩
    rintro ⟨p, hp, e⟩
    exact hk p.2 (by rw [← e]; exact hp)
  · intro p hp
    rcases List.mem_cons.1 hp with e | e
    · rw [e]; exact hw
    · exact h.wf p e

theorem MapFit.perm' {M' : List (Int × Nat)} (h : MapFit es M) (hp : M.Perm M') : MapFit es M' :=
  ⟨h.perm.trans (hp.map _), (hp.map _).nodup_iff.1 h.nd, fun p hp' => h.wf p (hp.mem_iff.2 hp')⟩

theorem del_run (h : MapFit es ((k, b) :: M)) : ∃ es', MapFit es' M ∧ ∀ (w : World) (mb ck : Nat) (ty : TypeId), isM w mb es ck →
    (Builtin.delete_ #[47, 2] ty #[.map (some mb), .int .i64 k]).run Yba.prog w = .ok (.tuple #[]) (setBlock w mb (.map es' ck)) := by
  have hk : (k, b) ∈ (k, b) :: M := List.mem_cons_self
  have hkey := keyOf_int_mk Yba.underlying2 (h.wf _ hk)
  obtain ⟨j, e, h1, h2, h3⟩ := h.hit hk default
  refine ⟨es.eraseIdxIfInBounds j, ⟨?_, (List.nodup_cons.1 h.nd).2, fun p hp => h.wf p (List.mem_cons_of_mem _ hp)⟩, ?_⟩
  · have hj : j < es.size := by
      have := (List.getElem?_eq_some_iff.1 h2).1
      simpa using this
    have e1 : (es.eraseIdxIfInBounds j).toList = es.toList.eraseIdx j := by simp [Array.eraseIdxIfInBounds, hj]
    rw [e1, map_eraseIdx]
    have hj' : (es.toList.map kv)[j]? = some (kp (k, b)) := by simp only [List.getElem?_map, h2, Option.map_some, h3]
    have p1 : (es.toList.map kv).Perm (kp (k, b) :: (es.toList.map kv).eraseIdx j) := by
      exact erase_perm _ _ _ hj'
    exact (p1.symm.trans h.perm).cons_inv
  · intro w mb ck ty hm
    have h1' : (Instr.findKey 2 (.int .i64 k) es.toList).run Yba.prog w = .ok (some (j, pt b)) w := by
      obtain ⟨j', e', g1, g2, g3⟩ := h.hit hk w
      have : j' = j := by
        have nd : (es.toList.map kv).Nodup := h.perm.nodup_iff.2 (nodup_kp h.nd)
        have a1 : (es.toList.map kv)[j']? = some (kp (k, b)) := by simp only [List.getElem?_map, g2, Option.map_some, g3]
        have a2 : (es.toList.map kv)[j]? = some (kp (k, b)) := by simp only [List.getElem?_map, h2, Option.map_some, h3]
        exact (List.getElem?_inj (List.getElem?_eq_some_iff.1 a1).1 nd).1 (a1.trans a2.symm)
      rw [this] at g1
      exact g1
    simp [Builtin.delete_, run_underlying Yba.underlying47, MapKept.run_getObj_map hm, law2.check w _ hkey, h1', MapKept.run_setObj_map _ hm, Result.andThen, setBlock]
end
end Go.Proofs.Ybulkcnrs
