import Derived.Test.YbulkcnrsState
import Derived.Test.YbulkcnrsAdd
namespace Go.Proofs.Ybulkcnrs
open Go.RowKit Go.ChangeMaps
set_option linter.unusedVariables false
set_option linter.unusedSimpArgs false

theorem nodes_split (lb : Nat) (A B : List Ent) (e : Ent) : nodes lb (A ++ e :: B) = lb :: (A.map Ent.eb ++ e.eb :: B.map Ent.eb ++ [lb]) := by simp [nodes]

/-- The element e, not the first, is moved to the front. -/
theorem LSt.move {w : World} {lb mb p n : Nat} {a e : Ent} {A B : List Ent} {A' B' : List Nat} (h : LSt w lb mb ((a :: A) ++ e :: B)) (hA : a.eb :: A.map Ent.eb = A' ++ [p]) (hB : B.map Ent.eb ++ [lb] = n :: B') :
    LSt (sets w (mvL lb e.eb a.eb p n)) lb mb (e :: ((a :: A) ++ B)) := by
  have hp : p ∈ nodes lb ((a :: A) ++ e :: B) := by
    have : p ∈ a.eb :: A.map Ent.eb := by rw [hA]; simp
    simp only [nodes, List.map_append, List.map_cons, List.mem_cons, List.mem_append] at this ⊢
    grind
  have hn : n ∈ nodes lb ((a :: A) ++ e :: B) := by
    have : n ∈ B.map Ent.eb ++ [lb] := by rw [hB]; simp
    simp only [nodes, List.map_append, List.map_cons, List.mem_cons, List.mem_append] at this ⊢
    grind
  have hl : ∀ x ∈ mvL lb e.eb a.eb p n, x.1 ∈ nodes lb ((a :: A) ++ e :: B) ∧ x.2.1 < 2 := by
    intro x hx
    simp only [mvL, List.mem_cons, List.not_mem_nil, or_false] at hx
    rcases hx with rfl | rfl | rfl | rfl | rfl | rfl
    · exact ⟨hp, by simp⟩
    · exact ⟨hn, by simp⟩
    · exact ⟨by simp [nodes], by simp⟩
    · exact ⟨by simp [nodes], by simp⟩
    · exact ⟨by simp [nodes], by simp⟩
    · exact ⟨by simp [nodes], by simp⟩
  have hperm : ((a :: A) ++ e :: B).Perm (e :: ((a :: A) ++ B)) := List.perm_middle
  obtain ⟨es, ck, hm, hF⟩ := h.map
  refine ⟨?_, ?_, sets_isT _ _ _ _ h.tl, ⟨es, ck, sets_isM _ _ _ _ _ hm, hF.perm' (hperm.map _)⟩, (hperm.map _).nodup_iff.1 h.nd, fun x hx => h.el_sets hl x (hperm.mem_iff.2 hx)⟩
  · have h1 := h.ring
    rw [nodes_split] at h1
    have hnd : (lb :: ((a.eb :: A.map Ent.eb) ++ e.eb :: B.map Ent.eb)).Nodup := by
      rw [List.nodup_cons]
      refine ⟨?_, ?_⟩
      · have := h.lb_notin
        simpa using this
      · have := h.nd
        simpa using this
    have := ring_move (a := a.eb) (A := A.map Ent.eb) (e := e.eb) (B := B.map Ent.eb) (by simpa using h1) hnd hA hB
    simpa [nodes] using this
  · rw [sets_cell _ _ _ _ (fun x hx => Or.inr (by have := (hl x hx).2; omega)), h.len]
    simp; omega

/-! the last element goes -/
abbrev rmL (lb eb pb : Nat) (n : Int) : List Wr := [(pb, 0, pt lb), (lb, 1, pt pb), (eb, 0, .pointer none), (eb, 1, .pointer none), (eb, 2, .pointer none), (lb, 4, .int .i64 n)]

theorem ring_last {w : World} {lb e : Nat} {A : List Nat} (h : Linked w (lb :: (A ++ [e] ++ [lb]))) :
    ∃ p A', lb :: A = A' ++ [p] ∧ w.cell? ⟨p, 0, none⟩ = some (pt e) ∧ w.cell? ⟨e, 1, none⟩ = some (pt p) ∧ w.cell? ⟨e, 0, none⟩ = some (pt lb) ∧ w.cell? ⟨lb, 1, none⟩ = some (pt e) := by
  obtain ⟨A', p, hA⟩ : ∃ A' p, lb :: A = A' ++ [p] := ⟨(lb :: A).dropLast, (lb :: A).getLast (by simp), (List.dropLast_concat_getLast (by simp)).symm⟩
  have e1 : lb :: (A ++ [e] ++ [lb]) = A' ++ p :: [e, lb] := by
    have : lb :: (A ++ [e] ++ [lb]) = (lb :: A) ++ [e, lb] := by simp
    rw [this, hA]; simp
  rw [e1] at h
  have h2 := ((linked_split _ _ _).1 h).2
  exact ⟨p, A', hA, h2.1, h2.2.1, h2.2.2.1, h2.2.2.2.1⟩

theorem ring_pop {w : World} {lb e p : Nat} {A A' : List Nat} {n : Int} (h : Linked w (lb :: (A ++ [e] ++ [lb]))) (hnd : (lb :: (A ++ [e])).Nodup) (hA : lb :: A = A' ++ [p]) :
    Linked (sets w (rmL lb e p n)) (lb :: (A ++ [lb])) := by
  have e1 : lb :: (A ++ [e] ++ [lb]) = A' ++ p :: [e, lb] := by
    have : lb :: (A ++ [e] ++ [lb]) = (lb :: A) ++ [e, lb] := by simp
    rw [this, hA]; simp
  rw [e1] at h
  obtain ⟨hl, k1, k2, k3, k4, _⟩ := (linked_split _ _ _).1 h
  have hpA : p ∈ lb :: A := by rw [hA]; simp
  rw [List.mem_cons] at hpA
  have nd := hnd
  simp only [List.nodup_cons, List.nodup_append, List.mem_append, List.mem_cons, not_or] at nd
  have hep : ¬ e = p := fun hh => by subst hh; grind
  have hel : ¬ e = lb := by grind
  have r1 : (sets w (rmL lb e p n)).cell? ⟨p, 0, none⟩ = some (pt lb) := sets_at (l := []) k1 (by
    intro y hy
    simp only [List.mem_cons, List.not_mem_nil, or_false] at hy
    rcases hy with rfl | rfl | rfl | rfl | rfl <;> grind)
  have r2 : (sets w (rmL lb e p n)).cell? ⟨lb, 1, none⟩ = some (pt p) := sets_at (l := [(p, 0, pt lb)]) k4 (by
    intro y hy
    simp only [List.mem_cons, List.not_mem_nil, or_false] at hy
    rcases hy with rfl | rfl | rfl | rfl <;> grind)
  have e2 : lb :: (A ++ [lb]) = A' ++ p :: [lb] := by
    have : lb :: (A ++ [lb]) = (lb :: A) ++ [lb] := by simp
    rw [this, hA]; simp
  rw [e2, linked_split]
  refine ⟨?_, r1, r2, trivial⟩
  refine hl.kept (fun x hx => sets_cell _ _ _ _ ?_) (fun x hx => sets_cell _ _ _ _ ?_)
  · rw [List.dropLast_concat] at hx
    have nd2 : (A' ++ [p]).Nodup := by rw [← hA, List.nodup_cons]; grind
    rw [List.nodup_append] at nd2
    have hxl : x ∈ lb :: A := by rw [hA]; simp [hx]
    rw [List.mem_cons] at hxl
    intro y hy
    simp only [rmL, List.mem_cons, List.not_mem_nil, or_false] at hy
    rcases hy with rfl | rfl | rfl | rfl | rfl | rfl
    · exact Or.inl (by grind)
    · exact Or.inr (by simp)
    · exact Or.inl (by grind)
    · exact Or.inr (by simp)
    · exact Or.inr (by simp)
    · exact Or.inr (by simp)
  · rw [← hA, List.tail_cons] at hx
    intro y hy
    simp only [rmL, List.mem_cons, List.not_mem_nil, or_false] at hy
    rcases hy with rfl | rfl | rfl | rfl | rfl | rfl
    · exact Or.inr (by simp)
    · exact Or.inl (by grind)
    · exact Or.inr (by simp)
    · exact Or.inl (by grind)
    · exact Or.inr (by simp)
    · exact Or.inr (by simp)

theorem LSt.pop {w : World} {lb mb p ck : Nat} {e : Ent} {A : List Ent} {A' : List Nat} {es es' : Array MapEntry} (h : LSt w lb mb (A ++ [e])) (hA : lb :: A.map Ent.eb = A' ++ [p]) (hm : isM w mb es ck) (hF : MapFit es' (keysOf A)) :
    LSt (setBlock (sets w (rmL lb e.eb p A.length)) mb (.map es' ck)) lb mb A := by
  have hnd : (lb :: (A.map Ent.eb ++ [e.eb])).Nodup := by
    rw [List.nodup_cons]
    exact ⟨by simpa using h.lb_notin, by simpa using h.nd⟩
  have hpA : p ∈ lb :: A.map Ent.eb := by rw [hA]; simp
  have hme : ∀ b ∈ nodes lb (A ++ [e]), ¬ b = mb := by
    rintro b hb rfl
    rcases h.nodeT hb with ⟨c, h2⟩ | ⟨c, h2⟩ <;> (rw [hm] at h2; simp at h2)
  have hpn : p ∈ nodes lb (A ++ [e]) := by
    rw [List.mem_cons] at hpA
    simp only [nodes, List.map_append, List.mem_cons, List.mem_append]
    grind
  have hnode : ∀ x ∈ rmL lb e.eb p A.length, x.1 ∈ nodes lb (A ++ [e]) := by
    intro x hx
    simp only [rmL, List.mem_cons, List.not_mem_nil, or_false] at hx
    rcases hx with rfl | rfl | rfl | rfl | rfl | rfl
    · exact hpn
    all_goals simp [nodes]
  have hh : ∀ b, ¬ b = mb → (setBlock (sets w (rmL lb e.eb p A.length)) mb (.map es' ck)).heap[b]? = (sets w (rmL lb e.eb p A.length)).heap[b]? := fun b hb => sb_heap _ _ _ _ hb
  have hlm : ¬ lb = mb := hme lb (by simp [nodes])
  have ring1 : Linked (sets w (rmL lb e.eb p A.length)) (nodes lb A) := ring_pop (by have := h.ring; simpa [nodes] using this) hnd hA
  have hea : ∀ x ∈ A, ¬ e.eb = x.eb := by
    intro x hx he
    rw [List.nodup_cons, List.nodup_append] at hnd
    exact hnd.2.2.2 x.eb (List.mem_map_of_mem hx) e.eb (by simp) he.symm
  refine ⟨?_, ?_, (sets_isT _ _ _ _ h.tl).of_heap (hh _ hlm), ⟨es', ck, ?_, hF⟩, ?_, ?_⟩
  · refine ring1.kept (fun b hb => cell_heap (hh b ?_)) (fun b hb => cell_heap (hh b ?_))
    · have hb' : b ∈ nodes lb A := List.dropLast_subset _ hb
      exact hme b (by simp only [nodes, List.map_append, List.mem_cons, List.mem_append] at hb' ⊢; grind)
    · have hb' : b ∈ nodes lb A := List.mem_of_mem_tail hb
      exact hme b (by simp only [nodes, List.map_append, List.mem_cons, List.mem_append] at hb' ⊢; grind)
  · rw [cell_heap (hh _ hlm)]
    exact sets_at (l := [(p, 0, pt lb), (lb, 1, pt p), (e.eb, 0, .pointer none), (e.eb, 1, .pointer none), (e.eb, 2, .pointer none)]) h.len (by simp)
  · have : mb < (sets w (rmL lb e.eb p A.length)).heap.size := by rw [sets_size]; exact hm.lt
    rw [sb_isM _ _ _ _ this]; trivial
  · rw [List.nodup_cons, List.nodup_append] at hnd
    exact hnd.2.1
  · intro x hx
    have h1 := h.el x (by simp [hx])
    have hob : ∀ y ∈ rmL lb e.eb p A.length, ¬ y.1 = x.ob := fun y hy hb => by
      have h2 := h.nodeT (hnode y hy)
      rw [hb] at h2
      rcases h2 with ⟨c, h2⟩ | ⟨c, h2⟩ <;> (rw [h1.obj] at h2; simp at h2)
    obtain ⟨c, f, hr⟩ := h1.row
    have hxb : ∀ y ∈ rmL lb e.eb p A.length, ¬ y.1 = x.xb := fun y hy hb => by
      have h2 := h.nodeT (hnode y hy)
      rw [hb] at h2
      rcases h2 with ⟨c, h2⟩ | ⟨c, h2⟩ <;> (rw [hr] at h2; simp at h2)
    have m1 : ¬ x.eb = mb := hme x.eb (by simp only [nodes, List.map_append, List.mem_cons, List.mem_append, List.mem_map]; grind)
    have m2 : ¬ x.ob = mb := by intro hb; have := h1.obj; rw [hb, hm] at this; simp at this
    have m3 : ¬ x.xb = mb := by intro hb; rw [hb, hm] at hr; simp at hr
    have hxe := hea x hx
    have hxl : ¬ lb = x.eb := by
      intro hb
      have := h.lb_notin
      simp only [List.map_append, List.mem_append, List.mem_map] at this
      grind
    refine ⟨(sets_isT _ _ _ _ h1.te).of_heap (hh _ m1), ?_, ?_, (hh _ m2).trans ((sets_heap _ w _ hob).trans h1.obj), ⟨c, f, (hh _ m3).trans ((sets_heap _ w _ hxb).trans hr)⟩, h1.bytes.of_heap ((hh _ m3).trans (sets_heap _ w _ hxb)), h1.wf⟩
    · rw [cell_heap (hh _ m1), sets_cell _ _ _ _ ?_]
      · exact h1.c2
      intro y hy
      simp only [rmL, List.mem_cons, List.not_mem_nil, or_false] at hy
      rcases hy with rfl | rfl | rfl | rfl | rfl | rfl
      · exact Or.inr (by simp)
      · exact Or.inr (by simp)
      · exact Or.inr (by simp)
      · exact Or.inr (by simp)
      · exact Or.inl hxe
      · exact Or.inr (by simp)
    · rw [cell_heap (hh _ m1), sets_cell _ _ _ _ ?_]
      · exact h1.c3
      intro y hy
      simp only [rmL, List.mem_cons, List.not_mem_nil, or_false] at hy
      rcases hy with rfl | rfl | rfl | rfl | rfl | rfl <;> exact Or.inr (by simp)

/-! a new first element -/
theorem LSt.push {w : World} {cb lb fb mb ck n c xb : Nat} {k t : Int} {es : Array MapEntry} {L : List Ent} {bs : List UInt8} {F : List Nat} (h : LSt w lb mb L) (hc : isT w cb 49) (hm : isM w mb es ck) (hF : MapFit es (keysOf L))
    (hfb : L.map Ent.eb ++ [lb] = fb :: F) (hk : ∀ e ∈ L, ¬ e.off = k) (hw : (Lit.int .i64 k).wf = true) (hn : n = bs.length) (hb : bytesAt w xb bs) (hr : ∃ c f, w.heap[xb]? = some (.cells c 5 f)) (hlen : wrap64 (L.length + 1) = L.length + 1) :
    LSt (added w cb lb fb mb ck n c xb L.length k t es) lb mb ({ off := k, t := t, bs := bs, eb := w.heap.size + 1, ob := w.heap.size, xb := xb, cap := c } :: L) := by
  have hnd : (lb :: L.map Ent.eb).Nodup := by
    rw [List.nodup_cons]
    exact ⟨h.lb_notin, h.nd⟩
  have hfn : fb ∈ nodes lb L := by
    have : fb ∈ L.map Ent.eb ++ [lb] := by rw [hfb]; simp
    simp only [nodes, List.mem_cons]
    exact Or.inr this
  have hnl : ∀ b ∈ nodes lb L, b < w.heap.size := fun b hb => by rcases h.nodeT hb with h1 | h1 <;> exact h1.isC.lt
  have hnc : ∀ b ∈ nodes lb L, ¬ cb = b := by
    rintro b hb rfl
    rcases h.nodeT hb with h1 | h1 <;> exact absurd (h1.one hc) (by decide)
  have hme : ∀ b ∈ nodes lb L, ¬ b = mb := by
    rintro b hb rfl
    rcases h.nodeT hb with ⟨c, h2⟩ | ⟨c, h2⟩ <;> (rw [hm] at h2; simp at h2)
  have hml := hm.lt
  -- the world, step by step
  have hW : ∀ b i, b < w.heap.size → ¬ b = mb → (added w cb lb fb mb ck n c xb L.length k t es).cell? ⟨b, i, none⟩ = (sets w [(cb, 0, .int .i32 1), (lb, 0, pt (w.heap.size + 1)), (fb, 1, pt (w.heap.size + 1)), (lb, 4, .int .i64 (wrap64 (L.length + 1)))]).cell? ⟨b, i, none⟩ := by
    intro b i hb hbm
    unfold added
    rw [sb_cell _ _ _ _ _ hbm, World.cell?_alloc_past _ _ _ (by simp; omega), World.cell?_alloc_past _ _ _ (by simpa using hb)]
    rfl
  have heb : ∀ i, (added w cb lb fb mb ck n c xb L.length k t es).cell? ⟨w.heap.size + 1, i, none⟩ = (#[pt fb, pt lb, pt lb, .iface 53 (pt w.heap.size)] : Array Value)[i]? := by
    intro i
    have := added_eb (w := w) (cb := cb) (lb := lb) (fb := fb) (ck := ck) (n := n) (c := c) (xb := xb) (ln := L.length) (k := k) (t := t) (es := es) hml
    unfold World.cell?
    simp only [this]
    rfl
  have hold : ∀ b, b < w.heap.size → ¬ cb = b → ¬ lb = b → ¬ fb = b → ¬ b = mb → (added w cb lb fb mb ck n c xb L.length k t es).heap[b]? = w.heap[b]? := fun b h0 h1 h2 h3 h4 => added_old h0 h1 h2 h3 h4
  have htT : ∀ b t', isT w b t' → ¬ b = mb → isT (added w cb lb fb mb ck n c xb L.length k t es) b t' := by
    intro b t' ht hbm
    have h1 := sets_isT [(cb, 0, .int .i32 1), (lb, 0, pt (w.heap.size + 1)), (fb, 1, pt (w.heap.size + 1)), (lb, 4, .int .i64 (wrap64 (L.length + 1)))] _ _ _ ht
    refine h1.of_heap ?_
    unfold added
    rw [sb_heap _ _ _ _ hbm, Below.heap_alloc _ _ _ (by simp; have := ht.isC.lt; omega), Below.heap_alloc _ _ _ (by simpa using ht.isC.lt)]
    rfl
  have hlb := hnl lb (by simp [nodes])
  have hlm := hme lb (by simp [nodes])
  have hcl := hnc lb (by simp [nodes])
  have hfbl := hnl fb hfn
  have hfm := hme fb hfn
  have hcf := hnc fb hfn
  have hf1 : ∃ u, w.cell? ⟨fb, 1, none⟩ = some u := by
    have h1 := h.ring
    unfold nodes at h1
    rw [hfb] at h1
    exact ⟨_, h1.2.1⟩
  have hl0 : w.cell? ⟨lb, 0, none⟩ = some (pt fb) := by
    have h1 := h.ring
    unfold nodes at h1
    rw [hfb] at h1
    exact h1.1
  obtain ⟨u1, hu1⟩ := hf1
  have r1 : (added w cb lb fb mb ck n c xb L.length k t es).cell? ⟨lb, 0, none⟩ = some (pt (w.heap.size + 1)) := by
    rw [hW _ _ hlb hlm]
    exact sets_at (l := [(cb, 0, .int .i32 1)]) hl0 (by simp)
  have r2 : (added w cb lb fb mb ck n c xb L.length k t es).cell? ⟨fb, 1, none⟩ = some (pt (w.heap.size + 1)) := by
    rw [hW _ _ hfbl hfm]
    exact sets_at (l := [(cb, 0, .int .i32 1), (lb, 0, pt (w.heap.size + 1))]) hu1 (by simp)
  refine ⟨?_, ?_, htT _ _ h.tl hlm, ⟨_, _, added_isM hml, ?_⟩, ?_, ?_⟩
  · show Linked _ (lb :: (w.heap.size + 1) :: (L.map Ent.eb ++ [lb]))
    rw [hfb]
    refine ⟨r1, by rw [heb]; rfl, by rw [heb]; rfl, r2, ?_⟩
    have h1 := h.ring
    unfold nodes at h1
    rw [hfb] at h1
    refine h1.2.2.kept (fun b hb => ?_) (fun b hb => ?_)
    · have hbL : b ∈ L.map Ent.eb := by rw [← hfb, List.dropLast_concat] at hb; exact hb
      have hbn : b ∈ nodes lb L := by simp only [nodes, List.mem_cons, List.mem_append]; exact Or.inr (Or.inl hbL)
      rw [hW _ _ (hnl b hbn) (hme b hbn)]
      refine sets_cell _ _ _ _ ?_
      intro y hy
      simp only [List.mem_cons, List.not_mem_nil, or_false] at hy
      rw [List.nodup_cons] at hnd
      rcases hy with rfl | rfl | rfl | rfl
      · exact Or.inl (hnc b hbn)
      · exact Or.inl (by grind)
      · exact Or.inr (by simp)
      · exact Or.inr (by simp)
    · simp only [List.tail_cons] at hb
      have hbn : b ∈ nodes lb L := by
        have : b ∈ L.map Ent.eb ++ [lb] := by rw [hfb]; exact List.mem_cons_of_mem _ hb
        simp only [nodes, List.mem_cons]
        exact Or.inr this
      have nd3 : (fb :: F).Nodup := by
        rw [← hfb, List.nodup_append]
        rw [List.nodup_cons] at hnd
        grind
      rw [List.nodup_cons] at nd3
      rw [hW _ _ (hnl b hbn) (hme b hbn)]
      refine sets_cell _ _ _ _ ?_
      intro y hy
      simp only [List.mem_cons, List.not_mem_nil, or_false] at hy
      rcases hy with rfl | rfl | rfl | rfl
      · exact Or.inr (by simp)
      · exact Or.inr (by simp)
      · exact Or.inl (by grind)
      · exact Or.inr (by simp)
  · rw [hW _ _ hlb hlm]
    have := sets_at (l := [(cb, 0, .int .i32 1), (lb, 0, pt (w.heap.size + 1)), (fb, 1, pt (w.heap.size + 1))]) (r := []) (v := .int .i64 (wrap64 (L.length + 1))) h.len (by simp)
    simp only [List.cons_append, List.nil_append] at this
    rw [this, hlen]
    simp
  · exact hF.put hw (fun b hb => by
      obtain ⟨e, he, h1⟩ := List.mem_map.1 hb
      exact hk e he (congrArg Prod.fst h1))
  · rw [List.map_cons, List.nodup_cons]
    refine ⟨fun hb => ?_, h.nd⟩
    have hbn : w.heap.size + 1 ∈ nodes lb L := by simp only [nodes, List.mem_cons, List.mem_append]; exact Or.inr (Or.inl hb)
    have := hnl _ hbn
    omega
  · intro x hx
    obtain ⟨rc, rf, hrr⟩ := hr
    have oldrow : ∀ (b : Nat) (c' : Array Value) (f' : Nat × Nat), w.heap[b]? = some (Obj.cells c' 5 f') → (added w cb lb fb mb ck n c xb L.length k t es).heap[b]? = w.heap[b]? := by
      intro b c' f' hb'
      refine hold b (lt_of_heap hb') ?_ ?_ ?_ ?_
      · rintro rfl; obtain ⟨c2, h2⟩ := hc; rw [hb'] at h2; simp at h2
      · rintro rfl; obtain ⟨c2, h2⟩ := h.tl; rw [hb'] at h2; simp at h2
      · rintro rfl; rcases h.nodeT hfn with ⟨c2, h2⟩ | ⟨c2, h2⟩ <;> (rw [hb'] at h2; simp at h2)
      · rintro rfl; rw [hm] at hb'; simp at hb'
    have old58 : ∀ (b : Nat) (c' : Array Value), w.heap[b]? = some (Obj.cells c' 58) → (added w cb lb fb mb ck n c xb L.length k t es).heap[b]? = w.heap[b]? := by
      intro b c' hb'
      refine hold b (lt_of_heap hb') ?_ ?_ ?_ ?_
      · rintro rfl; obtain ⟨c2, h2⟩ := hc; rw [hb'] at h2; simp at h2
      · rintro rfl; obtain ⟨c2, h2⟩ := h.tl; rw [hb'] at h2; simp at h2
      · rintro rfl; rcases h.nodeT hfn with ⟨c2, h2⟩ | ⟨c2, h2⟩ <;> (rw [hb'] at h2; simp at h2)
      · rintro rfl; rw [hm] at hb'; simp at hb'
    rcases List.mem_cons.1 hx with rfl | hx
    · subst hn
      refine ⟨⟨_, added_eb hml⟩, by rw [heb]; rfl, by rw [heb]; rfl, added_ob hml, ⟨rc, rf, (oldrow _ _ _ hrr).trans hrr⟩, hb.of_heap (oldrow _ _ _ hrr), hw⟩
    · have h1 := h.el x hx
      have hxn : x.eb ∈ nodes lb L := by simp only [nodes, List.mem_cons, List.mem_append, List.mem_map]; exact Or.inr (Or.inl ⟨x, hx, rfl⟩)
      obtain ⟨xc, xf, hxr⟩ := h1.row
      have hxl : ¬ lb = x.eb := fun hh => h.lb_notin (by rw [hh]; exact List.mem_map_of_mem hx)
      refine ⟨htT _ _ h1.te (hme _ hxn), ?_, ?_, (old58 _ _ h1.obj).trans h1.obj, ⟨xc, xf, (oldrow _ _ _ hxr).trans hxr⟩, h1.bytes.of_heap (oldrow _ _ _ hxr), h1.wf⟩
      · rw [hW _ _ (hnl _ hxn) (hme _ hxn), sets_cell _ _ _ _ ?_]
        · exact h1.c2
        intro y hy
        simp only [List.mem_cons, List.not_mem_nil, or_false] at hy
        rcases hy with rfl | rfl | rfl | rfl
        · exact Or.inr (by simp)
        · exact Or.inr (by simp)
        · exact Or.inr (by simp)
        · exact Or.inl hxl
      · rw [hW _ _ (hnl _ hxn) (hme _ hxn), sets_cell _ _ _ _ ?_]
        · exact h1.c3
        intro y hy
        simp only [List.mem_cons, List.not_mem_nil, or_false] at hy
        rcases hy with rfl | rfl | rfl | rfl
        · exact Or.inr (by simp)
        · exact Or.inr (by simp)
        · exact Or.inr (by simp)
        · exact Or.inl hxl
end Go.Proofs.Ybulkcnrs
