import Derived.Test.YbulkcnrsMoves
namespace Go.Proofs.Ybulkcnrs
open Go.RowKit Go.Maps Go.ChangeMaps Go.MuLone
set_option linter.unusedVariables false
set_option linter.unusedSimpArgs false
attribute [local go_sem] isC_setCell isC_drew isC_allocs isM_setCell isM_drew isM_allocs sb_cell sb_frozen sb_isC sb_size sb_isM sb_drew

/-- The cache holds just L. -/
structure CSt (w : World) (cb lb mb : Nat) (lim : Int) (L : List Ent) : Prop where
  cache : CacheAt w cb lb mb lim (tot L)
  tc : isT w cb 49
  st : LSt w lb mb L

theorem CSt.cb_node {w : World} {cb lb mb : Nat} {lim : Int} {L : List Ent} (h : CSt w cb lb mb lim L) {b : Nat} (hb : b ∈ nodes lb L) : ¬ cb = b := by
  rintro rfl
  rcases h.st.nodeT hb with h1 | h1 <;> exact absurd (h1.one h.tc) (by decide)

/-- All that is wanted of the world at a MoveToFront of e, not the first. -/
structure MoveOK (w : World) (lb eb fb pb nb : Nat) : Prop where
  h1 : ¬ eb = lb
  h2 : ¬ eb = fb
  h3 : ¬ pb = eb
  h4 : ¬ nb = eb
  h5 : ¬ pb = lb
  h6 : ¬ nb = fb
  ce0 : w.cell? ⟨eb, 0, none⟩ = some (pt nb)
  ce1 : w.cell? ⟨eb, 1, none⟩ = some (pt pb)
  ce2 : w.cell? ⟨eb, 2, none⟩ = some (pt lb)
  cl0 : w.cell? ⟨lb, 0, none⟩ = some (pt fb)
  cp0 : w.cell? ⟨pb, 0, none⟩ = some (pt eb)
  cn1 : w.cell? ⟨nb, 1, none⟩ = some (pt eb)
  cf1 : w.cell? ⟨fb, 1, none⟩ = some (pt lb)
  ie : isC w eb
  il : isC w lb
  iF : isC w fb
  ip : isC w pb
  iN : isC w nb

theorem MoveOK.calls {w : World} {lb eb fb pb nb : Nat} (m : MoveOK w lb eb fb pb nb) : Calls Yba.prog 17 #[pt lb, pt eb] w fun e w' => e = .returned (.tuple #[]) ∧ w' = (sets w (mvL lb eb fb pb nb)).drew.drew :=
  (moveToFront_later lb eb fb pb nb (pt eb) (pt eb) (pt lb) .nilIface w m.h1 (Ne.symm m.h1) m.h2 (Ne.symm m.h2) m.h3 (Ne.symm m.h3) m.h4 (Ne.symm m.h4) m.h5 (Ne.symm m.h5) m.h6 (Ne.symm m.h6) m.ce0 m.ce1 m.ce2 m.cl0 m.cp0 m.cn1 m.cf1 m.ie m.il m.iF m.ip m.iN)

theorem MoveOK.lock {w : World} {lb eb fb pb nb cb : Nat} {v : Value} (m : MoveOK w lb eb fb pb nb) (n1 : ¬ cb = eb) (n2 : ¬ cb = lb) (n3 : ¬ cb = fb) (n4 : ¬ cb = pb) (n5 : ¬ cb = nb) : MoveOK (w.setCell ⟨cb, 0, none⟩ v) lb eb fb pb nb :=
  ⟨m.h1, m.h2, m.h3, m.h4, m.h5, m.h6, (sc_ne _ _ _ _ _ _ n1).trans m.ce0, (sc_ne _ _ _ _ _ _ n1).trans m.ce1, (sc_ne _ _ _ _ _ _ n1).trans m.ce2, (sc_ne _ _ _ _ _ _ n2).trans m.cl0, (sc_ne _ _ _ _ _ _ n4).trans m.cp0, (sc_ne _ _ _ _ _ _ n5).trans m.cn1, (sc_ne _ _ _ _ _ _ n3).trans m.cf1,
    by rw [isC_setCell]; exact m.ie, by rw [isC_setCell]; exact m.il, by rw [isC_setCell]; exact m.iF, by rw [isC_setCell]; exact m.ip, by rw [isC_setCell]; exact m.iN⟩

theorem LSt.moveOK {w : World} {lb mb : Nat} {a e : Ent} {A B : List Ent} (h : LSt w lb mb ((a :: A) ++ e :: B)) :
    ∃ p n A' B', a.eb :: A.map Ent.eb = A' ++ [p] ∧ B.map Ent.eb ++ [lb] = n :: B' ∧ MoveOK w lb e.eb a.eb p n := by
  have h0 := h.ring
  rw [nodes_split] at h0
  obtain ⟨p, n, hpA, hnB, ⟨A', hA⟩, ⟨B', hB⟩, c1, c2, c3, c4, c5, c6⟩ := ring_around (a := a.eb) (A := A.map Ent.eb) (e := e.eb) (B := B.map Ent.eb) (by simpa using h0)
  refine ⟨p, n, A', B', hA, hB, ?_⟩
  have hnd := h.nd
  have hlb := h.lb_notin
  simp only [List.map_append, List.map_cons, List.nodup_append, List.nodup_cons, List.mem_append, List.mem_cons, not_or] at hnd hlb hpA
  rw [List.mem_append, List.mem_singleton] at hnB
  have hT : ∀ b, b ∈ nodes lb ((a :: A) ++ e :: B) → isC w b := fun b hb => by rcases h.nodeT hb with h1 | h1 <;> exact h1.isC
  have hp : p ∈ nodes lb ((a :: A) ++ e :: B) := by simp only [nodes, List.map_append, List.map_cons, List.mem_cons, List.mem_append]; grind
  have hn : n ∈ nodes lb ((a :: A) ++ e :: B) := by simp only [nodes, List.map_append, List.map_cons, List.mem_cons, List.mem_append]; grind
  refine ⟨by grind, by grind, by grind, by grind, by grind, by grind, c5, c4, (h.el e (by simp)).c2, c1, c3, c6, c2, hT _ (by simp [nodes]), hT _ (by simp [nodes]), hT _ (by simp [nodes]), hT _ hp, hT _ hn⟩

set_option maxHeartbeats 3200000 in
theorem get_later {w : World} {cb lb mb : Nat} {lim : Int} {a e : Ent} {A B : List Ent} (h : CSt w cb lb mb lim ((a :: A) ++ e :: B)) :
    Calls Yba.prog 9 #[pt cb, .int .i64 e.off] w fun r w' => r = .returned (.tuple #[.int .u8 e.t, .slice (some ⟨e.xb, 0, none⟩) e.bs.length e.cap, .bool true]) ∧
      ∃ p n A' B' nq, a.eb :: A.map Ent.eb = A' ++ [p] ∧ B.map Ent.eb ++ [lb] = n :: B' ∧ w' = (sets w (mvL lb e.eb a.eb p n)).drewN nq := by
  obtain ⟨p, n, A', B', hA, hB, m⟩ := h.st.moveOK
  have hpn : p ∈ nodes lb ((a :: A) ++ e :: B) := by
    have : p ∈ a.eb :: A.map Ent.eb := by rw [hA]; simp
    simp only [nodes, List.map_append, List.map_cons, List.mem_cons, List.mem_append] at this ⊢; grind
  have hnn : n ∈ nodes lb ((a :: A) ++ e :: B) := by
    have : n ∈ B.map Ent.eb ++ [lb] := by rw [hB]; simp
    simp only [nodes, List.map_append, List.map_cons, List.mem_cons, List.mem_append] at this ⊢; grind
  have q1 := h.cb_node (b := e.eb) (by simp [nodes])
  have q2 := h.cb_node (b := lb) (by simp [nodes])
  have q3 := h.cb_node (b := a.eb) (by simp [nodes])
  have q4 := h.cb_node hpn
  have q5 := h.cb_node hnn
  have hE := h.st.el e (by simp)
  obtain ⟨es, ck, hm, hF⟩ := h.st.map
  have hk : (e.off, e.eb) ∈ keysOf ((a :: A) ++ e :: B) := by simp [keysOf]
  have hC := h.cache
  have c0 := hC.c0
  have c4 := hC.c4
  have c5 := hC.c5
  have z := hC.ic.frozen
  have hl := look_hit (mb := mb) (ck := ck) hF hk
  have hta := ta53
  have hmv := (m.lock (v := .int .i32 1) q1 q2 q3 q4 q5).calls
  -- the world behind the move, under the lock
  have hcb : ∀ x ∈ mvL lb e.eb a.eb p n, ¬ x.1 = cb := by
    intro x hx
    simp only [mvL, List.mem_cons, List.not_mem_nil, or_false] at hx
    rcases hx with rfl | rfl | rfl | rfl | rfl | rfl <;> (intro hh; simp only at hh; first | exact q4 hh.symm | exact q5 hh.symm | exact q1 hh.symm | exact q2 hh.symm | exact q3 hh.symm)
  have hlk := sets_lock (mvL lb e.eb a.eb p n) w ⟨cb, 0, none⟩ (.int .i32 1) (.int .i32 0) c0 hcb
  have x0 : (sets (w.setCell ⟨cb, 0, none⟩ (.int .i32 1)) (mvL lb e.eb a.eb p n)).cell? ⟨cb, 0, none⟩ = some (.int .i32 1) := by
    rw [sets_cell _ _ _ _ (fun x hx => Or.inl (hcb x hx))]
    exact World.cell?_setCell_same _ _ _ c0
  have x3 : (sets (w.setCell ⟨cb, 0, none⟩ (.int .i32 1)) (mvL lb e.eb a.eb p n)).cell? ⟨e.eb, 3, none⟩ = some (.iface 53 (pt e.ob)) := by
    rw [sets_cell _ _ _ _ ?_, sc_ne _ _ _ _ _ _ q1]
    · exact hE.c3
    intro x hx
    simp only [mvL, List.mem_cons, List.not_mem_nil, or_false] at hx
    rcases hx with rfl | rfl | rfl | rfl | rfl | rfl <;> exact Or.inr (by simp)
  have hob : ∀ x ∈ mvL lb e.eb a.eb p n, ¬ x.1 = e.ob := by
    intro x hx hb
    have hxn : x.1 ∈ nodes lb ((a :: A) ++ e :: B) := by
      simp only [mvL, List.mem_cons, List.not_mem_nil, or_false] at hx
      rcases hx with rfl | rfl | rfl | rfl | rfl | rfl
      · exact hpn
      · exact hnn
      all_goals simp [nodes]
    have h2 := h.st.nodeT hxn
    rw [hb] at h2
    rcases h2 with ⟨c, h2⟩ | ⟨c, h2⟩ <;> (rw [hE.obj] at h2; simp at h2)
  have hco : ¬ cb = e.ob := by
    intro hb
    obtain ⟨c, h2⟩ := h.tc
    rw [hb, hE.obj] at h2
    simp at h2
  have xo : ∀ i, (sets (w.setCell ⟨cb, 0, none⟩ (.int .i32 1)) (mvL lb e.eb a.eb p n)).cell? ⟨e.ob, i, none⟩ = (#[.int .i64 e.off, .int .u8 e.t, .slice (some ⟨e.xb, 0, none⟩) e.bs.length e.cap] : Array Value)[i]? := by
    intro i
    rw [cell_heap (sets_heap _ _ _ hob), sc_ne _ _ _ _ _ _ hco]
    unfold World.cell?
    simp only [hE.obj]
    rfl
  have x1 := xo 1
  have x2 := xo 2
  have xz : ∀ i, (sets (w.setCell ⟨cb, 0, none⟩ (.int .i32 1)) (mvL lb e.eb a.eb p n)).frozen? ⟨cb, i, none⟩ = false :=
    (sets_isT _ _ _ _ (isT_setCell _ _ _ _ _ h.tc)).isC.frozen
  generalize hX : sets (w.setCell ⟨cb, 0, none⟩ (.int .i32 1)) (mvL lb e.eb a.eb p n) = X at *
  have HM := hid hmv
  have HX := hid hX
  have HL := hid hlk
  have HA := hid hA
  have HB := hid hB
  clear hmv hX hlk hA hB xo hob hcb hco hE m hpn hnn q1 q2 q3 q4 q5 hF hk h hC
  go_enter_defers Yba.func9, Yba.ntmps9
  go_wp2_with (go_at_call 15; refine (lock_free Yba.muLib ⟨cb, 0, none⟩ _ c0 (z 0)).mono ?_; rintro e w' ⟨rfl, rfl⟩)
  refine Calls.mono HM.out ?_
  rintro e1 w1 ⟨rfl, rfl⟩
  go_wp2
  go_quiet (fail)
  go_wp2
  refine leaves_cons (f := 16) (args := #[.pointer (some ⟨cb, 0, none⟩)]) (by simp) (by simp [go_sem]) ?_
  refine (unlock_deferred Yba.muLib ⟨cb, 0, none⟩ .returning _ ?_ ?_).mono ?_
  · simp [x0]
  · simp [xz]
  rintro e u' w'' ⟨rfl, rfl, rfl⟩
  refine ⟨_, results_tmp3 rfl _ _ _, rfl, p, n, A', B', 1 + (1 + nq), HA.out, HB.out, ?_⟩
  rw [← HL.out, World.drewN_drew, World.drewN_drew]
  rfl
set_option maxHeartbeats 3200000 in
theorem addHit_later {w : World} {cb lb mb : Nat} {lim : Int} {a e : Ent} {A B : List Ent} (v1 v2 : Value) (h : CSt w cb lb mb lim ((a :: A) ++ e :: B)) :
    Calls Yba.prog 6 #[pt cb, .int .i64 e.off, v1, v2] w fun r w' => r = .returned (.tuple #[]) ∧
      ∃ p n A' B' nq, a.eb :: A.map Ent.eb = A' ++ [p] ∧ B.map Ent.eb ++ [lb] = n :: B' ∧ w' = (sets w (mvL lb e.eb a.eb p n)).drewN nq := by
  obtain ⟨p, n, A', B', hA, hB, m⟩ := h.st.moveOK
  have hpn : p ∈ nodes lb ((a :: A) ++ e :: B) := by
    have : p ∈ a.eb :: A.map Ent.eb := by rw [hA]; simp
    simp only [nodes, List.map_append, List.map_cons, List.mem_cons, List.mem_append] at this ⊢; grind
  have hnn : n ∈ nodes lb ((a :: A) ++ e :: B) := by
    have : n ∈ B.map Ent.eb ++ [lb] := by rw [hB]; simp
    simp only [nodes, List.map_append, List.map_cons, List.mem_cons, List.mem_append] at this ⊢; grind
  have q1 := h.cb_node (b := e.eb) (by simp [nodes])
  have q2 := h.cb_node (b := lb) (by simp [nodes])
  have q3 := h.cb_node (b := a.eb) (by simp [nodes])
  have q4 := h.cb_node hpn
  have q5 := h.cb_node hnn
  have hE := h.st.el e (by simp)
  obtain ⟨es, ck, hm, hF⟩ := h.st.map
  have hk : (e.off, e.eb) ∈ keysOf ((a :: A) ++ e :: B) := by simp [keysOf]
  have hC := h.cache
  have c0 := hC.c0
  have c4 := hC.c4
  have c5 := hC.c5
  have z := hC.ic.frozen
  have hl := look_hit (mb := mb) (ck := ck) hF hk
  have hta := ta53
  have hmv := (m.lock (v := .int .i32 1) q1 q2 q3 q4 q5).calls
  -- the world behind the move, under the lock
  have hcb : ∀ x ∈ mvL lb e.eb a.eb p n, ¬ x.1 = cb := by
    intro x hx
    simp only [mvL, List.mem_cons, List.not_mem_nil, or_false] at hx
    rcases hx with rfl | rfl | rfl | rfl | rfl | rfl <;> (intro hh; simp only at hh; first | exact q4 hh.symm | exact q5 hh.symm | exact q1 hh.symm | exact q2 hh.symm | exact q3 hh.symm)
  have hlk := sets_lock (mvL lb e.eb a.eb p n) w ⟨cb, 0, none⟩ (.int .i32 1) (.int .i32 0) c0 hcb
  have x0 : (sets (w.setCell ⟨cb, 0, none⟩ (.int .i32 1)) (mvL lb e.eb a.eb p n)).cell? ⟨cb, 0, none⟩ = some (.int .i32 1) := by
    rw [sets_cell _ _ _ _ (fun x hx => Or.inl (hcb x hx))]
    exact World.cell?_setCell_same _ _ _ c0
  have x3 : (sets (w.setCell ⟨cb, 0, none⟩ (.int .i32 1)) (mvL lb e.eb a.eb p n)).cell? ⟨e.eb, 3, none⟩ = some (.iface 53 (pt e.ob)) := by
    rw [sets_cell _ _ _ _ ?_, sc_ne _ _ _ _ _ _ q1]
    · exact hE.c3
    intro x hx
    simp only [mvL, List.mem_cons, List.not_mem_nil, or_false] at hx
    rcases hx with rfl | rfl | rfl | rfl | rfl | rfl <;> exact Or.inr (by simp)
  have hob : ∀ x ∈ mvL lb e.eb a.eb p n, ¬ x.1 = e.ob := by
    intro x hx hb
    have hxn : x.1 ∈ nodes lb ((a :: A) ++ e :: B) := by
      simp only [mvL, List.mem_cons, List.not_mem_nil, or_false] at hx
      rcases hx with rfl | rfl | rfl | rfl | rfl | rfl
      · exact hpn
      · exact hnn
      all_goals simp [nodes]
    have h2 := h.st.nodeT hxn
    rw [hb] at h2
    rcases h2 with ⟨c, h2⟩ | ⟨c, h2⟩ <;> (rw [hE.obj] at h2; simp at h2)
  have hco : ¬ cb = e.ob := by
    intro hb
    obtain ⟨c, h2⟩ := h.tc
    rw [hb, hE.obj] at h2
    simp at h2
  have xo : ∀ i, (sets (w.setCell ⟨cb, 0, none⟩ (.int .i32 1)) (mvL lb e.eb a.eb p n)).cell? ⟨e.ob, i, none⟩ = (#[.int .i64 e.off, .int .u8 e.t, .slice (some ⟨e.xb, 0, none⟩) e.bs.length e.cap] : Array Value)[i]? := by
    intro i
    rw [cell_heap (sets_heap _ _ _ hob), sc_ne _ _ _ _ _ _ hco]
    unfold World.cell?
    simp only [hE.obj]
    rfl
  have x1 := xo 1
  have x2 := xo 2
  have xz : ∀ i, (sets (w.setCell ⟨cb, 0, none⟩ (.int .i32 1)) (mvL lb e.eb a.eb p n)).frozen? ⟨cb, i, none⟩ = false :=
    (sets_isT _ _ _ _ (isT_setCell _ _ _ _ _ h.tc)).isC.frozen
  generalize hX : sets (w.setCell ⟨cb, 0, none⟩ (.int .i32 1)) (mvL lb e.eb a.eb p n) = X at *
  have HM := hid hmv
  have HX := hid hX
  have HL := hid hlk
  have HA := hid hA
  have HB := hid hB
  clear hmv hX hlk hA hB xo hob hcb hco hE m hpn hnn q1 q2 q3 q4 q5 hF hk h hC
  go_enter_defers Yba.func6, Yba.ntmps6
  go_wp2_with (go_at_call 15; refine (lock_free Yba.muLib ⟨cb, 0, none⟩ _ c0 (z 0)).mono ?_; rintro e w' ⟨rfl, rfl⟩)
  refine Calls.mono HM.out ?_
  rintro e1 w1 ⟨rfl, rfl⟩
  go_wp2
  refine leaves_cons (f := 16) (args := #[.pointer (some ⟨cb, 0, none⟩)]) (by simp) (by simp [go_sem]) ?_
  refine (unlock_deferred Yba.muLib ⟨cb, 0, none⟩ .returning _ ?_ ?_).mono ?_
  · simp [x0]
  · simp [xz]
  rintro e u' w'' ⟨rfl, rfl, rfl⟩
  refine ⟨_, results_none rfl _ _ _, rfl, p, n, A', B', 1 + 1, HA.out, HB.out, ?_⟩
  rw [← HL.out]
  rfl

set_option maxHeartbeats 3200000 in
theorem addHit_first {w : World} {cb lb mb : Nat} {lim : Int} {e : Ent} {B : List Ent} (v1 v2 : Value) (h : CSt w cb lb mb lim (e :: B)) :
    Calls Yba.prog 6 #[pt cb, .int .i64 e.off, v1, v2] w fun r w' => r = .returned (.tuple #[]) ∧ w' = w := by
  have q1 := h.cb_node (b := e.eb) (by simp [nodes])
  have q2 := h.cb_node (b := lb) (by simp [nodes])
  have hE := h.st.el e (by simp)
  obtain ⟨es, ck, hm, hF⟩ := h.st.map
  have hk : (e.off, e.eb) ∈ keysOf (e :: B) := by simp [keysOf]
  have hC := h.cache
  have c0 := hC.c0
  have c4 := hC.c4
  have c5 := hC.c5
  have z := hC.ic.frozen
  have hl := look_hit (mb := mb) (ck := ck) hF hk
  have cl0 : w.cell? ⟨lb, 0, none⟩ = some (pt e.eb) := h.st.ring.1
  have ie := hE.te.isC
  have il := h.st.tl.isC
  have ce2 := hE.c2
  clear hF hk h hC hE
  go_enter_defers Yba.func6, Yba.ntmps6
  go_wp2_with (go_at_call 15; refine (lock_free Yba.muLib ⟨cb, 0, none⟩ _ c0 (z 0)).mono ?_; rintro e w' ⟨rfl, rfl⟩)
  refine (moveToFront_first lb e.eb _ ((sc_ne _ _ _ _ _ _ q1).trans ce2) ((sc_ne _ _ _ _ _ _ q2).trans cl0) (by rw [isC_setCell]; exact ie) (by rw [isC_setCell]; exact il)).mono ?_
  rintro e1 w1 ⟨rfl, rfl⟩
  go_wp2
  refine leaves_cons (f := 16) (args := #[.pointer (some ⟨cb, 0, none⟩)]) (by simp) (by simp [go_sem]) ?_
  refine (unlock_deferred Yba.muLib ⟨cb, 0, none⟩ .returning _ ?_ ?_).mono ?_
  · exact World.cell?_setCell_same w _ _ c0
  · simp [z]
  rintro e u' w'' ⟨rfl, rfl, rfl⟩
  exact ⟨_, results_none rfl _ _ _, rfl, relock w _ _ _ c0⟩

/-! the contracts in the state's words -/
structure Upd (w w' : World) (S : List Nat) : Prop where
  os : w'.os = w.os
  tape : w'.tape = w.tape
  output : w'.output = w.output
  size : w.heap.size ≤ w'.heap.size
  block : ∀ b, b < w.heap.size → b ∉ S → w'.heap[b]? = w.heap[b]?

theorem Upd.refl (w : World) (S : List Nat) : Upd w w S := ⟨rfl, rfl, rfl, Nat.le_refl _, fun _ _ _ => rfl⟩
theorem Upd.drewN {w w' : World} {S : List Nat} (h : Upd w w' S) (n : Nat) : Upd w (w'.drewN n) S := ⟨h.os, h.tape, h.output, h.size, h.block⟩
theorem Upd.trans {a b c : World} {S : List Nat} (h : Upd a b S) (k : Upd b c S) : Upd a c S :=
  ⟨k.os.trans h.os, k.tape.trans h.tape, k.output.trans h.output, Nat.le_trans h.size k.size, fun i hi hs => (k.block i (Nat.lt_of_lt_of_le hi h.size) hs).trans (h.block i hi hs)⟩
theorem Upd.below {B : Nat} {w0 w w' : World} {S : List Nat} (h : Upd w w' S) (h0 : Below B w0 w) (hB : B ≤ w.heap.size) (hS : ∀ b ∈ S, B ≤ b) : Below B w0 w' :=
  h0.trans ⟨h.os, h.tape, h.output, h.size, fun k hk => h.block k (by omega) (fun hm => by have := hS k hm; omega)⟩

theorem sets_rest : ∀ (l : List Wr) (w : World), (sets w l).os = w.os ∧ (sets w l).tape = w.tape ∧ (sets w l).output = w.output
  | [], _ => ⟨rfl, rfl, rfl⟩
  | x :: r, w => sets_rest r (w.setCell ⟨x.1, x.2.1, none⟩ x.2.2)

theorem Upd.sets {w : World} {S : List Nat} (l : List Wr) (h : ∀ x ∈ l, x.1 ∈ S) : Upd w (sets w l) S :=
  ⟨(sets_rest l w).1, (sets_rest l w).2.1, (sets_rest l w).2.2, by rw [sets_size]; exact Nat.le_refl _, fun b _ hb => sets_heap l w b (fun x hx he => hb (he ▸ h x hx))⟩

theorem CacheAt.of_heap {w w' : World} {cb lb mb : Nat} {lim size : Int} (h : CacheAt w cb lb mb lim size) (hh : w'.heap[cb]? = w.heap[cb]?) : CacheAt w' cb lb mb lim size :=
  ⟨(cell_heap hh).trans h.c0, (cell_heap hh).trans h.c1, (cell_heap hh).trans h.c2, (cell_heap hh).trans h.c3, (cell_heap hh).trans h.c4, (cell_heap hh).trans h.c5, by
    obtain ⟨c, t, hc⟩ := h.ic
    exact ⟨c, t, hh.trans hc⟩⟩

theorem tot_perm {a b : List Ent} (h : a.Perm b) : tot a = tot b := by
  induction h with
  | nil => rfl
  | cons x _ ih => simp [tot, ih]
  | swap x y l => simp [tot]; omega
  | trans _ _ h1 h2 => exact h1.trans h2

theorem CSt.drewN {w : World} {cb lb mb : Nat} {lim : Int} {L : List Ent} (h : CSt w cb lb mb lim L) (n : Nat) : CSt (w.drewN n) cb lb mb lim L :=
  ⟨h.cache.of_heap rfl, h.tc.of_heap rfl, h.st.kept (fun _ _ _ => rfl)⟩

/-- The state stands while other blocks than the cache's are written or made. -/
theorem CSt.kept {w w' : World} {cb lb mb : Nat} {lim : Int} {L : List Ent} (h : CSt w cb lb mb lim L) (hk : ∀ b, b < w.heap.size → w'.heap[b]? = w.heap[b]?) : CSt w' cb lb mb lim L :=
  ⟨h.cache.of_heap (hk _ h.tc.isC.lt), h.tc.of_heap (hk _ h.tc.isC.lt), h.st.kept (fun b hb _ => hk b hb)⟩

abbrev own (cb lb mb : Nat) (L : List Ent) : List Nat := cb :: mb :: nodes lb L

theorem CSt.move {w : World} {cb lb mb p n : Nat} {lim : Int} {a e : Ent} {A B : List Ent} {A' B' : List Nat} (h : CSt w cb lb mb lim ((a :: A) ++ e :: B)) (hA : a.eb :: A.map Ent.eb = A' ++ [p]) (hB : B.map Ent.eb ++ [lb] = n :: B') :
    CSt (sets w (mvL lb e.eb a.eb p n)) cb lb mb lim (e :: ((a :: A) ++ B)) ∧ Upd w (sets w (mvL lb e.eb a.eb p n)) (own cb lb mb ((a :: A) ++ e :: B)) := by
  have hpn : p ∈ nodes lb ((a :: A) ++ e :: B) := by
    have : p ∈ a.eb :: A.map Ent.eb := by rw [hA]; simp
    simp only [nodes, List.map_append, List.map_cons, List.mem_cons, List.mem_append] at this ⊢; grind
  have hnn : n ∈ nodes lb ((a :: A) ++ e :: B) := by
    have : n ∈ B.map Ent.eb ++ [lb] := by rw [hB]; simp
    simp only [nodes, List.map_append, List.map_cons, List.mem_cons, List.mem_append] at this ⊢; grind
  have hx : ∀ x ∈ mvL lb e.eb a.eb p n, x.1 ∈ nodes lb ((a :: A) ++ e :: B) := by
    intro x hx
    simp only [mvL, List.mem_cons, List.not_mem_nil, or_false] at hx
    rcases hx with rfl | rfl | rfl | rfl | rfl | rfl
    · exact hpn
    · exact hnn
    all_goals simp [nodes]
  have hcb : (sets w (mvL lb e.eb a.eb p n)).heap[cb]? = w.heap[cb]? := sets_heap _ _ _ (fun x hx' he => h.cb_node (hx x hx') he.symm)
  have ht : tot ((a :: A) ++ e :: B) = tot (e :: ((a :: A) ++ B)) := tot_perm List.perm_middle
  refine ⟨⟨?_, h.tc.of_heap hcb, h.st.move hA hB⟩, Upd.sets _ (fun x hx' => by simp only [own, List.mem_cons]; exact Or.inr (Or.inr (by have := hx x hx'; simpa [nodes] using this)))⟩
  rw [← ht]
  exact h.cache.of_heap hcb

theorem get_hit {w : World} {cb lb mb : Nat} {lim : Int} {e : Ent} {A B : List Ent} (h : CSt w cb lb mb lim (A ++ e :: B)) :
    Calls Yba.prog 9 #[pt cb, .int .i64 e.off] w fun r w' => r = .returned (.tuple #[.int .u8 e.t, .slice (some ⟨e.xb, 0, none⟩) e.bs.length e.cap, .bool true]) ∧
      CSt w' cb lb mb lim (e :: (A ++ B)) ∧ Upd w w' (own cb lb mb (A ++ e :: B)) := by
  cases A with
  | nil =>
    have q1 := h.cb_node (b := e.eb) (by simp [nodes])
    have q2 := h.cb_node (b := lb) (by simp [nodes])
    have hE := h.st.el e (by simp)
    obtain ⟨es, ck, hm, hF⟩ := h.st.map
    have hco : ¬ cb = e.ob := by
      intro hb
      obtain ⟨c, h2⟩ := h.tc
      rw [hb, hE.obj] at h2
      simp at h2
    have ho : ∀ i, w.cell? ⟨e.ob, i, none⟩ = (#[.int .i64 e.off, .int .u8 e.t, .slice (some ⟨e.xb, 0, none⟩) e.bs.length e.cap] : Array Value)[i]? := by
      intro i
      unfold World.cell?
      simp only [hE.obj]
      rfl
    refine (get_first cb lb mb ck e.eb e.ob e.xb e.bs.length e.cap lim _ e.off e.t es (keysOf (e :: B)) w h.cache hF hm (by simp [keysOf]) q2 q1 hco h.st.tl.isC hE.te.isC hE.c2 hE.c3 h.st.ring.1 (ho 1) (ho 2)).mono ?_
    rintro r w' ⟨rfl, nq, rfl⟩
    exact ⟨rfl, h.drewN nq, (Upd.refl _ _).drewN nq⟩
  | cons a A =>
    refine (get_later h).mono ?_
    rintro r w' ⟨rfl, p, n, A', B', nq, hA, hB, rfl⟩
    obtain ⟨h1, h2⟩ := h.move hA hB
    exact ⟨rfl, h1.drewN nq, h2.drewN nq⟩

theorem add_hit {w : World} {cb lb mb : Nat} {lim : Int} {e : Ent} {A B : List Ent} (v1 v2 : Value) (h : CSt w cb lb mb lim (A ++ e :: B)) :
    Calls Yba.prog 6 #[pt cb, .int .i64 e.off, v1, v2] w fun r w' => r = .returned (.tuple #[]) ∧
      CSt w' cb lb mb lim (e :: (A ++ B)) ∧ Upd w w' (own cb lb mb (A ++ e :: B)) := by
  cases A with
  | nil =>
    refine (addHit_first v1 v2 h).mono ?_
    rintro r w' ⟨rfl, rfl⟩
    exact ⟨rfl, h, Upd.refl _ _⟩
  | cons a A =>
    refine (addHit_later v1 v2 h).mono ?_
    rintro r w' ⟨rfl, p, n, A', B', nq, hA, hB, rfl⟩
    obtain ⟨h1, h2⟩ := h.move hA hB
    exact ⟨rfl, h1.drewN nq, h2.drewN nq⟩
end Go.Proofs.Ybulkcnrs
