import Derived.Test.YbulkcnrsGets
namespace Go.Proofs.Ybulkcnrs
open Go.RowKit Go.Maps Go.ChangeMaps Go.MuLone
set_option linter.unusedVariables false
set_option linter.unusedSimpArgs false
attribute [local go_sem] isC_setCell isC_drew isC_allocs isM_setCell isM_drew isM_allocs sb_cell sb_frozen sb_isC sb_size sb_isM sb_drew

set_option maxHeartbeats 800000 in
theorem back_any (lb eb : Nat) (n : Int) (w : World) (hn : ¬ n = 0) (c4 : w.cell? ⟨lb, 4, none⟩ = some (.int .i64 n)) (c1 : w.cell? ⟨lb, 1, none⟩ = some (pt eb)) :
    Calls Yba.prog 20 #[pt lb] w fun e w' => e = .returned (pt eb) ∧ w' = w := by
  have hb : (n == 0) = false := by simpa using hn
  clear hn
  go_enter Yba.func20, Yba.ntmps20
  go_wp2
  go_ret
  exact ⟨rfl, rfl⟩

set_option maxHeartbeats 1600000 in
theorem Remove_any (lb eb pb nb ob : Nat) (n : Int) (y0 y1 : Value) (w : World) (h1 : ¬ eb = lb) (h3 : ¬ pb = eb) (h4 : ¬ nb = eb)
    (ce0 : w.cell? ⟨eb, 0, none⟩ = some (pt nb)) (ce1 : w.cell? ⟨eb, 1, none⟩ = some (pt pb)) (ce2 : w.cell? ⟨eb, 2, none⟩ = some (pt lb)) (ce3 : w.cell? ⟨eb, 3, none⟩ = some (.iface 53 (pt ob)))
    (cl4 : w.cell? ⟨lb, 4, none⟩ = some (.int .i64 n)) (cp0 : w.cell? ⟨pb, 0, none⟩ = some y0) (cn1 : w.cell? ⟨nb, 1, none⟩ = some y1)
    (ie : isC w eb) (il : isC w lb) (ip : isC w pb) (iN : isC w nb) :
    Calls Yba.prog 19 #[pt lb, pt eb] w fun e w' => e = .returned (.iface 53 (pt ob)) ∧
      w' = ((((((w.setCell ⟨pb, 0, none⟩ (pt nb)).setCell ⟨nb, 1, none⟩ (pt pb)).setCell ⟨eb, 0, none⟩ (.pointer none)).setCell ⟨eb, 1, none⟩ (.pointer none)).setCell ⟨eb, 2, none⟩ (.pointer none)).setCell ⟨lb, 4, none⟩ (.int .i64 (wrap64 (n - 1)))).drew.drew := by
  have e46 := eql46
  have h1' := Ne.symm h1
  have h3' := Ne.symm h3
  have h4' := Ne.symm h4
  have hr := remove_any lb eb pb nb n y0 y1 (pt lb) .nilIface w h1 (Ne.symm h1) h3 (Ne.symm h3) h4 (Ne.symm h4) ce0 ce1 ce2 cl4 cp0 cn1 ie il ip iN
  have x3 : ((((((w.setCell ⟨pb, 0, none⟩ (pt nb)).setCell ⟨nb, 1, none⟩ (pt pb)).setCell ⟨eb, 0, none⟩ (.pointer none)).setCell ⟨eb, 1, none⟩ (.pointer none)).setCell ⟨eb, 2, none⟩ (.pointer none)).setCell ⟨lb, 4, none⟩ (.int .i64 (wrap64 (n - 1)))).cell? ⟨eb, 3, none⟩ = some (.iface 53 (pt ob)) := by
    rw [sc_off _ _ _ _ _ _ (by omega), sc_off _ _ _ _ _ _ (by omega), sc_off _ _ _ _ _ _ (by omega), sc_off _ _ _ _ _ _ (by omega), sc_off _ _ _ _ _ _ (by omega), sc_off _ _ _ _ _ _ (by omega)]
    exact ce3
  have HR := hid hr
  clear hr
  go_enter Yba.func19, Yba.ntmps19
  go_wp2_with (go_at_call 27; refine Calls.mono HR.out ?_; rintro e w' ⟨rfl, rfl⟩)
  go_ret
  exact ⟨rfl, rfl⟩

/-- The cache under its lock. -/
structure KSt (w : World) (cb lb mb : Nat) (lim : Int) (L : List Ent) : Prop where
  c0 : w.cell? ⟨cb, 0, none⟩ = some (.int .i32 1)
  c1 : w.cell? ⟨cb, 1, none⟩ = some (.int .u32 0)
  c2 : w.cell? ⟨cb, 2, none⟩ = some (.int .i64 lim)
  c3 : w.cell? ⟨cb, 3, none⟩ = some (.int .i64 (tot L))
  c4 : w.cell? ⟨cb, 4, none⟩ = some (pt lb)
  c5 : w.cell? ⟨cb, 5, none⟩ = some (.map (some mb))
  tc : isT w cb 49
  st : LSt w lb mb L

theorem KSt.cb_node {w : World} {cb lb mb : Nat} {lim : Int} {L : List Ent} (h : KSt w cb lb mb lim L) {b : Nat} (hb : b ∈ nodes lb L) : ¬ cb = b := by
  rintro rfl
  rcases h.st.nodeT hb with h1 | h1 <;> exact absurd (h1.one h.tc) (by decide)

theorem KSt.drewN {w : World} {cb lb mb : Nat} {lim : Int} {L : List Ent} (h : KSt w cb lb mb lim L) (n : Nat) : KSt (w.drewN n) cb lb mb lim L :=
  ⟨h.c0, h.c1, h.c2, h.c3, h.c4, h.c5, h.tc.of_heap rfl, h.st.kept (fun _ _ _ => rfl)⟩

/-- All that a round of the eviction wants. -/
structure PopOK (w : World) (cb lb mb : Nat) (A : List Ent) (e : Ent) (p : Nat) : Prop where
  back : Calls Yba.prog 20 #[pt lb] w fun r w' => r = .returned (pt e.eb) ∧ w' = w
  rem : Calls Yba.prog 19 #[pt lb, pt e.eb] w fun r w' => r = .returned (.iface 53 (pt e.ob)) ∧ w' = (sets w (rmL lb e.eb p A.length)).drew.drew
  hA : ∃ A', lb :: A.map Ent.eb = A' ++ [p]
  node : ∀ x ∈ rmL lb e.eb p A.length, x.1 ∈ nodes lb (A ++ [e])

theorem LSt.popOK {w : World} {cb lb mb : Nat} {A : List Ent} {e : Ent} (h : LSt w lb mb (A ++ [e])) (hlen : wrap64 ((A.length : Int) + 1 - 1) = A.length) : ∃ p, PopOK w cb lb mb A e p := by
  have h0 := h.ring
  have h0' : Linked w (lb :: (A.map Ent.eb ++ [e.eb] ++ [lb])) := by simpa [nodes] using h0
  obtain ⟨p, A', hA, k1, k2, k3, k4⟩ := ring_last h0'
  have hpA : p ∈ lb :: A.map Ent.eb := by rw [hA]; simp
  have hnd := h.nd
  have hlb := h.lb_notin
  simp only [List.map_append, List.map_cons, List.map_nil, List.nodup_append, List.mem_append, List.mem_cons, List.not_mem_nil, or_false, not_or] at hnd hlb
  have hpn : p ∈ nodes lb (A ++ [e]) := by
    rw [List.mem_cons] at hpA
    simp only [nodes, List.map_append, List.mem_cons, List.mem_append]
    grind
  have hT : ∀ b, b ∈ nodes lb (A ++ [e]) → isC w b := fun b hb => by rcases h.nodeT hb with h1 | h1 <;> exact h1.isC
  have hE := h.el e (by simp)
  have hl4 : w.cell? ⟨lb, 4, none⟩ = some (.int .i64 ((A.length : Int) + 1)) := by
    rw [h.len]; simp
  have hpe : ¬ p = e.eb := by rw [List.mem_cons] at hpA; grind
  have hel : ¬ e.eb = lb := by grind
  refine ⟨p, back_any lb e.eb _ w (by omega) hl4 k4, ?_, ⟨A', hA⟩, ?_⟩
  · refine (Remove_any lb e.eb p lb e.ob _ _ _ w hel hpe (Ne.symm hel) k3 k2 hE.c2 hE.c3 hl4 k1 k4 hE.te.isC h.tl.isC (hT p hpn) h.tl.isC).mono ?_
    rintro r w' ⟨rfl, rfl⟩
    rw [hlen]
    exact ⟨rfl, rfl⟩
  · intro x hx
    simp only [rmL, List.mem_cons, List.not_mem_nil, or_false] at hx
    rcases hx with rfl | rfl | rfl | rfl | rfl | rfl
    · exact hpn
    all_goals simp [nodes]

theorem KSt.drew {w : World} {cb lb mb : Nat} {lim : Int} {L : List Ent} (h : KSt w cb lb mb lim L) : KSt w.drew cb lb mb lim L :=
  ⟨h.c0, h.c1, h.c2, h.c3, h.c4, h.c5, h.tc.of_heap rfl, h.st.kept (fun _ _ _ => rfl)⟩

theorem isM_one {w : World} {b : Nat} {es es' : Array MapEntry} {ck ck' : Nat} (h : isM w b es ck) (h' : isM w b es' ck') : es = es' ∧ ck = ck' := by
  unfold isM at h h'
  rw [h] at h'
  simpa using h'

theorem sb_rest (w : World) (b : Nat) (o : Obj) : (setBlock w b o).os = w.os ∧ (setBlock w b o).tape = w.tape ∧ (setBlock w b o).output = w.output := ⟨rfl, rfl, rfl⟩

theorem sc_rest (w : World) (a : Addr) (v : Value) : (w.setCell a v).os = w.os ∧ (w.setCell a v).tape = w.tape ∧ (w.setCell a v).output = w.output := ⟨rfl, rfl, rfl⟩

/-- The world behind a round of the eviction. -/
theorem KSt.pop {w : World} {cb lb mb p ck : Nat} {lim : Int} {A : List Ent} {e : Ent} {es es' : Array MapEntry} (h : KSt w cb lb mb lim (A ++ [e])) (hp : PopOK w cb lb mb A e p) (hm : isM w mb es ck) (hF : MapFit es' (keysOf A)) :
    KSt ((setBlock (sets w (rmL lb e.eb p A.length)) mb (.map es' ck)).setCell ⟨cb, 3, none⟩ (.int .i64 (tot A))) cb lb mb lim A ∧
      Upd w ((setBlock (sets w (rmL lb e.eb p A.length)) mb (.map es' ck)).setCell ⟨cb, 3, none⟩ (.int .i64 (tot A))) (own cb lb mb (A ++ [e])) := by
  obtain ⟨A', hA⟩ := hp.hA
  have hst := h.st.pop hA hm hF
  have hcm : ¬ cb = mb := by
    intro hb
    obtain ⟨c, h2⟩ := h.tc
    rw [hb, hm] at h2
    simp at h2
  have hcb : (setBlock (sets w (rmL lb e.eb p A.length)) mb (.map es' ck)).heap[cb]? = w.heap[cb]? :=
    (sb_heap _ _ _ _ hcm).trans (sets_heap _ _ _ (fun x hx he => h.cb_node (hp.node x hx) he.symm))
  have hcc : ∀ i, (setBlock (sets w (rmL lb e.eb p A.length)) mb (.map es' ck)).cell? ⟨cb, i, none⟩ = w.cell? ⟨cb, i, none⟩ := fun i => cell_heap hcb
  refine ⟨⟨?_, ?_, ?_, ?_, ?_, ?_, isT_setCell _ _ _ _ _ (h.tc.of_heap hcb), hst.kept (fun b _ hb => Below.heap_setCell _ _ _ _ (fun he => hb (he ▸ h.tc.of_heap hcb)))⟩, ?_⟩
  · rw [sc_off _ _ _ _ _ _ (by omega), hcc]; exact h.c0
  · rw [sc_off _ _ _ _ _ _ (by omega), hcc]; exact h.c1
  · rw [sc_off _ _ _ _ _ _ (by omega), hcc]; exact h.c2
  · exact World.cell?_setCell_same _ _ _ ((hcc 3).trans h.c3)
  · rw [sc_off _ _ _ _ _ _ (by omega), hcc]; exact h.c4
  · rw [sc_off _ _ _ _ _ _ (by omega), hcc]; exact h.c5
  · have h1 := sets_rest (rmL lb e.eb p A.length) w
    refine ⟨(sc_rest _ _ _).1.trans ((sb_rest _ _ _).1.trans h1.1), (sc_rest _ _ _).2.1.trans ((sb_rest _ _ _).2.1.trans h1.2.1), (sc_rest _ _ _).2.2.trans ((sb_rest _ _ _).2.2.trans h1.2.2), ?_, fun b hb hs => ?_⟩
    · rw [World.size_setCell, sb_size, sets_size]; exact Nat.le_refl _
    · have hs' : ¬ b = cb ∧ ¬ b = mb ∧ b ∉ nodes lb (A ++ [e]) := by
        simp only [own, List.mem_cons, not_or] at hs
        exact ⟨hs.1, hs.2.1, by simp only [nodes, List.mem_cons, not_or]; exact hs.2.2⟩
      rw [Below.heap_setCell _ _ _ _ hs'.1, sb_heap _ _ _ _ hs'.2.1]
      exact sets_heap _ _ _ (fun x hx he => hs'.2.2 (by rw [← he]; exact hp.node x hx))

theorem Upd.trans' {a b c : World} {S S' : List Nat} (h : Upd a b S) (k : Upd b c S') (hs : ∀ x ∈ S', x < a.heap.size → x ∈ S) : Upd a c S :=
  ⟨k.os.trans h.os, k.tape.trans h.tape, k.output.trans h.output, Nat.le_trans h.size k.size, fun i hi hi' => (k.block i (Nat.lt_of_lt_of_le hi h.size) (fun hm => hi' (hs i hm hi))).trans (h.block i hi hi')⟩

theorem KSt.unlock {w : World} {cb lb mb : Nat} {lim : Int} {L : List Ent} (h : KSt w cb lb mb lim L) : CSt (w.setCell ⟨cb, 0, none⟩ (.int .i32 0)) cb lb mb lim L := by
  refine ⟨⟨World.cell?_setCell_same _ _ _ h.c0, ?_, ?_, ?_, ?_, ?_, by rw [isC_setCell]; exact h.tc.isC⟩, isT_setCell _ _ _ _ _ h.tc, h.st.kept (fun b _ hb => Below.heap_setCell _ _ _ _ (fun he => hb (he ▸ h.tc)))⟩
  · rw [sc_off _ _ _ _ _ _ (by omega)]; exact h.c1
  · rw [sc_off _ _ _ _ _ _ (by omega)]; exact h.c2
  · rw [sc_off _ _ _ _ _ _ (by omega)]; exact h.c3
  · rw [sc_off _ _ _ _ _ _ (by omega)]; exact h.c4
  · rw [sc_off _ _ _ _ _ _ (by omega)]; exact h.c5

theorem Upd.setCell {w w' : World} {S : List Nat} (h : Upd w w' S) {a : Addr} (ha : a.block ∈ S) (v : Value) : Upd w (w'.setCell a v) S :=
  ⟨h.os, h.tape, h.output, by rw [World.size_setCell]; exact h.size, fun b hb hs => (Below.heap_setCell w' a v b (fun he => hs (by rw [he]; exact ha))).trans (h.block b hb hs)⟩

theorem take_snoc' {α : Type} (l : List α) (m : Nat) (h0 : 0 < m) (hm : m ≤ l.length) : ∃ x, l.take m = l.take (m - 1) ++ [x] := by
  obtain ⟨j, rfl⟩ : ∃ j, m = j + 1 := ⟨m - 1, by omega⟩
  exact ⟨l[j], by rw [List.take_succ_eq_append_getElem (by omega)]; simp⟩
end Go.Proofs.Ybulkcnrs
