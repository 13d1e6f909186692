import Derived.Test.YbulkcnrsEvict
namespace Go.Proofs.Ybulkcnrs
open Go.RowKit Go.Maps Go.ChangeMaps Go.MuLone
set_option linter.unusedVariables false
set_option linter.unusedSimpArgs false
attribute [local go_sem] isC_setCell isC_drew isC_allocs isM_setCell isM_drew isM_allocs sb_cell sb_frozen sb_isC sb_size sb_isM sb_drew

/-- The state as the loop of evictions finds it. -/
def Ev (w wr : World) (cb lb mb : Nat) (lim : Int) (L L1 : List Ent) (m : Nat) : Prop :=
  m ≤ L1.length ∧ KSt wr cb lb mb lim (L1.take m) ∧ (∀ j, m < j → j ≤ L1.length → lim < tot (L1.take j)) ∧ Upd w wr (own cb lb mb L)

/-- How long the list is. -/
def lenAt (wr : World) (lb : Nat) : Nat := (intOf ((wr.cell? ⟨lb, 4, none⟩).getD undef)).toNat

set_option maxHeartbeats 12800000 in
theorem add_new {w : World} {cb lb mb : Nat} {lim : Int} {L : List Ent} (h : CSt w cb lb mb lim L) (k t : Int) (xb n c : Nat) (bs : List UInt8) (hno : ∀ e ∈ L, ¬ e.off = k) (hw : (Lit.int .i64 k).wf = true) (hbs : n = bs.length) (hn : ¬ lim < n) (hlim : lim ≤ 127) (htot : (tot L : Int) ≤ lim) (hLl : L.length ≤ 300)
    (hby : bytesAt w xb bs) (hrow : ∃ c f, w.heap[xb]? = some (.cells c 5 f)) :
    Calls Yba.prog 6 #[pt cb, .int .i64 k, .int .u8 t, .slice (some ⟨xb, 0, none⟩) n c] w fun r w' => r = .returned (.tuple #[]) ∧
      ∃ m, CSt w' cb lb mb lim ((({ off := k, t := t, bs := bs, eb := w.heap.size + 1, ob := w.heap.size, xb := xb, cap := c } : Ent) :: L).take m) ∧ m ≤ L.length + 1 ∧ (tot ((({ off := k, t := t, bs := bs, eb := w.heap.size + 1, ob := w.heap.size, xb := xb, cap := c } : Ent) :: L).take m) : Int) ≤ lim ∧
        (∀ j, m < j → j ≤ L.length + 1 → lim < tot ((({ off := k, t := t, bs := bs, eb := w.heap.size + 1, ob := w.heap.size, xb := xb, cap := c } : Ent) :: L).take j)) ∧ Upd w w' (own cb lb mb L) := by
  obtain ⟨fb, F, hfb⟩ : ∃ fb F, L.map Ent.eb ++ [lb] = fb :: F := by
    cases L with
    | nil => exact ⟨lb, [], rfl⟩
    | cons b r => exact ⟨b.eb, r.map Ent.eb ++ [lb], rfl⟩
  obtain ⟨es, ck, hm, hF⟩ := h.st.map
  have hfn : fb ∈ nodes lb L := by
    have : fb ∈ L.map Ent.eb ++ [lb] := by rw [hfb]; simp
    simp only [nodes, List.mem_cons]
    exact Or.inr this
  have hring := h.st.ring
  unfold nodes at hring
  rw [hfb] at hring
  have cl0 : w.cell? ⟨lb, 0, none⟩ = some (pt fb) := hring.1
  have cf1 : w.cell? ⟨fb, 1, none⟩ = some (pt lb) := hring.2.1
  have cl4 : w.cell? ⟨lb, 4, none⟩ = some (.int .i64 L.length) := h.st.len
  have hk : ∀ b, (k, b) ∉ keysOf L := fun b hb => by
    obtain ⟨e, he, h1⟩ := List.mem_map.1 hb
    exact hno e he (congrArg Prod.fst h1)
  have hcl : ¬ cb = lb := h.cb_node (by simp [nodes])
  have hcf : ¬ cb = fb := h.cb_node hfn
  have hnm : ∀ b ∈ nodes lb L, ¬ b = mb := by
    rintro b hb rfl
    rcases h.st.nodeT hb with ⟨c, h2⟩ | ⟨c, h2⟩ <;> (rw [hm] at h2; simp at h2)
  have hcm : ¬ cb = mb := by
    intro hb
    obtain ⟨c, h2⟩ := h.tc
    rw [hb, hm] at h2
    simp at h2
  have hlm : ¬ lb = mb := hnm lb (by simp [nodes])
  have hfm : ¬ fb = mb := hnm fb hfn
  have il : isC w lb := h.st.tl.isC
  have iF : isC w fb := by rcases h.st.nodeT hfn with h1 | h1 <;> exact h1.isC
  have hC := h.cache
  have hwr : wrap64 ((L.length : Int) + 1) = L.length + 1 := by unfold wrap64; omega
  have hpush := h.st.push (c := c) (t := t) h.tc hm hF hfb hno hw hbs hby hrow hwr
  have hn2 : n ≤ maxLen := by unfold maxLen; omega
  have HFB := hid hfb
  have HBS := hid hbs
  clear hwr hring hfb hbs
  have c0 := hC.c0
  have c2 := hC.c2
  have c3 := hC.c3
  have c4 := hC.c4
  have c5 := hC.c5
  have z := hC.ic.frozen
  have zl := il.frozen
  have zf := iF.frozen
  have hl := look_miss (mb := mb) (ck := ck) hF hw hk
  have hp := put_new (mb := mb) (ck := ck) hF hw hk
  have hmi := mi53
  have bl := il.lt
  have bf := iF.lt
  have bc := hC.ic.lt
  have bm := hm.lt
  have hpf := pushFront_any lb fb (L.length : Int) (pt lb) w.heap.size (((w.setCell ⟨cb, 0, none⟩ (.int .i32 1)).alloc (.cells #[.int .i64 k, .int .u8 t, .slice (some ⟨xb, 0, none⟩) n c] 58)).drew) (by simp; omega) (by simp; omega)
    (by rw [World.cell?_drew, World.cell?_alloc_past _ _ _ (by simpa using bl), sc_ne _ _ _ _ _ _ hcl]; exact cl0) (by rw [World.cell?_drew, World.cell?_alloc_past _ _ _ (by simpa using bl), sc_ne _ _ _ _ _ _ hcl]; exact cl4)
    (by rw [World.cell?_drew, World.cell?_alloc_past _ _ _ (by simpa using bf), sc_ne _ _ _ _ _ _ hcf]; exact cf1)
    (fun i => by rw [World.frozen?_drew, World.frozen?_alloc_past _ _ _ (by simpa using bl), World.frozen?_setCell]; exact zl i)
    (fun i => by rw [World.frozen?_drew, World.frozen?_alloc_past _ _ _ (by simpa using bf), World.frozen?_setCell]; exact zf i)
  have HP : Hid _ := hpf
  clear hpf
  go_enter_defers Yba.func6, Yba.ntmps6
  go_wp2_with (go_at_call 15; refine (lock_free Yba.muLib ⟨cb, 0, none⟩ _ c0 (z 0)).mono ?_; rintro e w' ⟨rfl, rfl⟩)
  go_region_held3 (fun w' => w'.cell? ⟨cb, 4, none⟩ = some (pt lb) ∧ w'.cell? ⟨cb, 5, none⟩ = some (.map (some mb))) (constructor <;> go_simp) (first | (go_at_call 18; refine Calls.mono HP.out ?_; rintro e w' ⟨rfl, rfl⟩))
  show Exit.then _ _ _ _ (added w cb lb fb mb ck n c xb L.length k t es).drew
  have x0 := added_cb0 (w := w) (ck := ck) (n := n) (c := c) (xb := xb) (ln := L.length) (k := k) (t := t) (es := es) c0 bc (Ne.symm hcl) (Ne.symm hcf) hcm
  have ai := fun i hi => added_cb (w := w) (ck := ck) (n := n) (c := c) (xb := xb) (ln := L.length) (k := k) (t := t) (es := es) i hi bc (Ne.symm hcl) (Ne.symm hcf) hcm
  have x1 := (ai 1 (by omega)).trans hC.c1
  have x2 := (ai 2 (by omega)).trans c2
  have x3 := (ai 3 (by omega)).trans c3
  have x4 := (ai 4 (by omega)).trans c4
  have x5 := (ai 5 (by omega)).trans c5
  have xT : isT (added w cb lb fb mb ck n c xb L.length k t es) cb 49 := by
    unfold added
    refine (sets_isT [(cb, 0, .int .i32 1), (lb, 0, pt (w.heap.size + 1)), (fb, 1, pt (w.heap.size + 1)), (lb, 4, .int .i64 (wrap64 (L.length + 1)))] _ _ _ h.tc).of_heap ?_
    rw [sb_heap _ _ _ _ hcm, Below.heap_alloc _ _ _ (by simp; omega), Below.heap_alloc _ _ _ (by simpa using bc)]
    rfl
  have xU : Upd w (added w cb lb fb mb ck n c xb L.length k t es) (own cb lb mb L) := by
    have hr := added_rest (w := w) (cb := cb) (lb := lb) (fb := fb) (mb := mb) (ck := ck) (n := n) (c := c) (xb := xb) (ln := L.length) (k := k) (t := t) (es := es)
    refine ⟨hr.1, hr.2.1, hr.2.2, by rw [added_size]; omega, fun b hb hs => ?_⟩
    simp only [own, List.mem_cons, not_or] at hs
    refine added_old hb (Ne.symm hs.1) (Ne.symm hs.2.2.1) ?_ hs.2.1
    rintro rfl
    have : fb ∈ L.map Ent.eb ++ [lb] := by rw [HFB.out]; simp
    exact hs.2.2.2 this
  have xz := xT.isC.frozen
  generalize added w cb lb fb mb ck n c xb L.length k t es = X at *
  have hbsl : bs.length = n := HBS.out.symm
  have hstart : Ev w ((X.setCell ⟨cb, 3, none⟩ (.int .i64 (tot L + n))).drew) cb lb mb lim L (({ off := k, t := t, bs := bs, eb := w.heap.size + 1, ob := w.heap.size, xb := xb, cap := c } : Ent) :: L) (L.length + 1) := by
    refine ⟨by simp, ?_, fun j h1 h2 => by simp at h2; omega, ⟨xU.os, xU.tape, xU.output, by show w.heap.size ≤ (X.setCell _ _).heap.size; rw [World.size_setCell]; exact xU.size, fun b hb hs => ?_⟩⟩
    · rw [List.take_of_length_le (by simp)]
      refine KSt.drew ⟨?_, ?_, ?_, ?_, ?_, ?_, isT_setCell _ _ _ _ _ xT, hpush.kept (fun b _ hb => Below.heap_setCell _ _ _ _ (fun he => hb (he ▸ xT)))⟩
      · rw [sc_off _ _ _ _ _ _ (by omega)]; exact x0
      · rw [sc_off _ _ _ _ _ _ (by omega)]; exact x1
      · rw [sc_off _ _ _ _ _ _ (by omega)]; exact x2
      · rw [World.cell?_setCell_same _ _ _ x3]; simp only [tot, hbsl]; congr 3; omega
      · rw [sc_off _ _ _ _ _ _ (by omega)]; exact x4
      · rw [sc_off _ _ _ _ _ _ (by omega)]; exact x5
    · have hs' : ¬ b = cb := fun he => hs (by simp [own, he])
      show (X.setCell _ _).heap[b]? = _
      rw [Below.heap_setCell _ _ _ _ hs']
      exact xU.block b hb hs
  have hnew : ∀ x ∈ own cb lb mb ((({ off := k, t := t, bs := bs, eb := w.heap.size + 1, ob := w.heap.size, xb := xb, cap := c } : Ent) :: L)), x < w.heap.size → x ∈ own cb lb mb L := by
    intro x hx hlt
    simp only [own, nodes, List.map_cons, List.mem_cons, List.mem_append, List.cons_append] at hx ⊢
    rcases hx with rfl | rfl | rfl | rfl | hx
    · exact Or.inl rfl
    · exact Or.inr (Or.inl rfl)
    · exact Or.inr (Or.inr (Or.inl rfl))
    · omega
    · exact Or.inr (Or.inr (Or.inr hx))
  have hlen1 : (({ off := k, t := t, bs := bs, eb := w.heap.size + 1, ob := w.heap.size, xb := xb, cap := c } : Ent) :: L).length = L.length + 1 := by simp
  have htot1 : tot (({ off := k, t := t, bs := bs, eb := w.heap.size + 1, ob := w.heap.size, xb := xb, cap := c } : Ent) :: L) ≤ 400 := by
    simp only [tot, hbsl]; omega
  generalize hLL : (({ off := k, t := t, bs := bs, eb := w.heap.size + 1, ob := w.heap.size, xb := xb, cap := c } : Ent) :: L) = L1 at *
  have HLL := hid hLL
  clear hLL
  have HL1 := hid hlen1
  have hl301 : L1.length ≤ 301 := by omega
  clear hl hp hmi HP c0 c2 c3 c4 c5 z zl zf cl0 cl4 cf1 hm hF il iF ai hk hlen1 hbsl HBS HFB hpush x0 x1 x2 x4 x5 h hC hfn hnm hno hby hrow xU
  go_wp2
  go_loopw [10] (fun _ wr => ∃ m, Ev w wr cb lb mb lim L L1 m) (fun _ wr => lenAt wr lb)
  case atStart => exact ⟨_, hstart⟩
  case round =>
    obtain ⟨m, hm1, hK, hgt, hU⟩ := hrel
    have c2 := hK.c2
    have c3 := hK.c3
    have z := hK.tc.isC.frozen
    by_cases hc : lim < (tot (L1.take m) : Int)
    · have hc' : decide (lim < (tot (L1.take m) : Int)) = true := by simpa using hc
      have hmp : 0 < m := by
        rcases Nat.eq_zero_or_pos m with h0 | h0
        · subst h0; simp [tot] at hc; omega
        · exact h0
      obtain ⟨e, he⟩ := take_snoc' L1 m hmp hm1
      rw [he] at hK c3 hc hc'
      have hgt' : ∀ j, m - 1 < j → j ≤ L1.length → lim < (tot (L1.take j) : Int) := by
        intro j h1 h2
        by_cases hj : j = m
        · subst hj; rw [he]; exact hc
        · exact hgt j (by omega) h2
      have hown : ∀ x ∈ own cb lb mb (L1.take (m - 1) ++ [e]), x < w.heap.size → x ∈ own cb lb mb L := by
        intro x hx hlt
        refine hnew x ?_ hlt
        rw [← he] at hx
        simp only [own, nodes, List.mem_cons, List.mem_append, List.mem_map] at hx ⊢
        rcases hx with h1 | h1 | h1 | ⟨y, hy, h1⟩ | h1
        · exact Or.inl h1
        · exact Or.inr (Or.inl h1)
        · exact Or.inr (Or.inr (Or.inl h1))
        · exact Or.inr (Or.inr (Or.inr (Or.inl ⟨y, List.mem_of_mem_take hy, h1⟩)))
        · exact Or.inr (Or.inr (Or.inr (Or.inr h1)))
      have hAl : (L1.take (m - 1)).length ≤ 301 := by rw [List.length_take]; omega
      have hA1 : (L1.take (m - 1)).length = m - 1 := by rw [List.length_take]; omega
      have htA : tot (L1.take (m - 1)) + e.bs.length ≤ 400 := by
        have h1 := tot_append (L1.take (m - 1)) [e]
        rw [← he] at h1
        have h2 := tot_append (L1.take m) (L1.drop m)
        rw [List.take_append_drop] at h2
        simp only [tot] at h1
        omega
      have htA2 : tot (L1.take (m - 1) ++ [e]) = tot (L1.take (m - 1)) + e.bs.length := by rw [tot_append]; simp [tot]
      rw [htA2] at c3 hc hc'
      have HA1 := hid hA1
      have HE := hid he
      have HT := hid htA2
      have HG := hid hgt'
      have HO := hid hown
      clear hgt he hA1 htA2 hgt' hown hnew hstart
      have HK := hid hK
      generalize hAA : L1.take (m - 1) = A at *
      have HAA := hid hAA
      clear hAA
      clear hK
      go_wp2
      go_quiet (fail)
      go_wp2
      have hK2 := (HK.out).drewN nq
      have hU2 := hU.drewN nq
      have hlw := HK.out.st.len
      clear HK hU c2 c3 z
      generalize wr.drewN nq = W at *
      have hK3 := hK2.drew
      obtain ⟨p, hpop⟩ := hK3.st.popOK (cb := cb) (by unfold wrap64; omega)
      obtain ⟨es, ck, hm, hF⟩ := hK3.st.map
      have hF2 : MapFit es ((e.off, e.eb) :: keysOf A) := hF.perm' (by simp only [keysOf, List.map_append, List.map_cons, List.map_nil]; exact List.perm_append_singleton _ _)
      obtain ⟨es', hF', hdel0⟩ := del_run hF2
      have hdel := fun w ty => hdel0 w mb ck ty
      clear hdel0
      obtain ⟨hKp, hUp⟩ := hK3.pop hpop hm hF'
      have hE := hK3.st.el e (by simp)
      have hcb : (sets W.drew (rmL lb e.eb p A.length)).heap[cb]? = W.drew.heap[cb]? := sets_heap _ _ _ (fun x hx he => hK3.cb_node (hpop.node x hx) he.symm)
      have hob : (sets W.drew (rmL lb e.eb p A.length)).heap[e.ob]? = W.drew.heap[e.ob]? := sets_heap _ _ _ (fun x hx he => by
        have h2 := hK3.st.nodeT (hpop.node x hx)
        rw [he] at h2
        rcases h2 with ⟨c, h2⟩ | ⟨c, h2⟩ <;> (rw [hE.obj] at h2; simp at h2))
      have hom : ¬ e.ob = mb := by
        intro hb
        have h2 := hE.obj
        rw [hb, hm] at h2
        simp at h2
      have hcm' : ¬ cb = mb := by
        intro hb
        obtain ⟨c, h2⟩ := hK3.tc
        rw [hb, hm] at h2
        simp at h2
      have w4 : W.cell? ⟨cb, 4, none⟩ = some (pt lb) := hK2.c4
      have y3 : (sets W.drew (rmL lb e.eb p A.length)).cell? ⟨cb, 3, none⟩ = some (.int .i64 (tot A + e.bs.length)) := by
        rw [cell_heap hcb, hK3.c3, HT.out]; simp
      have y4 : (sets W.drew (rmL lb e.eb p A.length)).cell? ⟨cb, 4, none⟩ = some (pt lb) := (cell_heap hcb).trans hK3.c4
      have y5 : (sets W.drew (rmL lb e.eb p A.length)).cell? ⟨cb, 5, none⟩ = some (.map (some mb)) := (cell_heap hcb).trans hK3.c5
      have yo : ∀ i, (sets W.drew (rmL lb e.eb p A.length)).cell? ⟨e.ob, i, none⟩ = (#[.int .i64 e.off, .int .u8 e.t, .slice (some ⟨e.xb, 0, none⟩) e.bs.length e.cap] : Array Value)[i]? := by
        intro i
        rw [cell_heap hob]
        unfold World.cell?
        simp only [hE.obj]
        rfl
      have yo0 := yo 0
      have yo2 := yo 2
      have ym : isM (sets W.drew (rmL lb e.eb p A.length)) mb es ck := sets_isM _ _ _ _ _ hm
      have yz : ∀ i, (sets W.drew (rmL lb e.eb p A.length)).frozen? ⟨cb, i, none⟩ = false := (hK3.tc.of_heap hcb).isC.frozen
      have hback := hpop.back
      have hrem := hpop.rem
      have hlK := hKp.st.len
      generalize sets W.drew (rmL lb e.eb p A.length) = Y at *
      have HB := hid hback
      have HR := hid hrem
      have HKp := hid hKp
      have hta := ta53
      clear hback hrem hK2 hK3 hpop hF hF2 hF' hm hE hob hcb yo hKp
      go_region_held3 (fun w' => w'.cell? ⟨cb, 4, none⟩ = some (pt lb)) (go_simp) (first | (go_at_call 20; refine Calls.mono HB.out ?_; rintro e1 w1 ⟨rfl, rfl⟩) | (go_at_call 19; refine Calls.mono HR.out ?_; rintro e1 w1 ⟨rfl, rfl⟩))
      go_wp2
      go_region
      all_goals go_wp2
      all_goals go_region
      all_goals go_wp2
      refine ⟨⟨m - 1, by omega, ?_, HG.out, ?_⟩, ?_⟩
      · rw [HAA.out]
        exact HKp.out.drew.drew.drew.drew
      · have h1 : Upd w W.drew (own cb lb mb L) := ⟨hU2.os, hU2.tape, hU2.output, hU2.size, hU2.block⟩
        have h2 := h1.trans' hUp HO.out
        exact ⟨h2.os, h2.tape, h2.output, h2.size, h2.block⟩
      · have e1 : lenAt wr lb = A.length + 1 := by
          unfold lenAt
          rw [hlw]
          simp [intOf]
        have e2 : lenAt ((setBlock Y mb (.map es' ck)).setCell ⟨cb, 3, none⟩ (.int .i64 (tot A))).drew.drew.drew.drew lb = A.length := by
          unfold lenAt
          simp only [World.cell?_drew]
          rw [hlK]
          simp [intOf]
        rw [e1, e2]
        omega
    · have hc' : decide (lim < (tot (L1.take m) : Int)) = false := by simpa using hc
      have c0 := hK.c0
      have HK := hid hK
      clear hK
      go_wp2
      go_quiet (fail)
      go_wp2
      refine leaves_cons (f := 16) (args := #[.pointer (some ⟨cb, 0, none⟩)]) (by simp) (by simp [go_sem]) ?_
      refine (unlock_deferred Yba.muLib ⟨cb, 0, none⟩ .returning _ ?_ ?_).mono ?_
      · simp [c0]
      · simp [z]
      rintro e u' w'' ⟨rfl, rfl, rfl⟩
      rw [HLL.out]
      refine ⟨_, results_none rfl _ _ _, rfl, m, (HK.out.drewN nq).unlock, by rw [HL1.out] at hm1; exact hm1, by omega, by rw [HL1.out] at hgt; exact hgt, (hU.drewN nq).setCell (by simp [own]) _⟩
end Go.Proofs.Ybulkcnrs
