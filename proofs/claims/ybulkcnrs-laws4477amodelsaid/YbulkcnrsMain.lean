import Derived.Test.YbulkcnrsEnds
namespace Go.Proofs.Ybulkcnrs
open Go.RowKit Go.Maps Go.ChangeMaps Go.MuLone
set_option linter.unusedVariables false
set_option linter.unusedSimpArgs false
theorem isM_drewN (w : World) (n b : Nat) (es : Array MapEntry) (ck : Nat) : isM (w.drewN n) b es ck = isM w b es ck := propext Iff.rfl
theorem isC_drewN (w : World) (n b : Nat) : isC (w.drewN n) b = isC w b := propext Iff.rfl
attribute [local go_sem] isM_drewN isC_drewN isC_setCell isC_drew isC_allocs isM_setCell isM_drew isM_allocs sb_cell sb_frozen sb_isC sb_size sb_isM sb_drew

/-- What holds at the head of every round. -/
structure Inv (w wr : World) (cb lb mb : Nat) (lim : Int) (L : List Ent) (m : Value) (k : Nat) : Prop where
  st : CSt wr cb lb mb lim L
  m : mAt wr w.heap.size m L
  below : Below w.heap.size w wr
  fits : L = [] ∨ (tot L : Int) ≤ lim
  len : L.length ≤ k
  bc : w.heap.size ≤ cb
  bl : w.heap.size ≤ lb
  bm : w.heap.size ≤ mb
  be : ∀ e ∈ L, w.heap.size ≤ e.eb

section
variable {w wr : World} {cb lb mb : Nat} {lim : Int} {L : List Ent} {m : Value} {k : Nat}

/-- New blocks alone. -/
theorem Inv.grow (h : Inv w wr cb lb mb lim L m k) {wr' : World} (hb : Below wr.heap.size wr wr') : Inv w wr' cb lb mb lim L m k :=
  ⟨h.st.kept hb.block, h.m.kept (fun b hT => hb.block b hT.isC.lt), h.below.trans (hb.mono h.below.size), h.fits, h.len, h.bc, h.bl, h.bm, h.be⟩

theorem own_ge (h : Inv w wr cb lb mb lim L m k) : ∀ b ∈ own cb lb mb L, w.heap.size ≤ b := by
  intro b hb
  simp only [own, nodes, List.mem_cons, List.mem_append, List.mem_map, List.not_mem_nil, or_false] at hb
  rcases hb with rfl | rfl | rfl | ⟨e, he, rfl⟩ | rfl
  · exact h.bc
  · exact h.bm
  · exact h.bl
  · exact h.be e he
  · exact h.bl

theorem own_not35 (h : CSt wr cb lb mb lim L) {b : Nat} (hT : isT wr b 35) : b ∉ own cb lb mb L := by
  intro hb
  obtain ⟨es, ck, hm, _⟩ := h.st.map
  have hb' : b = cb ∨ b = mb ∨ b ∈ nodes lb L := by
    simp only [own, List.mem_cons] at hb
    rcases hb with h1 | h1 | h1
    · exact Or.inl h1
    · exact Or.inr (Or.inl h1)
    · exact Or.inr (Or.inr (by simp only [nodes, List.mem_cons]; exact h1))
  rcases hb' with rfl | rfl | h1
  · exact absurd (hT.one h.tc) (by decide)
  · obtain ⟨c, h2⟩ := hT
    rw [hm] at h2
    simp at h2
  · rcases h.st.nodeT h1 with h2 | h2 <;> exact absurd (hT.one h2) (by decide)

/-- The model's slice stands while the cache is written. -/
theorem Inv.mUpd (h : Inv w wr cb lb mb lim L m k) {w2 : World} (hu : Upd wr w2 (own cb lb mb L)) : mAt w2 w.heap.size m L :=
  h.m.kept (fun b hT => hu.block b hT.isC.lt (own_not35 h.st hT))

theorem Inv.belowUpd (h : Inv w wr cb lb mb lim L m k) {w2 : World} (hu : Upd wr w2 (own cb lb mb L)) : Below w.heap.size w w2 :=
  hu.below h.below h.below.size (own_ge h)

theorem Inv.moved (h : Inv w wr cb lb mb lim L m k) {L' : List Ent} {w2 w3 : World} {v' : Value} (hp : L.Perm L') (hst : CSt w2 cb lb mb lim L') (hB : Below w.heap.size w w2) (hb3 : Below w2.heap.size w2 w3) (hm3 : mAt w3 w.heap.size v' L') : Inv w w3 cb lb mb lim L' v' (k + 1) :=
  ⟨hst.kept hb3.block, hm3, hB.trans (hb3.mono hB.size), by
    rcases h.fits with h1 | h1
    · left; subst h1; exact hp.nil_eq.symm
    · right; rw [← tot_perm hp]; exact h1, by rw [← hp.length_eq]; exact Nat.le_succ_of_le h.len, h.bc, h.bl, h.bm, fun e he => h.be e (hp.mem_iff.2 he)⟩

theorem Inv.step (h : Inv w wr cb lb mb lim L m k) : Inv w wr cb lb mb lim L m (k + 1) := ⟨h.st, h.m, h.below, h.fits, Nat.le_succ_of_le h.len, h.bc, h.bl, h.bm, h.be⟩

theorem Inv.nodup (h : Inv w wr cb lb mb lim L m k) : (L.map Ent.off).Nodup := by
  obtain ⟨es, ck, hm, hF⟩ := h.st.st.map
  have := hF.nd
  simpa [keysOf, Function.comp_def] using this

theorem found_split {key : Int} (hnd : (L.map Ent.off).Nodup) (hf : ∃ e ∈ L, e.off = key) : ∃ A e B, L = A ++ e :: B ∧ e.off = key ∧ ∀ a ∈ A, ¬ a.off = e.off := by
  obtain ⟨e, he, hk⟩ := hf
  obtain ⟨A, B, rfl⟩ := List.append_of_mem he
  refine ⟨A, e, B, rfl, hk, ?_⟩
  intro a ha hh
  simp only [List.map_append, List.map_cons, List.nodup_append] at hnd
  exact hnd.2.2 a.off (List.mem_map_of_mem ha) e.off (by simp) hh
end

/-- 'append(s, x...)', s a row of the call's own, x nil or not. -/
theorem wpList_append_own_any {P : Program} (w : World) {ops : Array Oper} {rest : List Oper} {o : Oper} {a : Act} {Q : Exit → Act → World → Prop} (hgd : o.guard = none) (s x : Operand) (t : TypeId)
    (ho : o.op = .call { callee := .builtin .append, args := #[s, x], argTypes := #[t, t] })
    (base : Nat) (e : TypeId) (i : TypeInfo) (z : Value) (size bytes : Nat) (ht : P.underlying t = some (.slice e)) (hi : P.info? e = some i) (hz : i.zero = some z)
    (hsize : i.size = size) (hby : i.bytes = bytes) (hzs : z.cells.size = size) (hsz : 0 < size)
    (v : Value) (n : Nat) (xs : List Value) (hs : a.eval s = v) (hown : w.ownsRow base e size v n xs)
    (ao : Option Addr) (m c : Nat) (news : List Value) (hx : a.eval x = .slice ao m c) (hl : news.length = m * size) (hnone : ao = none → m = 0 ∧ c = 0) (hnews : ∀ ad, ao = some ad → ∀ j u, news[j]? = some u → w.cell? (ad.add j) = some u) (h1 : ∀ u ∈ news, u.oneCell' = true)
    (h63 : n + m ≤ maxLen) (hbytes : (n + m) * bytes ≤ 140737488355328) (hbase : base ≤ w.heap.size)
    (h : ∀ v' w', w'.ownsRow base e size v' (n + m) (xs ++ news) → w.grownBy w' v.ownBlock → wpList P ops Q rest (a.put o.dst v') w') : wpList P ops Q (o :: rest) a w := by
  cases ao with
  | some ad => exact wpList_append_own w hgd s x t ho base e i z size bytes ht hi hz hsize hby hzs hsz v n xs hs hown ad m c news hx hl (hnews ad rfl) h1 h63 hbytes hbase (fun v' w' h2 h3 _ => h v' w' h2 h3)
  | none =>
    obtain ⟨rfl, rfl⟩ := hnone rfl
    have hn : news = [] := List.eq_nil_of_length_eq_zero (by simpa using hl)
    subst hn
    refine wpList_plain hgd fun K hK' => ?_
    have hrun := run_append_owned_none (P := P) w base t o.type e i size ht hi _ n xs hown
    unfold Oper.wp
    simp [execOp, ho, resolve, invoke, builtin, hs, hx, hrun, Result.andThen]
    exact hK' _ _ (h v w (by simpa using hown) (World.grownBy.refl _ _))

theorem mAt.take {w : World} {base g cap : Nat} {L : List Ent} (h : mAt w base (.slice (some ⟨g, 0, none⟩) L.length cap) L) (j : Nat) (hj : j ≤ L.length) : mAt w base (.slice (some ⟨g, 0, none⟩) j cap) (L.take j) := by
  obtain ⟨h0, h2⟩ := h
  have e1 : (L.take j).length = j := by rw [List.length_take]; omega
  refine ⟨by rw [rowOf_length], ?_⟩
  rw [e1]
  rcases h2 with ⟨h1, _⟩ | ⟨g', cap', cur, hv, hg, hh, hn, hcap, hsz, htake⟩
  · simp at h1
  · simp only [Value.slice.injEq, Option.some.injEq, Addr.mk.injEq, and_true, true_and] at hv
    obtain ⟨rfl, rfl⟩ := hv
    refine Or.inr ⟨g, cap, cur, rfl, hg, hh, by omega, hcap, hsz, ?_⟩
    have e2 : rowOf L = rowOf (L.take j) ++ rowOf (L.drop j) := by rw [← rowOf_append, List.take_append_drop]
    have e3 : (rowOf (L.take j)).length = j * 3 := by rw [rowOf_length, e1]
    have e4 : (cur.toList.take (L.length * 3)).take (j * 3) = cur.toList.take (j * 3) := by
      rw [List.take_take, Nat.min_eq_left (by omega)]
    rw [← e4, htake, e2, ← e3, List.take_left]

theorem mAt.cap {w : World} {base g cap : Nat} {L : List Ent} (h : mAt w base (.slice (some ⟨g, 0, none⟩) L.length cap) L) : L.length ≤ cap := by
  rcases h.2 with ⟨h1, _⟩ | ⟨g', cap', cur, hv, _, _, hn, _⟩
  · simp at h1
  · simp only [Value.slice.injEq] at hv
    obtain ⟨_, _, rfl⟩ := hv
    exact hn

def lenOfV : Value → Nat
  | .slice _ n _ => n
  | _ => 0

theorem evict_one {lim : Int} {L1 : List Ent} {m j N : Nat} (hm : m ≤ N) (hj : j ≤ N) (h1 : (tot (L1.take m) : Int) ≤ lim) (h2 : ∀ i, m < i → i ≤ N → lim < (tot (L1.take i) : Int)) (h3 : (tot (L1.take j) : Int) ≤ lim) (h4 : ∀ i, j < i → i ≤ N → lim < (tot (L1.take i) : Int)) : m = j := by
  rcases Nat.lt_trichotomy m j with h | h | h
  · have := h2 j h hj; omega
  · exact h
  · have := h4 m h hm; omega

/-- The world behind newCache. -/
def w1 (w : World) (lim : Int) : World :=
  ((w.alloc (.cells #[pt w.heap.size, pt w.heap.size, .pointer none, .nilIface, .int .i64 0] 67)).alloc (.map #[] 0)).alloc (.cells #[.int .i32 0, .int .u32 0, .int .i64 lim, .int .i64 0, pt w.heap.size, .map (some (w.heap.size + 1))] 49)

theorem heap_at' (w : World) (o : Obj) (n : Nat) (h : n = w.heap.size) : (w.alloc o).heap[n]? = some o := by
  subst h
  show (w.heap.push o)[w.heap.size]? = _
  simp
theorem w1_l (w : World) (lim : Int) : (w1 w lim).heap[w.heap.size]? = some (.cells #[pt w.heap.size, pt w.heap.size, .pointer none, .nilIface, .int .i64 0] 67) := by
  unfold w1
  rw [Below.heap_alloc _ _ _ (by simp; omega), Below.heap_alloc _ _ _ (by simp)]
  exact heap_at' _ _ _ rfl
theorem w1_m (w : World) (lim : Int) : (w1 w lim).heap[w.heap.size + 1]? = some (.map #[] 0) := by
  unfold w1
  rw [Below.heap_alloc _ _ _ (by simp)]
  exact heap_at' _ _ _ (by simp)
theorem w1_c (w : World) (lim : Int) : (w1 w lim).heap[w.heap.size + 2]? = some (.cells #[.int .i32 0, .int .u32 0, .int .i64 lim, .int .i64 0, pt w.heap.size, .map (some (w.heap.size + 1))] 49) := by
  unfold w1
  exact heap_at' _ _ _ (by simp)
theorem w1_old (w : World) (lim : Int) (b : Nat) (h : b < w.heap.size) : (w1 w lim).heap[b]? = w.heap[b]? := by
  unfold w1
  rw [Below.heap_alloc _ _ _ (by simp; omega), Below.heap_alloc _ _ _ (by simp; omega), Below.heap_alloc _ _ _ h]
theorem cell_of' {w : World} {b : Nat} {c : Array Value} {t : TypeId} {f : Nat × Nat} (h : w.heap[b]? = some (.cells c t f)) (i : Nat) : w.cell? ⟨b, i, none⟩ = c[i]? := by
  unfold World.cell?
  simp only [h]
  rfl

theorem inv_start (w : World) (lim : Int) : Inv w (w1 w lim) (w.heap.size + 2) w.heap.size (w.heap.size + 1) lim [] (.slice none 0 0) 0 := by
  have hl := w1_l w lim
  have hc := w1_c w lim
  refine ⟨⟨⟨cell_of' hc 0, cell_of' hc 1, cell_of' hc 2, cell_of' hc 3, cell_of' hc 4, cell_of' hc 5, ⟨_, _, hc⟩⟩, ⟨_, hc⟩, ⟨⟨cell_of' hl 0, cell_of' hl 1, trivial⟩, cell_of' hl 4, ⟨_, hl⟩, ⟨#[], 0, w1_m w lim, MapFit.nil⟩, by simp, by simp⟩⟩, ?_, ?_, Or.inl rfl, by simp, by omega, by omega, by omega, by simp⟩
  · exact ⟨rfl, Or.inl ⟨rfl, rfl⟩⟩
  · exact ⟨rfl, rfl, rfl, by unfold w1; simp; omega, fun b hb => w1_old w lim b hb⟩

set_option maxHeartbeats 12800000 in
set_option maxRecDepth 100000 in
theorem walk_T (a0 : Int) (av : Option Addr) (n cap : Nat) (w : World) (hl : -128 ≤ a0 ∧ a0 ≤ 127) (hn : ¬ 300 < n)
    (hav : 0 < n → ∃ b o, av = some ⟨b, o, none⟩ ∧ b < w.heap.size ∧ ∀ i, i < n → ∃ (x0 x1 x2 : Int) (s : ByteArray), w.cell? ⟨b, o + i * 4, none⟩ = some (.int .u8 x0) ∧ w.cell? ⟨b, o + i * 4 + 1, none⟩ = some (.int .u8 x1) ∧
      w.cell? ⟨b, o + i * 4 + 2, none⟩ = some (.int .u8 x2) ∧ w.cell? ⟨b, o + i * 4 + 3, none⟩ = some (.string s) ∧ (0 ≤ x0 ∧ x0 ≤ 255) ∧ (0 ≤ x1 ∧ x1 ≤ 255) ∧ (0 ≤ x2 ∧ x2 ≤ 255) ∧ s.size ≤ maxLen) :
    Calls Yba.prog 3 #[.int .i8 a0, .slice av n cap] w fun e w' => e = .returned (.bool true) ∧ Below w.heap.size w w' := by
  have hn' : decide (300 < (n : Int)) = false := by simp; omega
  have hn2 : (n : Int) ≤ 300 := by omega
  go_enter Yba.func3, Yba.ntmps3
  go_wp2_with (go_at_call 5; refine (newCache_any _ _).mono ?_; rintro e w' ⟨rfl, rfl⟩)
  go_loopw [7, 8, 32] (fun m size i wr => ∃ (k : Nat) (L : List Ent), k ≤ n ∧ i = .int .i64 k ∧ size = .int .i64 (tot L) ∧ Inv w wr (w.heap.size + 2) w.heap.size (w.heap.size + 1) a0 L m k) (fun _ _ i _ => n - (intOf i).toNat)
  case atStart => exact ⟨0, [], Nat.zero_le _, rfl, rfl, inv_start w a0⟩
  case round =>
    obtain ⟨k, L, hk, rfl, rfl, hI⟩ := hrel
    by_cases hlt : k < n
    · obtain ⟨b, o, rfl, hb, hcells⟩ := hav (by omega)
      obtain ⟨x0, x1, x2, s, q0, q1, q2, q3, b0, b1, b2, b3⟩ := hcells k hlt
      have p0 := (hI.below.cell (p := ⟨b, o + k * 4, none⟩) hb).trans q0
      have p1 := (hI.below.cell (p := ⟨b, o + k * 4 + 1, none⟩) hb).trans q1
      have p2 := (hI.below.cell (p := ⟨b, o + k * 4 + 2, none⟩) hb).trans q2
      have p3 := (hI.below.cell (p := ⟨b, o + k * 4 + 3, none⟩) hb).trans q3
      clear hcells q0 q1 q2 q3 hav
      have hcv := conv_to
      have hlt' : (k : Int) < (n : Int) := by omega
      obtain ⟨b00, b01⟩ := b0
      obtain ⟨b10, b11⟩ := b1
      by_cases h3 : x0 % 3 = 2
      · have h3' : (x0 % 3 != 2) = false := by simpa using h3
        have hI2 := hI.grow ((Below.refl wr.heap.size wr).alloc (Nat.le_refl _) (.cells #[.int .u8 x0, .int .u8 x1, .int .u8 x2, .string s] 28))
        have hwf : (Lit.int .i64 (x1 % 8)).wf = true := WalkArith.wf_i64 (by omega)
        have hL4 : L.length ≤ 400 := by have := hI.len; omega
        have hV : (wr.alloc (.cells #[.int .u8 x0, .int .u8 x1, .int .u8 x2, .string s] 28)).heap.size = wr.heap.size + 1 := by simp
        by_cases hf : ∃ e ∈ L, e.off = x1 % 8
        · obtain ⟨A, e, B, hL, he, hA⟩ := found_split hI.nodup hf
          obtain ⟨am, mc, rfl, hne⟩ := hI2.m.shape2
          obtain ⟨g, rfl⟩ := hne (by have := congrArg List.length hL; simp at this; omega)
          have HI2 := hid hI2
          have HL := hid hL
          have HE := hid he
          have HA := hid hA
          have hlk : L.length ≤ k := hI.len
          have hg : Calls Yba.prog 9 #[pt (w.heap.size + 2), .int .i64 (x1 % 8)] (wr.alloc (.cells #[.int .u8 x0, .int .u8 x1, .int .u8 x2, .string s] 28)) fun r w2 => r = .returned (.tuple #[.int .u8 e.t, .slice (some ⟨e.xb, 0, none⟩) e.bs.length e.cap, .bool true]) ∧
              CSt w2 (w.heap.size + 2) w.heap.size (w.heap.size + 1) a0 (e :: (A ++ B)) ∧ Upd (wr.alloc (.cells #[.int .u8 x0, .int .u8 x1, .int .u8 x2, .string s] 28)) w2 (own (w.heap.size + 2) w.heap.size (w.heap.size + 1) L) := by
            have hst := hI2.st
            rw [hL] at hst
            have h1 := get_hit hst
            rw [he, ← hL] at h1
            exact h1
          have HG := hid hg
          clear hI hI2 hne hf hwf hL he hA hg
          go_wp2_with fail
          refine Calls.mono HG.out ?_
          rintro r w2 ⟨rfl, hst2, hu2⟩
          have hm2 := HI2.out.mUpd hu2
          have hB2 := HI2.out.belowUpd hu2
          have hAl : A.length < L.length := by have := congrArg List.length HL.out; simp at this; omega
          have hLA : L[A.length] = e := by
            have : ∀ (l : List Ent) (h : A.length < l.length), l = A ++ e :: B → l[A.length] = e := by
              rintro l h rfl
              simp
            exact this L hAl HL.out
          have m0 := hm2.cell A.length hAl 0 (by omega)
          have m1 := hm2.cell A.length hAl 1 (by omega)
          have m2 := hm2.cell A.length hAl 2 (by omega)
          rw [hLA] at m0 m1 m2
          simp only [entCells, List.getElem?_cons_zero, List.getElem?_cons_succ, Nat.add_zero] at m0 m1 m2
          have hfind : Calls Yba.prog 7 #[.slice (some ⟨g, 0, none⟩) L.length mc, .int .i64 (x1 % 8)] w2 fun r w' => r = .returned (.int .i64 A.length) ∧ w' = w2 := by
            have h1 := hm2
            rw [HL.out] at h1
            have h2 := find_hit h1 HA.out (by rw [← HL.out]; exact hL4)
            rw [HE.out, ← HL.out] at h2
            exact h2
          have hfront : Calls Yba.prog 8 #[.slice (some ⟨g, 0, none⟩) L.length mc, .int .i64 A.length] w2 fun r w' => ∃ v', r = .returned v' ∧ mAt w' w.heap.size v' (e :: (A ++ B)) ∧ Below w2.heap.size w2 w' := by
            have h1 := hm2
            rw [HL.out] at h1
            have h2 := front_any h1 (by rw [← HL.out]; exact hL4) hB2.size
            rw [← HL.out] at h2
            exact h2
          have hE := hst2.st.el e (by simp)
          have hbe := bytesEqual_same w2 e.xb e.xb e.cap e.cap e.bs.length e.bs.length e.bs rfl rfl hE.bytes hE.bytes
          have HF := hid hfind
          have HT := hid hfront
          have HB := hid hbe
          have ht1 : (e.t != e.t) = false := by simp
          have hAi : (A.length : Int) < (L.length : Int) := by omega
          clear hfind hfront hbe hm2 hE hLA
          go_wp2_with (first | (go_at_call 7; refine Calls.mono HF.out ?_; rintro r w3 ⟨rfl, hh⟩; obtain rfl := hh.symm) | (go_at_call 10; refine Calls.mono HB.out ?_; rintro r w3 ⟨rfl, hh⟩; obtain rfl := hh.symm) | (go_at_call 8; refine Calls.mono HT.out ?_; rintro r w3 ⟨v', rfl, hm3, hb3⟩))
          have hp : L.Perm (e :: (A ++ B)) := by rw [HL.out]; exact List.perm_middle
          exact ⟨⟨k + 1, e :: (A ++ B), by omega, by go_num, by rw [tot_perm hp], HI2.out.moved hp hst2 hB2 hb3 hm3⟩, by simp [intOf]; omega⟩
        · obtain ⟨es, ck, hm, hF⟩ := hI2.st.st.map
          have hno : ∀ x ∈ L, ¬ x.off = x1 % 8 := fun x hx hh => hf ⟨x, hx, hh⟩
          have hg := get_miss (w.heap.size + 2) w.heap.size (w.heap.size + 1) ck a0 (tot L) (x1 % 8) es (keysOf L) _ hI2.st.cache hF hm hwf (fun b hb => by
            obtain ⟨y, hy, h1⟩ := List.mem_map.1 hb
            exact hno y hy (congrArg Prod.fst h1))
          have hfind := find_miss (x1 % 8) hI2.m hno hL4
          have HG := hid hg
          have HF := hid hfind
          have HI2 := hid hI2
          clear hI hI2 hf hwf hg hfind hno hF hm
          go_wp2_with (first | (go_at_call 9; refine Calls.mono HG.out ?_; rintro r w3 ⟨rfl, hh⟩; obtain rfl := hh.symm) | (go_at_call 7; refine Calls.mono HF.out ?_; rintro r w3 ⟨rfl, hh⟩; obtain rfl := hh.symm))
          exact ⟨⟨k + 1, L, by omega, by go_num, rfl, HI2.out.step⟩, by simp [intOf]; omega⟩
      · have h3' : (x0 % 3 != 2) = true := by simpa using h3
        have hI2 := hI.grow ((Below.refl wr.heap.size wr).alloc (Nat.le_refl _) (.cells #[.int .u8 x0, .int .u8 x1, .int .u8 x2, .string s] 28))
        have hI3 : ∀ (cp : Nat) (f : Nat × Nat), Inv w ((wr.alloc (.cells #[.int .u8 x0, .int .u8 x1, .int .u8 x2, .string s] 28)).alloc (.cells (bytesRow s cp) 5 f)).drew (w.heap.size + 2) w.heap.size (w.heap.size + 1) a0 L u7 k :=
          fun cp f => hI2.grow (((Below.refl _ _).alloc (Nat.le_refl _) _).drew)
        have hbyt : ∀ (cp : Nat) (f : Nat × Nat), bytesAt ((wr.alloc (.cells #[.int .u8 x0, .int .u8 x1, .int .u8 x2, .string s] 28)).alloc (.cells (bytesRow s cp) 5 f)).drew (wr.heap.size + 1) s.data.toList := fun cp f => by
          have := bytesAt_new (wr.alloc (.cells #[.int .u8 x0, .int .u8 x1, .int .u8 x2, .string s] 28)) s cp f
          rw [World.size_alloc] at this
          exact this
        have hwf : (Lit.int .i64 (x1 % 8)).wf = true := WalkArith.wf_i64 (by omega)
        have hL4 : L.length ≤ 400 := by have := hI.len; omega
        have hlk : L.length ≤ k := hI.len
        have hss : (s.size : Int) ≤ 9223372036854775807 := by unfold maxLen at b3; omega
        by_cases hf : ∃ e ∈ L, e.off = x1 % 8
        · obtain ⟨A, e, B, hL, he, hA⟩ := found_split hI.nodup hf
          have hg : ∀ (cp : Nat) (f : Nat × Nat) (v1 v2 : Value), Calls Yba.prog 6 #[pt (w.heap.size + 2), .int .i64 (x1 % 8), v1, v2] ((wr.alloc (.cells #[.int .u8 x0, .int .u8 x1, .int .u8 x2, .string s] 28)).alloc (.cells (bytesRow s cp) 5 f)).drew fun r w2 => r = .returned (.tuple #[]) ∧
              CSt w2 (w.heap.size + 2) w.heap.size (w.heap.size + 1) a0 (e :: (A ++ B)) ∧ Upd ((wr.alloc (.cells #[.int .u8 x0, .int .u8 x1, .int .u8 x2, .string s] 28)).alloc (.cells (bytesRow s cp) 5 f)).drew w2 (own (w.heap.size + 2) w.heap.size (w.heap.size + 1) L) := by
            intro cp f v1 v2
            have hst := (hI3 cp f).st
            rw [hL] at hst
            have h1 := add_hit v1 v2 hst
            rw [he, ← hL] at h1
            exact h1
          have HG := hid hg
          have HI3 := hid hI3
          have HL := hid hL
          have HE := hid he
          have HA := hid hA
          clear hI hI2 hI3 hf hwf hL he hA hg hbyt
          go_wp2_with fail
          generalize grownCap (wr.alloc _) s.size 0 5 = cp
          refine Calls.mono (HG.out _ _ _ _) ?_
          rintro r w2 ⟨rfl, hst2, hu2⟩
          have hm2 := (HI3.out _ _).mUpd hu2
          have hB2 := (HI3.out _ _).belowUpd hu2
          have hfind : Calls Yba.prog 7 #[u7, .int .i64 (x1 % 8)] w2 fun r w' => r = .returned (.int .i64 A.length) ∧ w' = w2 := by
            have h1 := hm2
            rw [HL.out] at h1
            have h2 := find_hit h1 HA.out (by rw [← HL.out]; exact hL4)
            rw [HE.out] at h2
            exact h2
          have hfront : Calls Yba.prog 8 #[u7, .int .i64 A.length] w2 fun r w' => ∃ v', r = .returned v' ∧ mAt w' w.heap.size v' (e :: (A ++ B)) ∧ Below w2.heap.size w2 w' := by
            have h1 := hm2
            rw [HL.out] at h1
            exact front_any h1 (by rw [← HL.out]; exact hL4) hB2.size
          have HF := hid hfind
          have HT := hid hfront
          clear hfind hfront hm2
          go_wp2_with (first | (go_at_call 7; refine Calls.mono HF.out ?_; rintro r w3 ⟨rfl, hh⟩; obtain rfl := hh.symm) | (go_at_call 8; refine Calls.mono HT.out ?_; rintro r w3 ⟨v', rfl, hm3, hb3⟩))
          have hp : L.Perm (e :: (A ++ B)) := by rw [HL.out]; exact List.perm_middle
          exact ⟨⟨k + 1, e :: (A ++ B), by omega, by go_num, by rw [tot_perm hp], (HI3.out cp (0, 0)).moved hp hst2 hB2 hb3 hm3⟩, by simp [intOf]; omega⟩
        · have hno : ∀ x ∈ L, ¬ x.off = x1 % 8 := fun x hx hh => hf ⟨x, hx, hh⟩
          by_cases hbig : a0 < (s.size : Int)
          · have hg : ∀ (cp : Nat) (f : Nat × Nat), Calls Yba.prog 6 #[pt (w.heap.size + 2), .int .i64 (x1 % 8), .int .u8 x2, .slice (some ⟨wr.heap.size + 1, 0, none⟩) s.size cp] ((wr.alloc (.cells #[.int .u8 x0, .int .u8 x1, .int .u8 x2, .string s] 28)).alloc (.cells (bytesRow s cp) 5 f)).drew fun r w2 => r = .returned (.tuple #[]) ∧
                w2 = ((wr.alloc (.cells #[.int .u8 x0, .int .u8 x1, .int .u8 x2, .string s] 28)).alloc (.cells (bytesRow s cp) 5 f)).drew := by
              intro cp f
              obtain ⟨es, ck, hm, hF⟩ := (hI3 cp f).st.st.map
              exact add_big (w.heap.size + 2) w.heap.size (w.heap.size + 1) ck (wr.heap.size + 1) s.size cp a0 (tot L) (x1 % 8) x2 es (keysOf L) _ (hI3 cp f).st.cache hF hm hwf (fun b hb => by
                obtain ⟨y, hy, h1⟩ := List.mem_map.1 hb
                exact hno y hy (congrArg Prod.fst h1)) hbig b3
            have hfind := fun cp f => find_miss (x1 % 8) (hI3 cp f).m hno hL4
            have HG := hid hg
            have HF := hid hfind
            have HI3 := hid hI3
            clear hI hI2 hI3 hf hwf hg hfind hno hbyt
            go_wp2_with fail
            generalize grownCap (wr.alloc _) s.size 0 5 = cp
            refine Calls.mono (HG.out _ _) ?_
            rintro r w2 ⟨rfl, hh⟩
            have HI4 := hid (HI3.out cp ((bytesRow s cp).size, (bytesRow s cp).size + 1))
            have HF4 := hid (HF.out cp ((bytesRow s cp).size, (bytesRow s cp).size + 1))
            rw [← hh] at HI4 HF4
            clear hh HI3 HF HG
            go_wp2_with (go_at_call 7; refine Calls.mono HF4.out ?_; rintro r w3 ⟨rfl, hh⟩; obtain rfl := hh.symm)
            exact ⟨⟨k + 1, L, by omega, by go_num, rfl, HI4.out.step⟩, by simp [intOf]; omega⟩
          · have hL301 : L.length ≤ 300 := by omega
            have hg : ∀ (cp : Nat) (f : Nat × Nat), Calls Yba.prog 6 #[pt (w.heap.size + 2), .int .i64 (x1 % 8), .int .u8 x2, .slice (some ⟨wr.heap.size + 1, 0, none⟩) s.size cp] ((wr.alloc (.cells #[.int .u8 x0, .int .u8 x1, .int .u8 x2, .string s] 28)).alloc (.cells (bytesRow s cp) 5 f)).drew fun r w2 => r = .returned (.tuple #[]) ∧
                ∃ m, CSt w2 (w.heap.size + 2) w.heap.size (w.heap.size + 1) a0 ((({ off := x1 % 8, t := x2, bs := s.data.toList, eb := wr.heap.size + 3, ob := wr.heap.size + 2, xb := wr.heap.size + 1, cap := cp } : Ent) :: L).take m) ∧ m ≤ L.length + 1 ∧ (tot ((({ off := x1 % 8, t := x2, bs := s.data.toList, eb := wr.heap.size + 3, ob := wr.heap.size + 2, xb := wr.heap.size + 1, cap := cp } : Ent) :: L).take m) : Int) ≤ a0 ∧
                  (∀ j, m < j → j ≤ L.length + 1 → a0 < tot ((({ off := x1 % 8, t := x2, bs := s.data.toList, eb := wr.heap.size + 3, ob := wr.heap.size + 2, xb := wr.heap.size + 1, cap := cp } : Ent) :: L).take j)) ∧ Upd ((wr.alloc (.cells #[.int .u8 x0, .int .u8 x1, .int .u8 x2, .string s] 28)).alloc (.cells (bytesRow s cp) 5 f)).drew w2 (own (w.heap.size + 2) w.heap.size (w.heap.size + 1) L) := by
              intro cp f
              have hz : ((wr.alloc (.cells #[.int .u8 x0, .int .u8 x1, .int .u8 x2, .string s] 28)).alloc (.cells (bytesRow s cp) 5 f)).drew.heap.size = wr.heap.size + 2 := by simp
              have h1 := add_new (hI3 cp f).st (x1 % 8) x2 (wr.heap.size + 1) s.size cp s.data.toList hno hwf (by simp) hbig hl.2 (by
                rcases hI.fits with h0 | h0
                · rw [h0]; simp [tot]; omega
                · exact h0) hL301 (hbyt cp f) ⟨bytesRow s cp, f, by
                  show (Array.push _ _)[wr.heap.size + 1]? = _
                  rw [Array.getElem?_push, if_pos (by simp)]⟩
              rw [hz] at h1
              exact h1
            have HG := hid hg
            have HI3 := hid hI3
            have HNO := hid hno
            have hbe := hI.be
            have htb : (tot L : Int) ≤ 127 := by
              rcases hI.fits with h0 | h0
              · rw [h0]; simp [tot]
              · omega
            have hws := hI.below.size
            clear hI hI2 hI3 hf hwf hg hno hbyt
            go_wp2_with fail
            generalize grownCap (wr.alloc _) s.size 0 5 = cp
            refine Calls.mono (HG.out _ _) ?_
            rintro r w2 ⟨rfl, m, hst2, hmN, htm, hmj, hu2⟩
            have hm2 := (HI3.out _ _).mUpd hu2
            have hB2 := (HI3.out _ _).belowUpd hu2
            have hfind := find_miss (x1 % 8) hm2 HNO.out hL4
            obtain ⟨am, mc, rfl, hne⟩ := hm2.shape2
            have HF := hid hfind
            obtain ⟨i0, hi, hz0, hz1, hz2⟩ := info_parts Yba.info35
            generalize hE0 : ({ off := x1 % 8, t := x2, bs := s.data.toList, eb := wr.heap.size + 3, ob := wr.heap.size + 2, xb := wr.heap.size + 1, cap := cp } : Ent) = e0 at *
            have HE0 := hid hE0
            have hbl : s.data.toList.length = s.size := by simp
            have hown : (w2.alloc (.cells #[.int .i64 (x1 % 8), .int .u8 x2, .slice (some ⟨wr.heap.size + 1, 0, none⟩) s.size cp] 35)).ownsRow w.heap.size 35 3 (.slice (some ⟨w2.heap.size, 0, none⟩) 1 1) 1 (entCells e0) := by
              have h1 := World.ownsRow_lit (e := 35) (size := 3) w2 #[.int .i64 (x1 % 8), .int .u8 x2, .slice (some ⟨wr.heap.size + 1, 0, none⟩) s.size cp] 1 hB2.size (by unfold maxLen; omega) rfl
              rw [← hE0]
              simp only [entCells, hbl]
              exact h1
            have hMA := hid hm2
            have hsrc : ∀ ad, am = some ad → ∀ j u, (rowOf L)[j]? = some u → (w2.alloc (.cells #[.int .i64 (x1 % 8), .int .u8 x2, .slice (some ⟨wr.heap.size + 1, 0, none⟩) s.size cp] 35)).cell? (ad.add j) = some u := by
              intro ad had j u hj
              have hjl := (List.getElem?_eq_some_iff.1 hj).1
              rw [rowOf_length] at hjl
              obtain ⟨g, hg⟩ := hne (by omega)
              rw [hg] at had
              simp only [Option.some.injEq] at had
              subst had
              subst hg
              have h1 : w2.ownsRow w.heap.size 35 3 (.slice (some ⟨g, 0, none⟩) L.length mc) L.length (rowOf L) := hm2
              have h2 := h1.cellAt j hjl
              rw [addr_add, Nat.zero_add, World.cell?_alloc_lt _ _ _ (World.block_lt_of_cell? w2 _ (h2.trans hj)), h2]
              exact hj
            have hnoneA : am = none → L.length = 0 ∧ mc = 0 := by
              intro h0
              rcases hm2.shape with ⟨h1, h2⟩ | ⟨g, cp', h1, _⟩
              · simp only [Value.slice.injEq] at h1
                exact ⟨h1.2.1, h1.2.2⟩
              · simp only [Value.slice.injEq] at h1
                rw [h0] at h1
                simp at h1
            have HSR := hid hsrc
            have HNA := hid hnoneA
            have HNE := hid hne
            have hz9 : (Value.agg #[.int .i64 0, .int .u8 0, .slice none 0 0]).cells.size = 3 := rfl
            have HZ9 := hid hz9
            have HOW := hid hown
            have hwB := hB2.size
            clear hfind hE0 hm2 HG HNO hbl hsrc hnoneA hne hz9 hown
            go_wp2_with (first | (go_at_call 7; refine Calls.mono HF.out ?_; rintro r w3 ⟨rfl, hh⟩; obtain rfl := hh.symm) | (at_builtin; refine wpList_append_own_any _ rfl _ _ 26 rfl w.heap.size 35 i0 _ 3 40 Yba.underlying26 hi hz0 hz1 hz2 HZ9.out (by omega) (.slice (some ⟨w2.heap.size, 0, none⟩) 1 1) 1 (entCells e0) rfl HOW.out am L.length mc (rowOf L) rfl (rowOf_length L) HNA.out HSR.out (rowOf_oneCell L) (by unfold maxLen; omega) (by omega) (by simp; omega) ?_; intro v' w3 ho3 hg3))
            have hm3 : mAt w3 w.heap.size v' (e0 :: L) := by
              unfold mAt
              have e1 : (e0 :: L).length = 1 + L.length := by simp; omega
              rw [e1]
              exact ho3
            have hb3 : Below w2.heap.size w2 w3 := ((Below.refl w2.heap.size w2).alloc (Nat.le_refl _) (.cells #[.int .i64 (x1 % 8), .int .u8 x2, .slice (some ⟨wr.heap.size + 1, 0, none⟩) s.size cp] 35)).grown hg3 (by simp) (by simp [Value.ownBlock])
            obtain ⟨am', mc', rfl, hne'⟩ := hm3.shape2
            obtain ⟨g', rfl⟩ := hne' (by simp)
            have hlen1 : (e0 :: L).length = L.length + 1 := by simp
            have htot0 : (tot (e0 :: L) : Int) = (tot L : Int) + s.size := by
              rw [← HE0.out]
              simp [tot]
              omega
            have htk : ∀ j, (tot ((e0 :: L).take j) : Int) ≤ 400 := by
              intro j
              have h1 := tot_append ((e0 :: L).take j) ((e0 :: L).drop j)
              rw [List.take_append_drop] at h1
              omega
            have hfull : (e0 :: L).take (L.length + 1) = e0 :: L := List.take_of_length_le (by simp)
            have hcell : ∀ j, (hj : j < (e0 :: L).length) → w3.cell? ⟨g', j * 3 + 2, none⟩ = some (.slice (some ⟨(e0 :: L)[j].xb, 0, none⟩) (e0 :: L)[j].bs.length (e0 :: L)[j].cap) := by
              intro j hj
              have h1 := hm3.cell j hj 2 (by omega)
              simpa [entCells] using h1
            have hbe1 : ∀ x ∈ e0 :: L, w.heap.size ≤ x.eb := by
              intro x hx
              rcases List.mem_cons.1 hx with h1 | h1
              · rw [h1, ← HE0.out]
                simp only
                omega
              · exact hbe x h1
            have hmc : L.length + 1 ≤ mc' := by have := hm3.cap; rw [hlen1] at this; exact this
            have HM3 := hid hm3
            have HB3 := hid hb3
            have HFU := hid hfull
            have HTO := hid htot0
            have HST := hid hst2
            have HL1 := hid hlen1
            have HHI := hid (HI3.out cp (0, 0))
            generalize (e0 :: L) = L1 at *
            rw [HL1.out]
            clear hm3 hb3 hfull htot0 hst2 hlen1 HI3 HF HE0 hne' HSR HNA HNE HOW hMA hg3 ho3 hu2
            go_loop [7, 8] (fun m size => ∃ j : Nat, j ≤ L.length + 1 ∧ m = .slice (some ⟨g', 0, none⟩) j mc' ∧ size = .int .i64 (tot (L1.take j)) ∧ ∀ i, j < i → i ≤ L.length + 1 → a0 < (tot (L1.take i) : Int)) (fun m _ => lenOfV m)
            case atStart => exact ⟨L.length + 1, Nat.le_refl _, rfl, by rw [HFU.out, HTO.out], fun i h1 h2 => by omega⟩
            case round =>
              obtain ⟨j, hj, rfl, rfl, hjg⟩ := hrel
              have htj := htk j
              by_cases hc : a0 < (tot (L1.take j) : Int)
              · have hj0 : 0 < j := by
                  rcases Nat.eq_zero_or_pos j with h0 | h0
                  · subst h0; simp [tot] at hc; omega
                  · exact h0
                obtain ⟨j', rfl⟩ : ∃ j', j = j' + 1 := ⟨j - 1, by omega⟩
                have hjL : j' < L1.length := by have := HL1.out; omega
                have hck := hcell j' hjL
                have hts : (tot (L1.take (j' + 1)) : Int) = (tot (L1.take j') : Int) + L1[j'].bs.length := by
                  rw [List.take_succ_eq_append_getElem hjL, tot_append]
                  simp [tot]
                have hjg' : ∀ i, j' < i → i ≤ L.length + 1 → a0 < (tot (L1.take i) : Int) := by
                  intro i h1 h2
                  by_cases h3 : i = j' + 1
                  · subst h3; exact hc
                  · exact hjg i (by omega) h2
                have HJG := hid hjg'
                rw [hts] at hc htj ⊢
                have hc' : decide (a0 < (tot (L1.take j') : Int) + L1[j'].bs.length) = true := by simpa using hc
                generalize L1[j'] = x at *
                clear hjg hjg' hts hcell htk hmj
                go_wp2
                exact ⟨⟨j', by omega, rfl, rfl, HJG.out⟩, by simp [lenOfV]⟩
              · have hc' : decide (a0 < (tot (L1.take j) : Int)) = false := by simpa using hc
                have hmj' : m = j := evict_one hmN hj htm hmj (by omega) hjg
                subst hmj'
                have hInv : Inv w w3 (w.heap.size + 2) w.heap.size (w.heap.size + 1) a0 (L1.take m) (.slice (some ⟨g', 0, none⟩) m mc') (k + 1) := by
                  have hh := HHI.out
                  refine ⟨HST.out.kept HB3.out.block, HM3.out.take m (by have := HL1.out; omega), hB2.trans (HB3.out.mono hB2.size), Or.inr htm, ?_, hh.bc, hh.bl, hh.bm, fun x hx => hbe1 x (List.mem_of_mem_take hx)⟩
                  rw [List.length_take]
                  omega
                have HV := hid hInv
                clear hInv hjg hcell htk hmj
                go_wp2
                exact ⟨⟨k + 1, L1.take m, by omega, by go_num, rfl, HV.out⟩, by simp [intOf]; omega⟩
    · obtain ⟨am, mc, rfl, hne⟩ := hI.m.shape2
      have hst := hI.st
      have hma := hI.m
      have hB := hI.below
      obtain ⟨es, ck, hm, hF⟩ := hst.st.map
      have c3 := hst.cache.c3
      have c4 := hst.cache.c4
      have c5 := hst.cache.c5
      have hml := len_map wr hm
      have hsz : es.size = L.length := by rw [hF.size]; simp
      rw [hsz] at hml
      have HLn := hid (lenL_any w.heap.size L.length wr hst.st.len)
      have HFr := hid hst.st.front
      have hLk : (L.length : Int) ≤ 300 := by have := hI.len; omega
      have HI := hid hI
      clear hI hsz
      have hs1 : ((tot L : Int) != (tot L : Int)) = false := by simp
      have hs2 : ((L.length : Int) != (L.length : Int)) = false := by simp
      go_wp2_with (first | (go_at_call 11; refine Calls.mono HLn.out ?_; rintro e w1 ⟨rfl, hh⟩; obtain rfl := hh.symm) | (go_at_call 12; refine Calls.mono HFr.out ?_; rintro e w1 ⟨rfl, hh⟩; obtain rfl := hh.symm))
      go_loopw [19, 20] (fun e i wr2 => ∃ (j q : Nat), j ≤ L.length ∧ i = .int .i64 j ∧ e = ptAt L j ∧ wr2 = wr.drewN q) (fun _ i _ => L.length - (intOf i).toNat)
      case atStart => exact ⟨0, 0, Nat.zero_le _, rfl, rfl, rfl⟩
      case round =>
        obtain ⟨j, q, hj, rfl, rfl, rfl⟩ := hrel
        by_cases hjl : j < L.length
        · obtain ⟨g, rfl⟩ := hne (by omega)
          obtain ⟨A, x, B, hL, hA⟩ : ∃ A x B, L = A ++ x :: B ∧ A.length = j := ⟨L.take j, L[j], L.drop (j + 1), split_at L j hjl, by rw [List.length_take]; omega⟩
          have hx : x ∈ L := by rw [hL]; simp
          have hLj : L[j] = x := by simp only [hL, ← hA]; simp
          have hpj : ptAt L j = pt x.eb := by
            have := ptAt_append A (x :: B) 0
            rw [Nat.add_zero, hA, ← hL] at this
            exact this
          have hstV := hst.drewN q
          have hmaV : mAt (wr.drewN q) w.heap.size (.slice (some ⟨g, 0, none⟩) L.length mc) L := hma.kept (fun _ _ => rfl)
          have hmV : isM (wr.drewN q) (w.heap.size + 1) es ck := hm
          have hHV : (wr.drewN q).heap = wr.heap := rfl
          have hDV : Hid (∀ n, (wr.drewN q).drewN n = wr.drewN (q + n)) := fun n => World.drewN_drewN wr q n
          rw [hpj]
          clear hml c3 c4 c5 hm hst hma hHV
          generalize wr.drewN q = V at *
          have hE := hstV.st.el x hx
          have m0 := hmaV.cell j hjl 0 (by omega)
          have m1 := hmaV.cell j hjl 1 (by omega)
          have m2 := hmaV.cell j hjl 2 (by omega)
          rw [hLj] at m0 m1 m2
          simp only [entCells, List.getElem?_cons_zero, List.getElem?_cons_succ, Nat.add_zero] at m0 m1 m2
          have ho : ∀ i, V.cell? ⟨x.ob, i, none⟩ = (#[.int .i64 x.off, .int .u8 x.t, .slice (some ⟨x.xb, 0, none⟩) x.bs.length x.cap] : Array Value)[i]? := by
            intro i
            unfold World.cell?
            simp only [hE.obj]
            rfl
          have o0 := ho 0
          have o1 := ho 1
          have o2 := ho 2
          have e3 := hE.c3
          have hta := ta53ok
          have c5 := hstV.cache.c5
          have hlk := look_hit1 (mb := w.heap.size + 1) (ck := ck) (k := x.off) (b := x.eb) hF (by rw [hL]; simp [keysOf])
          have hbe : ∀ n, Calls Yba.prog 10 #[.slice (some ⟨x.xb, 0, none⟩) x.bs.length x.cap, .slice (some ⟨x.xb, 0, none⟩) x.bs.length x.cap] (V.drewN n) fun e w' => e = .returned (.bool true) ∧ w' = V.drewN n :=
            fun n => bytesEqual_same (V.drewN n) x.xb x.xb x.cap x.cap _ _ x.bs rfl rfl (bytesAt_drewN n hE.bytes) (bytesAt_drewN n hE.bytes)
          have hnx : ∀ n, Calls Yba.prog 13 #[pt x.eb] (V.drewN n) fun e w' => e = .returned (ptAt L (j + 1)) ∧ w' = V.drewN n := fun n => by
            have h1 := (hstV.drewN n).st
            rw [hL] at h1
            have h2 := h1.next
            rw [← hL, hA] at h2
            exact h2
          have n51 := neq51
          have ie := hE.te.isC
          have hb1 : (x.off != x.off) = false := by simp
          have hb2 : (x.t != x.t) = false := by simp
          have HBE := hid hbe
          have HNX := hid hnx
          clear hbe hnx hE hstV hmaV ho hpj hLj hL hA HI HLn HFr
          have hjl' : (j : Int) < (L.length : Int) := by omega
          go_wp2
          go_quiet ((go_at_call 10; exact Calls.quiet_of_same (HBE.out _)))
          go_wp2
          go_quiet (fail)
          go_wp2_with (go_at_call 13; refine Calls.mono (HNX.out _) ?_; rintro e w1 ⟨rfl, hh⟩; obtain rfl := hh.symm)
          exact ⟨⟨j + 1, _, by omega, by go_num, rfl, hDV.out _⟩, by simp [intOf]; omega⟩
        · have hje : j = L.length := by omega
          subst hje
          have hpe : ptAt L L.length = .pointer none := ptAt_len L
          rw [hpe]
          go_wp2
          go_ret
          exact ⟨rfl, ⟨hB.os, hB.tape, hB.output, hB.size, hB.block⟩⟩

set_option maxHeartbeats 1600000 in
set_option maxRecDepth 100000 in
theorem walk_long (a0 : Int) (av : Option Addr) (n cap : Nat) (w : World) (hn : 300 < n) (hm : n ≤ maxLen) :
    Calls Yba.prog 3 #[.int .i8 a0, .slice av n cap] w fun e w' => e = .returned (.bool true) ∧ Below w.heap.size w w' := by
  have hn' : decide (300 < (n : Int)) = true := by simp; omega
  go_enter Yba.func3, Yba.ntmps3
  go_wp2
  go_ret
  exact ⟨rfl, Below.refl _ _⟩
end Go.Proofs.Ybulkcnrs
