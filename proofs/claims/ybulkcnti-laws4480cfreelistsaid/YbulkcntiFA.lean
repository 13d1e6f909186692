import Derived.Test.YbulkcntiChain
namespace Go.Proofs.Ybulkcnti
open Go.RowKit
set_option linter.unusedVariables false
set_option linter.unusedSimpArgs false

theorem first_fit (k : Nat) (z : Nat → Int) (size : Int) : (∀ i, i < k → z i < size) ∨ ∃ i0, i0 < k ∧ ¬ z i0 < size ∧ ∀ i, i < i0 → z i < size := by
  induction k with
  | zero => exact Or.inl fun i h => by omega
  | succ k ih =>
    rcases ih with h | ⟨i0, h1, h2, h3⟩
    · by_cases hk : z k < size
      · exact Or.inl fun i hi => by
          rcases Nat.lt_or_ge i k with h4 | h4
          · exact h i h4
          · have : i = k := by omega
            rw [this]; exact hk
      · exact Or.inr ⟨k, by omega, hk, h⟩
    · exact Or.inr ⟨i0, by omega, h2, h3⟩

/-- The law's frame: the page, its node, the two arrays. -/
structure FA (w0 : World) (b x ob sb : Nat) (f g : Nat → Int) (l : List Int) (W : World) : Prop where
  ts : TS w0 b x 2048 l W
  oc : ∀ j, j < 8 → W.cell? ⟨ob, j, none⟩ = some (.int .i64 (f j))
  sc : ∀ j, j < 8 → W.cell? ⟨sb, j, none⟩ = some (.int .i64 (g j))
  io : isC W ob
  is : isC W sb
  o0 : w0.heap.size ≤ ob
  s0 : w0.heap.size ≤ sb
  ob_b : ¬ ob = b
  sb_b : ¬ sb = b
  ob_x : ¬ ob = x
  sb_x : ¬ sb = x
  ob_sb : ¬ ob = sb

section
variable {w0 W W' : World} {b x ob sb : Nat} {f g : Nat → Int} {l l' : List Int}

theorem FA.read (h : FA w0 b x ob sb f g l W) (hb : Below W.heap.size W W') : FA w0 b x ob sb f g l W' :=
  ⟨h.ts.read hb, fun j hj => (cell_heap (hb.block _ h.io.lt)).trans (h.oc j hj), fun j hj => (cell_heap (hb.block _ h.is.lt)).trans (h.sc j hj), h.io.of_heap (hb.block _ h.io.lt), h.is.of_heap (hb.block _ h.is.lt), h.o0, h.s0, h.ob_b, h.sb_b, h.ob_x, h.sb_x, h.ob_sb⟩
theorem FA.wrote (h : FA w0 b x ob sb f g l W) (ho : Only b W W') (hp : Pg W' b 2048 2048 l') : FA w0 b x ob sb f g l' W' :=
  ⟨h.ts.wrote ho hp, fun j hj => (ho.cell h.io.lt h.ob_b).trans (h.oc j hj), fun j hj => (ho.cell h.is.lt h.sb_b).trans (h.sc j hj), h.io.of_heap (ho.block _ h.io.lt h.ob_b), h.is.of_heap (ho.block _ h.is.lt h.sb_b), h.o0, h.s0, h.ob_b, h.sb_b, h.ob_x, h.sb_x, h.ob_sb⟩
theorem FA.other (h : FA w0 b x ob sb f g l W) {q : Nat} (ho : Only q W W') (hq : w0.heap.size ≤ q) (h1 : ¬ b = q) (h2 : ¬ x = q) (h3 : ¬ ob = q) (h4 : ¬ sb = q) : FA w0 b x ob sb f g l W' :=
  ⟨h.ts.other ho hq h1 h2, fun j hj => (ho.cell h.io.lt h3).trans (h.oc j hj), fun j hj => (ho.cell h.is.lt h4).trans (h.sc j hj), h.io.of_heap (ho.block _ h.io.lt h3), h.is.of_heap (ho.block _ h.is.lt h4), h.o0, h.s0, h.ob_b, h.sb_b, h.ob_x, h.sb_x, h.ob_sb⟩
theorem FA.setB (h : FA w0 b x ob sb f g l W) (o : Nat) (ho : o < 2048) (v : Int) (hv : 0 ≤ v ∧ v ≤ 255) : FA w0 b x ob sb f g (l.set o v) (W.setCell ⟨b, o, none⟩ (.int .u8 v)) :=
  h.wrote ((Only.refl _ _).setCell _ _) ⟨h.ts.pg.buf.set o (by have := h.ts.pg.len; omega) v hv, by rw [List.length_set]; exact h.ts.pg.len, h.ts.pg.fit, h.ts.pg.fitm, h.ts.pg.big, h.ts.pg.small⟩
theorem TS.setOther {n : Nat} (h : TS w0 b x n l W) {q : Nat} (i : Nat) (v : Value) (hq : w0.heap.size ≤ q) (h1 : ¬ q = b) (h2 : ¬ q = x) : TS w0 b x n l (W.setCell ⟨q, i, none⟩ v) :=
  h.other (g := q) ((Only.refl _ _).setCell _ _) hq (fun e => h1 e.symm) (fun e => h2 e.symm)
theorem FA.setO (h : FA w0 b x ob sb f g l W) (i : Nat) (hi : i < 8) (v : Int) : FA w0 b x ob sb (fun j => if j = i then v else f j) g l (W.setCell ⟨ob, i, none⟩ (.int .i64 v)) := by
  refine ⟨h.ts.setOther _ _ h.o0 h.ob_b h.ob_x, fun j hj => ?_, fun j hj => ?_, h.io.setCell _ _, h.is.setCell _ _, h.o0, h.s0, h.ob_b, h.sb_b, h.ob_x, h.sb_x, h.ob_sb⟩
  · by_cases he : j = i
    · subst he
      rw [World.cell?_setCell_same _ _ _ (h.oc j hj), if_pos rfl]
    · rw [sc_off _ _ _ _ _ _ (fun e => he e.symm), if_neg he, h.oc j hj]
  · rw [sc_ne _ _ _ _ _ _ h.ob_sb, h.sc j hj]
theorem FA.setS (h : FA w0 b x ob sb f g l W) (i : Nat) (hi : i < 8) (v : Int) : FA w0 b x ob sb f (fun j => if j = i then v else g j) l (W.setCell ⟨sb, i, none⟩ (.int .i64 v)) := by
  refine ⟨h.ts.setOther _ _ h.s0 h.sb_b h.sb_x, fun j hj => ?_, fun j hj => ?_, h.io.setCell _ _, h.is.setCell _ _, h.o0, h.s0, h.ob_b, h.sb_b, h.ob_x, h.sb_x, h.ob_sb⟩
  · rw [sc_ne _ _ _ _ _ _ (fun e => h.ob_sb e.symm), h.oc j hj]
  · by_cases he : j = i
    · subst he
      rw [World.cell?_setCell_same _ _ _ (h.sc j hj), if_pos rfl]
    · rw [sc_off _ _ _ _ _ _ (fun e => he e.symm), if_neg he, h.sc j hj]
theorem FA.start {n : Nat} (h : TS w0 b x 2048 l W) : FA w0 b x W.heap.size (W.heap.size + 1) (fun _ => 0) (fun _ => 0) l
    ((W.alloc (.cells #[.int .i64 0, .int .i64 0, .int .i64 0, .int .i64 0, .int .i64 0, .int .i64 0, .int .i64 0, .int .i64 0] 34)).alloc (.cells #[.int .i64 0, .int .i64 0, .int .i64 0, .int .i64 0, .int .i64 0, .int .i64 0, .int .i64 0, .int .i64 0] 34)) := by
  have bl := h.pg.buf.ic.lt
  have xl := h.xlt
  have hsz := h.below.size
  obtain ⟨W1, hW1⟩ : ∃ V, V = W.alloc (.cells #[.int .i64 0, .int .i64 0, .int .i64 0, .int .i64 0, .int .i64 0, .int .i64 0, .int .i64 0, .int .i64 0] 34) := ⟨_, rfl⟩
  have b1 : Below W.heap.size W W1 := by rw [hW1]; exact (Below.refl _ _).alloc (Nat.le_refl _) _
  have s1 : W1.heap.size = W.heap.size + 1 := by rw [hW1]; simp
  have e1 : W1.heap[W.heap.size]? = some (.cells #[.int .i64 0, .int .i64 0, .int .i64 0, .int .i64 0, .int .i64 0, .int .i64 0, .int .i64 0, .int .i64 0] 34 (0, 0)) := by
    rw [hW1]; show (W.heap.push _)[W.heap.size]? = _; simp
  rw [← hW1]
  obtain ⟨W2, hW2⟩ : ∃ V, V = W1.alloc (.cells #[.int .i64 0, .int .i64 0, .int .i64 0, .int .i64 0, .int .i64 0, .int .i64 0, .int .i64 0, .int .i64 0] 34) := ⟨_, rfl⟩
  have b2 : Below W1.heap.size W1 W2 := by rw [hW2]; exact (Below.refl _ _).alloc (Nat.le_refl _) _
  have e2 : W2.heap[W.heap.size + 1]? = some (.cells #[.int .i64 0, .int .i64 0, .int .i64 0, .int .i64 0, .int .i64 0, .int .i64 0, .int .i64 0, .int .i64 0] 34 (0, 0)) := by
    rw [hW2, ← s1]; show (W1.heap.push _)[W1.heap.size]? = _; simp
  have e3 : W2.heap[W.heap.size]? = some (.cells #[.int .i64 0, .int .i64 0, .int .i64 0, .int .i64 0, .int .i64 0, .int .i64 0, .int .i64 0, .int .i64 0] 34 (0, 0)) := by
    rw [b2.block _ (by omega)]; exact e1
  rw [← hW2]
  refine ⟨(h.read b1).read b2, fun j hj => ?_, fun j hj => ?_, ⟨_, _, e3⟩, ⟨_, _, e2⟩, hsz, by omega, by omega, by omega, by omega, by omega, by omega⟩
  · unfold World.cell?
    simp only [e3]
    match j, hj with
    | 0, _ => rfl
    | 1, _ => rfl
    | 2, _ => rfl
    | 3, _ => rfl
    | 4, _ => rfl
    | 5, _ => rfl
    | 6, _ => rfl
    | 7, _ => rfl
  · unfold World.cell?
    simp only [e2]
    match j, hj with
    | 0, _ => rfl
    | 1, _ => rfl
    | 2, _ => rfl
    | 3, _ => rfl
    | 4, _ => rfl
    | 5, _ => rfl
    | 6, _ => rfl
    | 7, _ => rfl
end

theorem Pg.clear {w : World} {b n cap : Nat} {l : List Int} (h : Pg w b n cap l) (r k c : Nat) (hk : 0 < k) (hr : r + k ≤ n) :
    ∃ w', (∀ ty, (Builtin.clear_ #[23] ty #[.slice (some ⟨b, r, none⟩) k c]).run Yba.prog w = .ok (.tuple #[]) w') ∧ Only b w w' ∧ Pg w' b n cap (clr k l r) := by
  have hl := h.len
  have hb := h.buf.clr k r (by omega)
  exact ⟨_, fun ty => clear_buf ty b r k c l w h.buf hk (by omega), (Only.refl _ _).setCells _ _, ⟨hb, by rw [clr_length]; exact hl, h.fit, h.fitm, h.big, h.small⟩⟩
theorem FA.drew {w0 W : World} {b x ob sb : Nat} {f g : Nat → Int} {l : List Int} (h : FA w0 b x ob sb f g l W) : FA w0 b x ob sb f g l W.drew :=
  h.read (Below.refl _ _).drew

/-- What loop 1 has laid after i records. -/
structure Rec (ko : Nat) (x : Nat → Nat) (i : Nat) (kind : Int) (f g : Nat → Int) (l : List Int) : Prop where
  h0 : l.getD 0 0 = kind
  h12 : get2 l 12 = 2
  h8 : get2 l 8 = 0
  fo : ∀ j, j < i → f j = (atOf ko x j : Int)
  go : ∀ j, j < i → g j = (szOf ko (x j) : Int)
  r1 : ∀ j, j < i → get2 l (atOf ko x j + 1) = 2 + (j : Int)
  r5 : ∀ j, j < i → get2 l (atOf ko x j + 5) = ((x j % 32 : Nat) : Int)
  r7 : ∀ j, j < i → get2 l (atOf ko x j + 7) = ((x j / 8 % 32 : Nat) : Int)

/-- The page with record i's head laid. -/
def headed (ko : Nat) (x : Nat → Nat) (i : Nat) (l : List Int) : List Int :=
  put (put (put (l.set (atOf ko x i) 90) (atOf ko x i + 1) (2 + (i : Int))) (atOf ko x i + 5) ((x i % 32 : Nat) : Int)) (atOf ko x i + 7) ((x i / 8 % 32 : Nat) : Int)

theorem get2_agree {l l' : List Int} {m o : Nat} (h : ∀ q, q < m → l'.getD q 0 = l.getD q 0) (ho : o + 1 < m) : get2 l' o = get2 l o := by
  unfold get2; rw [h o (by omega), h (o + 1) ho]

theorem Rec.next {ko : Nat} {x : Nat → Nat} {i : Nat} {kind : Int} {f g f' g' : Nat → Int} {l l' : List Int} (h : Rec ko x i kind f g l) (hko : ko = 9 ∨ ko = 17) (hi : i < 8) (hl : l.length = 2048)
    (hf : f' = fun j => if j = i then (atOf ko x i : Int) else f j) (hg : g' = fun j => if j = i then (szOf ko (x i) : Int) else g j)
    (ha : ∀ q, q < atOf ko x i + ko → l'.getD q 0 = (headed ko x i l).getD q 0) : Rec ko x (i + 1) kind f' g' l' := by
  have h1 := atOf_lo ko x i
  have h2 := atOf_hi hko x i
  have hlow : ∀ o, o + 1 < atOf ko x i → get2 l' o = get2 l o := by
    intro o ho
    rw [get2_agree ha (by omega)]
    unfold headed
    rw [get2_put_ne _ _ _ _ (by omega), get2_put_ne _ _ _ _ (by omega), get2_put_ne _ _ _ _ (by omega), get2_set_ne _ _ _ _ (by omega) (by omega)]
  refine ⟨?_, by rw [hlow 12 (by omega)]; exact h.h12, by rw [hlow 8 (by omega)]; exact h.h8, fun j hj => ?_, fun j hj => ?_, fun j hj => ?_, fun j hj => ?_, fun j hj => ?_⟩
  · rw [ha 0 (by omega)]
    unfold headed
    rw [getD_put_ne _ _ _ _ (by omega) (by omega), getD_put_ne _ _ _ _ (by omega) (by omega), getD_put_ne _ _ _ _ (by omega) (by omega), getD_set_ne _ _ _ _ (by omega)]
    exact h.h0
  · rw [hf]
    show (if j = i then _ else _) = _
    by_cases he : j = i
    · rw [if_pos he, he]
    · rw [if_neg he]; exact h.fo j (by omega)
  · rw [hg]
    show (if j = i then _ else _) = _
    by_cases he : j = i
    · rw [if_pos he, he]
    · rw [if_neg he]; exact h.go j (by omega)
  · by_cases he : j = i
    · subst he
      rw [get2_agree ha (by omega)]
      unfold headed
      rw [get2_put_ne _ _ _ _ (by omega), get2_put_ne _ _ _ _ (by omega), get2_put _ _ _ (by simp [put_length, hl]; omega)]
    · have := atOf_gap hko x (show j < i by omega)
      rw [hlow _ (by omega)]; exact h.r1 j (by omega)
  · by_cases he : j = i
    · subst he
      rw [get2_agree ha (by omega)]
      unfold headed
      rw [get2_put_ne _ _ _ _ (by omega), get2_put _ _ _ (by simp [put_length, hl]; omega)]
    · have := atOf_gap hko x (show j < i by omega)
      rw [hlow _ (by omega)]; exact h.r5 j (by omega)
  · by_cases he : j = i
    · subst he
      rw [get2_agree ha (by omega)]
      unfold headed
      rw [get2_put _ _ _ (by simp [put_length, hl]; omega)]
    · have := atOf_gap hko x (show j < i by omega)
      rw [hlow _ (by omega)]; exact h.r7 j (by omega)

/-- Loop 3: the chain laid up to record i. -/
structure Lnk (ko : Nat) (x : Nat → Nat) (k i : Nat) (kind : Int) (f g : Nat → Int) (l : List Int) : Prop where
  rc : Rec ko x k kind f g l
  r3 : ∀ j, j < i → get2 l (atOf ko x j + 3) = (nxOf ko x k j : Int)

theorem Lnk.next {ko : Nat} {x : Nat → Nat} {k i : Nat} {kind : Int} {f g : Nat → Int} {l : List Int} (h : Lnk ko x k i kind f g l) (hko : ko = 9 ∨ ko = 17) (hk : k ≤ 8) (hi : i < k) (hl : l.length = 2048) :
    Lnk ko x k (i + 1) kind f g (put l (atOf ko x i + 3) (nxOf ko x k i)) := by
  have h1 := atOf_lo ko x i
  have h2 := atOf_hi hko x i
  have sep : ∀ j, j < k → j = i ∨ atOf ko x j + 9 ≤ atOf ko x i ∨ atOf ko x i + 9 ≤ atOf ko x j := by
    intro j hj
    rcases Nat.lt_trichotomy j i with h3 | h3 | h3
    · exact Or.inr (Or.inl (atOf_gap hko x h3))
    · exact Or.inl h3
    · exact Or.inr (Or.inr (atOf_gap hko x h3))
  refine ⟨⟨?_, ?_, ?_, h.rc.fo, h.rc.go, fun j hj => ?_, fun j hj => ?_, fun j hj => ?_⟩, fun j hj => ?_⟩
  · rw [getD_put_ne _ _ _ _ (by omega) (by omega)]; exact h.rc.h0
  · rw [get2_put_ne _ _ _ _ (by omega)]; exact h.rc.h12
  · rw [get2_put_ne _ _ _ _ (by omega)]; exact h.rc.h8
  · rcases sep j hj with h3 | h3 | h3
    · subst h3; rw [get2_put_ne _ _ _ _ (by omega)]; exact h.rc.r1 j hj
    · rw [get2_put_ne _ _ _ _ (by omega)]; exact h.rc.r1 j hj
    · rw [get2_put_ne _ _ _ _ (by omega)]; exact h.rc.r1 j hj
  · rcases sep j hj with h3 | h3 | h3
    · subst h3; rw [get2_put_ne _ _ _ _ (by omega)]; exact h.rc.r5 j hj
    · rw [get2_put_ne _ _ _ _ (by omega)]; exact h.rc.r5 j hj
    · rw [get2_put_ne _ _ _ _ (by omega)]; exact h.rc.r5 j hj
  · rcases sep j hj with h3 | h3 | h3
    · subst h3; rw [get2_put_ne _ _ _ _ (by omega)]; exact h.rc.r7 j hj
    · rw [get2_put_ne _ _ _ _ (by omega)]; exact h.rc.r7 j hj
    · rw [get2_put_ne _ _ _ _ (by omega)]; exact h.rc.r7 j hj
  · by_cases he : j = i
    · subst he; rw [get2_put _ _ _ (by omega)]
    · have := atOf_gap hko x (show j < i by omega)
      rw [get2_put_ne _ _ _ _ (by omega)]; exact h.r3 j (by omega)

/-- The last writes to the page's head. -/
def topped (ko : Nat) (x : Nat → Nat) (k : Nat) (l : List Int) : List Int := put (put (put l 6 (atOf ko x k)) 4 (2 + (k : Int))) 10 ((atOf ko x k : Int) - 32)

theorem Lnk.laid {ko : Nat} {x : Nat → Nat} {k : Nat} {kind : Int} {f g : Nat → Int} {l l' : List Int} (h : Lnk ko x k k kind f g l) (hko : ko = 9 ∨ ko = 17) (hk : k ≤ 8) (hl : l.length = 2048) (hkind : (if kind = 1 then 17 else 9 : Int) = (ko : Int))
    (hl' : l' = if 0 < k then put l 8 32 else l) : Laid ko x k (topped ko x k l') := by
  have hlen : l'.length = 2048 := by rw [hl']; split; rw [put_length]; exact hl; exact hl
  have hz : l'.getD 0 0 = kind := by rw [hl']; split; rw [getD_put_ne _ _ _ _ (by omega) (by omega)]; exact h.rc.h0; exact h.rc.h0
  have h12 : get2 l' 12 = 2 := by rw [hl']; split; rw [get2_put_ne _ _ _ _ (by omega)]; exact h.rc.h12; exact h.rc.h12
  have h8 : get2 l' 8 = ((if 0 < k then 32 else 0 : Nat) : Int) := by
    rw [hl']
    by_cases hk0 : 0 < k
    · rw [if_pos hk0, if_pos hk0, get2_put _ _ _ (by omega)]; rfl
    · rw [if_neg hk0, if_neg hk0]; exact h.rc.h8
  have hge : ∀ o, 32 ≤ o → get2 l' o = get2 l o := by
    intro o ho
    rw [hl']
    split
    · rw [get2_put_ne _ _ _ _ (by omega)]
    · rfl
  have hto : ∀ o, 12 ≤ o → get2 (topped ko x k l') o = get2 l' o := by
    intro o ho
    unfold topped
    rw [get2_put_ne _ _ _ _ (by omega), get2_put_ne _ _ _ _ (by omega), get2_put_ne _ _ _ _ (by omega)]
  refine ⟨?_, ?_, ?_, ?_, ?_, ?_, ?_, fun j hj => ?_, fun j hj => ?_, fun j hj => ?_, fun j hj => ?_⟩
  · unfold topped; simp only [put_length]; exact hlen
  · unfold topped
    rw [getD_put_ne _ _ _ _ (by omega) (by omega), getD_put_ne _ _ _ _ (by omega) (by omega), getD_put_ne _ _ _ _ (by omega) (by omega), hz]
    exact hkind
  · rw [hto 12 (by omega)]; exact h12
  · unfold topped
    rw [get2_put_ne _ _ _ _ (by omega), get2_put _ _ _ (by simp only [put_length]; omega)]
  · unfold topped
    rw [get2_put_ne _ _ _ _ (by omega), get2_put_ne _ _ _ _ (by omega), get2_put _ _ _ (by omega)]
  · unfold topped
    rw [get2_put_ne _ _ _ _ (by omega), get2_put_ne _ _ _ _ (by omega), get2_put_ne _ _ _ _ (by omega)]
    exact h8
  · unfold topped
    rw [get2_put _ _ _ (by simp only [put_length]; omega)]
  · have := atOf_lo ko x j
    rw [hto _ (by omega), hge _ (by omega)]; exact h.rc.r1 j hj
  · have := atOf_lo ko x j
    rw [hto _ (by omega), hge _ (by omega)]; exact h.r3 j hj
  · have := atOf_lo ko x j
    rw [hto _ (by omega), hge _ (by omega)]; exact h.rc.r5 j hj
  · have := atOf_lo ko x j
    rw [hto _ (by omega), hge _ (by omega)]; exact h.rc.r7 j hj
end Go.Proofs.Ybulkcnti
