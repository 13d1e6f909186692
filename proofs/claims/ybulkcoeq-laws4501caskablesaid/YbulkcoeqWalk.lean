import Derived.Test.YbulkcoeqObj
namespace Go.Proofs.Ybulkcoeq
open Go.RowKit
set_option linter.unusedVariables false
set_option linter.unusedSimpArgs false

/-- The row while it is being filled. -/
def pr (S : Nat → Nat) (i k : Nat) : Value := if k < i then ptr (S k) else .pointer none
theorem row0 (S : Nat → Nat) (n : Nat) : (madeCells (Value.pointer none).cells (n * 1)).toList = (List.range n).map (pr S 0) := by
  have e : (Value.pointer none).cells = #[Value.pointer none] := rfl
  rw [e, Nat.mul_one, toList_madeCells_one]
  apply List.ext_getElem
  · simp
  · intro k h1 h2
    simp [pr]
theorem row_set (S : Nat → Nat) (n i b : Nat) (hi : i < n) : ((List.range n).map (pr S i)).set i (ptr b) = (List.range n).map (pr (fun k => if k = i then b else S k) (i + 1)) := by
  apply List.ext_getElem
  · simp
  · intro k h1 h2
    by_cases he : i = k
    · subst he
      simp [pr]
    · have : ¬ k = i := fun e => he e.symm
      simp only [List.getElem_set, if_neg he, List.getElem_map, List.getElem_range, pr]
      by_cases hk : k < i
      · rw [if_pos hk, if_pos (by omega), if_neg this]
      · rw [if_neg hk, if_neg (by omega)]
theorem row_full (S : Nat → Nat) (n : Nat) : (List.range n).map (pr S n) = (List.range n).map fun k => ptr (S k) := by
  apply List.map_congr_left
  intro k hk
  unfold pr
  rw [if_pos (by simpa using hk)]

structure Sn (w0 : World) (n i : Nat) (S : Nat → Nat) (f : Nat → Int) (sb : Nat) (v : World) : Prop where
  bel : Below w0.heap.size w0 v
  row : v.ownsRow w0.heap.size 24 1 (.slice (some ⟨sb, 0, none⟩) n n) n ((List.range n).map (pr S i))
  first : ∀ k, k < i → v.cell? ⟨S k, 6, none⟩ = some (.int .i64 (f k))
  own : ∀ k, k < i → v.cell? ⟨S k, 5, none⟩ = some (.pointer none)
  sC : ∀ k, k < i → isC v (S k)
  inj : ∀ a b, a < i → b < i → S a = S b → a = b
  gt : ∀ k, k < i → ¬ sb = S k
theorem Sn.next {w0 v : World} {n i : Nat} {S : Nat → Nat} {f : Nat → Int} {sb : Nat} {cs : Array Value} (h : Sn w0 n i S f sb v) (hi : i < n) (h6 : cs[6]? = some (.int .i64 (f i))) (h5 : cs[5]? = some (.pointer none)) :
    Sn w0 n (i + 1) (fun k => if k = i then v.heap.size else S k) f sb ((v.alloc (.cells cs 44)).setCell ⟨sb, i, none⟩ (ptr v.heap.size)) := by
  have hz := h.bel.size
  obtain ⟨hsb0, hsb⟩ := h.row.lt sb rfl
  have hst := ((h.row.alloc (.cells cs 44)).stored i (ptr v.heap.size)).1
  rw [row_set S n i v.heap.size hi] at hst
  have ha : Below v.heap.size v (v.alloc (.cells cs 44)) := (Below.refl _ _).alloc (Nat.le_refl _) _
  have hnew : ∀ j, (v.alloc (.cells cs 44)).cell? ⟨v.heap.size, j, none⟩ = cs[j]? := fun j => by
    unfold World.cell?
    show (match (v.heap.push (Obj.cells cs 44))[v.heap.size]? with | some (.cells c _ _) => c[j]? | _ => _) = _
    simp
  have keep : ∀ {k j : Nat} {u : Value}, k < v.heap.size → ¬ sb = k → v.cell? ⟨k, j, none⟩ = some u → ((v.alloc (.cells cs 44)).setCell ⟨sb, i, none⟩ (ptr v.heap.size)).cell? ⟨k, j, none⟩ = some u := fun hk hn hc => by
    rw [sc_ne _ _ _ _ _ _ hn, ha.cell hk]; exact hc
  refine ⟨(h.bel.alloc hz _).setCell (p := ⟨sb, i, none⟩) hsb0 _, hst, fun k hk => ?_, fun k hk => ?_, fun k hk => ?_, fun a b h1 h2 e => ?_, fun k hk => ?_⟩
  · by_cases he : k = i
    · subst he
      simp only [if_true]
      rw [sc_ne _ _ _ _ _ _ (by omega), hnew]; exact h6
    · simp only [if_neg he]
      exact keep (h.sC k (by omega)).lt (h.gt k (by omega)) (h.first k (by omega))
  · by_cases he : k = i
    · subst he
      simp only [if_true]
      rw [sc_ne _ _ _ _ _ _ (by omega), hnew]; exact h5
    · simp only [if_neg he]
      exact keep (h.sC k (by omega)).lt (h.gt k (by omega)) (h.own k (by omega))
  · by_cases he : k = i
    · subst he
      simp only [if_true]
      refine isC.setCell ?_ _ _
      exact ⟨cs, 44, by show (v.heap.push _)[v.heap.size]? = _; simp⟩
    · simp only [if_neg he]
      exact ((h.sC k (by omega)).of_heap (ha.block _ (h.sC k (by omega)).lt)).setCell _ _
  · by_cases ea : a = i
    · by_cases eb : b = i
      · omega
      · simp only [if_pos ea, if_neg eb] at e
        have := (h.sC b (by omega)).lt
        omega
    · by_cases eb : b = i
      · simp only [if_neg ea, if_pos eb] at e
        have := (h.sC a (by omega)).lt
        omega
      · simp only [if_neg ea, if_neg eb] at e
        exact h.inj a b (by omega) (by omega) e
  · by_cases he : k = i
    · simp only [if_pos he]; omega
    · simp only [if_neg he]; exact h.gt k (by omega)

structure Tn (w0 : World) (t i : Nat) (Tb : Nat → Nat) (tb : Nat) (v : World) : Prop where
  bel : Below w0.heap.size w0 v
  row : v.ownsRow w0.heap.size 24 1 (.slice (some ⟨tb, 0, none⟩) t t) t ((List.range t).map (pr Tb i))
  tC : ∀ k, k < i → isC v (Tb k)
theorem Tn.next {w0 v : World} {t i : Nat} {Tb : Nat → Nat} {tb : Nat} {cs : Array Value} (h : Tn w0 t i Tb tb v) (hi : i < t) :
    Tn w0 t (i + 1) (fun k => if k = i then v.heap.size else Tb k) tb ((v.alloc (.cells cs 44)).setCell ⟨tb, i, none⟩ (ptr v.heap.size)) := by
  have hz := h.bel.size
  obtain ⟨hsb0, hsb⟩ := h.row.lt tb rfl
  have hst := ((h.row.alloc (.cells cs 44)).stored i (ptr v.heap.size)).1
  rw [row_set Tb t i v.heap.size hi] at hst
  have ha : Below v.heap.size v (v.alloc (.cells cs 44)) := (Below.refl _ _).alloc (Nat.le_refl _) _
  refine ⟨(h.bel.alloc hz _).setCell (p := ⟨tb, i, none⟩) hsb0 _, hst, fun k hk => ?_⟩
  by_cases he : k = i
  · subst he
    simp only [if_true]
    refine isC.setCell ?_ _ _
    exact ⟨cs, 44, by show (v.heap.push _)[v.heap.size]? = _; simp⟩
  · simp only [if_neg he]
    exact ((h.tC k (by omega)).of_heap (ha.block _ (h.tC k (by omega)).lt)).setCell _ _

set_option maxRecDepth 100000 in
set_option maxHeartbeats 16000000 in
theorem ask_walk (pa : Option Addr) (n capA tu : Nat) (shb : Bool) (f : Nat → Int) (w : World) (hnm : n ≤ 9223372036854775807) (htu : tu ≤ 255)
    (hA : 0 < n → ∃ A, pa = some A ∧ A.block < w.heap.size ∧ ∀ i, i < n → w.cell? (A.add i) = some (.int .i64 (f i))) :
    Calls Yba.prog 3 #[.slice pa n capA, .int .u8 (tu : Int), .bool shb] w fun e w' => e = .returned (.bool true) ∧ Below w.heap.size w w' := by
  obtain ⟨i0, hii, hz0, hz1, hz2⟩ := info_parts info24
  have HA := hid hA
  clear hA
  by_cases hbig : 1024 < n
  · have hd : decide ((1024 : Int) < (n : Int)) = true := by simp; omega
    go_enter Yba.func3, Yba.ntmps3
    go_wp2
    go_ret
    exact ⟨rfl, Below.refl _ _⟩
  · have hd : decide ((1024 : Int) < (n : Int)) = false := by simp; omega
    have hn : n ≤ 1024 := by omega
    obtain ⟨t, ht⟩ : ∃ t : Nat, t = tu % 9 := ⟨_, rfl⟩
    have htI : (tu : Int) % 9 = (t : Int) := by omega
    have ht8 : t ≤ 8 := by omega
    have hby : i0.bytes * n ≤ 281474976710656 := by rw [hz2]; omega
    have hbt : i0.bytes * t ≤ 281474976710656 := by rw [hz2]; omega
    clear ht
    go_enter Yba.func3, Yba.ntmps3
    go_wp2_with (first | (at_make; go_must (refine wpList_make_full _ rfl (.tmp 33) (.tmp 33) 23 rfl w.heap.size 24 i0 (.pointer none) 1 Yba.underlying23 hii hz0 hz1 .i64 .i64 _ _ n rfl rfl rfl rfl hby (by unfold maxLen; omega) (Nat.le_refl _) ?_); go_must (intro w1 ho1 hg1); go_must (rw [row0 (fun k => k) n] at ho1); go_must (have hb1 : Below w.heap.size w w1 := (Below.refl _ _).grown hg1 (Nat.le_refl _) (fun k hk => by cases hk)); have HS0 : Hid (Sn w n 0 (fun k => k) f w.heap.size w1) := hid ⟨hb1, ho1, fun k h => absurd h (Nat.not_lt_zero _), fun k h => absurd h (Nat.not_lt_zero _), fun k h => absurd h (Nat.not_lt_zero _), fun a b h => absurd h (Nat.not_lt_zero _), fun k h => absurd h (Nat.not_lt_zero _)⟩; clear ho1 hg1 hb1))
    go_loopw [37] (fun s37 v => ∃ (i : Nat) (S : Nat → Nat), s37 = .int .i64 (i : Int) ∧ i ≤ n ∧ Sn w n i S f w.heap.size v) (fun s37 _ => n - (intOf s37).toNat)
    case atStart => exact ⟨0, _, rfl, Nat.zero_le _, HS0.out⟩
    case round =>
      clear HS0
      obtain ⟨i, S, rfl, hi, hSn⟩ := hrel
      have HSN := hid hSn
      have hlt0 : w.heap.size < wr.heap.size := (hSn.row.lt w.heap.size rfl).2
      have hne0 : ¬ w.heap.size = wr.heap.size := by omega
      by_cases hlt : i < n
      · have hdl : decide ((i : Int) < (n : Int)) = true := by simp; omega
        obtain ⟨A, rfl, hAb, hAc⟩ := HA.out (by omega)
        have cA : wr.cell? (A.add i) = some (.int .i64 (f i)) := (hSn.bel.cell (p := A.add i) (by rw [show (A.add i).block = A.block by unfold Addr.add; split <;> rfl]; exact hAb)).trans (hAc i hlt)
        have cS : wr.cell? ⟨w.heap.size, i, none⟩ = some (.pointer none) := by
          rw [World.ownsRow.cellAt hSn.row i (by omega)]
          simp [hlt, pr]
        have zS := hSn.row.frozenAt i
        have hiN : (i : Int) < (n : Int) := by omega
        obtain ⟨fi, hfi⟩ : ∃ fi, fi = f i := ⟨_, rfl⟩
        rw [← hfi] at cA
        have HFI := hid hfi
        clear hSn hAc hfi
        go_wp2
        have hnx := fun cs h6 h5 => HSN.out.next (cs := cs) hlt h6 h5
        rw [← HFI.out] at hnx
        simp only [World.setCell_alloc_past _ _ _ _ hlt0] at hnx
        refine ⟨⟨i + 1, _, congrArg _ (by omega), by omega, hnx _ rfl rfl⟩, ?_⟩
        show n - ((i : Int) + 1).toNat < n - ((i : Int)).toNat
        omega
      · have hdl : decide ((i : Int) < (n : Int)) = false := by simp; omega
        obtain rfl : i = n := by omega
        have hdl2 : decide ((i : Int) < (i : Int)) = false := by simp
        clear hSn
        go_upto_block 2 with (first | (at_make; go_must (refine wpList_make_full _ rfl (.tmp 51) (.tmp 51) 23 rfl wr.heap.size 24 i0 (.pointer none) 1 Yba.underlying23 hii hz0 hz1 .i64 .i64 _ _ t rfl rfl rfl rfl hbt (by unfold maxLen; omega) (Nat.le_refl _) ?_); go_must (intro w3 ho3 hg3); go_must (rw [row0 (fun k => k) t] at ho3); go_must (have hb3 : Below wr.heap.size wr w3 := (Below.refl _ _).grown hg3 (Nat.le_refl _) (fun k hk => by cases hk)); have HT0 : Hid (Tn wr t 0 (fun k => k) wr.heap.size w3) := hid ⟨hb3, ho3, fun k h => absurd h (Nat.not_lt_zero _)⟩; clear ho3 hg3 hb3))
        go_cut [55] (fun s55 v => ∃ Tb : Nat → Nat, Tn wr t t Tb wr.heap.size v)
        case first =>
          generalize hwq : wr = wq at *
          clear hwq
          go_wp2_with fail
          go_loopw [55] (fun s55 v => ∃ (j : Nat) (Tb : Nat → Nat), s55 = .int .i64 (j : Int) ∧ j ≤ t ∧ Tn wq t j Tb wq.heap.size v) (fun s55 _ => t - (intOf s55).toNat)
          case atStart => exact ⟨0, _, rfl, Nat.zero_le _, HT0.out⟩
          case round =>
            clear HT0
            obtain ⟨j, Tb, rfl, hj, hTn⟩ := hrel
            have HTN := hid hTn
            have hlt1 : wq.heap.size < wr.heap.size := (hTn.row.lt wq.heap.size rfl).2
            have hne1 : ¬ wq.heap.size = wr.heap.size := by omega
            by_cases hjt : j < t
            · have hdj : decide ((j : Int) < (t : Int)) = true := by simp; omega
              have cT : wr.cell? ⟨wq.heap.size, j, none⟩ = some (.pointer none) := by
                rw [World.ownsRow.cellAt hTn.row j (by omega)]
                simp [hjt, pr]
              have zT := hTn.row.frozenAt j
              have hjN : (j : Int) < (t : Int) := by omega
              clear hTn
              go_wp2
              have hnx := fun cs => HTN.out.next (cs := cs) hjt
              simp only [World.setCell_alloc_past _ _ _ _ hlt1] at hnx
              refine ⟨⟨j + 1, _, congrArg _ (by omega), by omega, hnx _⟩, ?_⟩
              show t - ((j : Int) + 1).toNat < t - ((j : Int)).toNat
              omega
            · have hdj : decide ((j : Int) < (t : Int)) = false := by simp; omega
              obtain rfl : j = t := by omega
              have hdj2 : decide ((j : Int) < (j : Int)) = false := by simp
              clear hTn
              go_wp2
              go_meet
              exact ⟨Tb, HTN.out⟩
        case rest =>
          generalize wc = wx at *
          obtain ⟨Tb, hTn⟩ := hcut
          have hSn := HSN.out
          have hB : Below w.heap.size w wx := hSn.bel.trans (hTn.bel.mono hSn.bel.size)
          have c : ∀ {k j : Nat} {u : Value}, wr.cell? ⟨k, j, none⟩ = some u → wx.cell? ⟨k, j, none⟩ = some u := fun hc => (hTn.bel.cell (cell_lt hc)).trans hc
          have hQ : Hq i t S Tb f w.heap.size wr.heap.size wx := ⟨fun k hk => c (hSn.first k hk), fun k hk => c (hSn.own k hk), fun k hk => (hSn.sC k hk).of_heap (hTn.bel.block _ (hSn.sC k hk).lt), hTn.tC, hSn.inj, by rw [← row_full]; exact own_base (own_below hSn.row hTn.bel (Nat.le_refl _)), by rw [← row_full]; exact own_base hTn.row⟩
          rename ∀ (a : Act) (w : World), Code.wp Yba.prog _ _ a w → _ => hK
          refine hK _ _ ?_
          exact ask_obj ht8 hn hB hQ HA.out
end Go.Proofs.Ybulkcoeq
