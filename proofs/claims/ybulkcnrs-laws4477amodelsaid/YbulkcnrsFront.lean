import Derived.Test.YbulkcnrsSlice
import Derived.Test.YbulkcnrsAdd
namespace Go.Proofs.Ybulkcnrs
open Go.RowKit
set_option linter.unusedVariables false
set_option linter.unusedSimpArgs false

theorem Yba.info35 : (Yba.prog.info? 35).map (fun i => (i.zero, i.size, i.bytes)) = some (some (.agg #[.int .i64 0, .int .u8 0, .slice none 0 0]), 3, 40) := by kernel_rfl

theorem cell_grown {w w' : World} {row : Option Nat} {g j : Nat} (hg : w.grownBy w' row) (hlt : g < w.heap.size) (hne : some g ≠ row) : w'.cell? ⟨g, j, none⟩ = w.cell? ⟨g, j, none⟩ :=
  cell_heap (hg.block g hlt hne)

theorem addr_add (g o j : Nat) : (⟨g, o, none⟩ : Addr).add j = ⟨g, o + j, none⟩ := by unfold Addr.add; split <;> simp_all

theorem new_cells (w : World) (l : List Value) (t : TypeId) (j : Nat) (u : Value) (hj : l[j]? = some u) : (w.alloc (.cells l.toArray t)).cell? ((⟨w.heap.size, 0, none⟩ : Addr).add j) = some u := by
  rw [addr_add, Nat.zero_add, World.cell?_alloc_new]
  simpa using hj

theorem tail_cells {w : World} {g a cap N : Nat} {l : List Value} (hl : l.length = (N - a) * 3) (hcap : N ≤ cap) (hr : ∀ j u, l[j]? = some u → w.cell? ⟨g, a * 3 + j, none⟩ = some u) :
    ∀ ad : Addr, (if cap = a then some (⟨g, 0, none⟩ : Addr) else some ⟨g, a * 3, none⟩) = some ad → ∀ j u, l[j]? = some u → w.cell? (ad.add j) = some u := by
  intro ad had j u hj
  have hjl := (List.getElem?_eq_some_iff.1 hj).1
  split at had
  · exfalso
    rw [hl] at hjl
    omega
  · simp only [Option.some.injEq] at had
    subst had
    rw [addr_add]
    exact hr j u hj

theorem rowOf_oneCell : ∀ (L : List Ent) (u : Value), u ∈ rowOf L → u.oneCell' = true
  | [], u, h => by simp [rowOf] at h
  | e :: r, u, h => by
    simp only [rowOf, entCells, List.cons_append, List.nil_append, List.mem_cons] at h
    rcases h with rfl | rfl | rfl | h
    · rfl
    · rfl
    · rfl
    · exact rowOf_oneCell r u h

theorem rowOf_cell (A M B : List Ent) (j : Nat) (hj : j < (rowOf M).length) : (rowOf (A ++ M ++ B))[A.length * 3 + j]? = (rowOf M)[j]? := by
  rw [rowOf_append, rowOf_append, List.append_assoc, List.getElem?_append_right (by rw [rowOf_length]; omega), rowOf_length, List.getElem?_append_left (by omega)]
  congr 1
  omega

set_option maxHeartbeats 1600000 in
theorem front_any {w : World} {base : Nat} {v : Value} {A B : List Ent} {e : Ent} (h : mAt w base v (A ++ e :: B)) (hl : (A ++ e :: B).length ≤ 400) (hb : base ≤ w.heap.size) :
    Calls Yba.prog 8 #[v, .int .i64 A.length] w fun r w' => ∃ v', r = .returned v' ∧ mAt w' base v' (e :: (A ++ B)) ∧ Below w.heap.size w w' := by
  rcases h.shape with ⟨_, h0⟩ | ⟨g, cap, rfl, hbg, hT⟩
  · simp at h0
  obtain ⟨i0, hi, hz0, hz1, hz2⟩ := info_parts Yba.info35
  have hgl : g < w.heap.size := hT.isC.lt
  have hLl : (A ++ e :: B).length = A.length + (1 + B.length) := by simp; omega
  have hcap : (A ++ e :: B).length ≤ cap := by
    rcases h.2 with ⟨h1, _⟩ | ⟨g', cap', cur, hv, _, _, hn, _⟩
    · simp at h1
    · simp only [Value.slice.injEq] at hv
      obtain ⟨_, _, rfl⟩ := hv
      exact hn
  have hrow : ∀ j, j < (A ++ e :: B).length * 3 → w.cell? ⟨g, j, none⟩ = (rowOf (A ++ e :: B))[j]? := fun j hj => World.ownsRow.cellAt h j hj
  have r0 : w.cell? ⟨g, A.length * 3, none⟩ = some (.int .i64 e.off) := by
    have := rowOf_at A e B 0 (by omega)
    rw [hrow _ (by omega)]; simpa using this
  have r1 : w.cell? ⟨g, A.length * 3 + 1, none⟩ = some (.int .u8 e.t) := by
    have := rowOf_at A e B 1 (by omega)
    rw [hrow _ (by omega)]; simpa using this
  have r2 : w.cell? ⟨g, A.length * 3 + 2, none⟩ = some (.slice (some ⟨e.xb, 0, none⟩) e.bs.length e.cap) := by
    have := rowOf_at A e B 2 (by omega)
    rw [hrow _ (by omega)]; simpa using this
  have rA : ∀ j u, (rowOf A)[j]? = some u → w.cell? ⟨g, j, none⟩ = some u := fun j u hj => by
    have hlt := (List.getElem?_eq_some_iff.1 hj).1
    have h1 := rowOf_cell [] A (e :: B) j hlt
    simp only [List.nil_append, List.length_nil, Nat.zero_mul, Nat.zero_add] at h1
    rw [rowOf_length] at hlt
    rw [hrow j (by omega), h1, hj]
  have rB : ∀ j u, (rowOf B)[j]? = some u → w.cell? ⟨g, (A.length + 1) * 3 + j, none⟩ = some u := fun j u hj => by
    have hlt := (List.getElem?_eq_some_iff.1 hj).1
    have h1 := rowOf_cell (A ++ [e]) B [] j hlt
    simp only [List.append_nil, List.length_append, List.length_cons, List.length_nil, List.append_assoc, List.cons_append, List.nil_append] at h1
    rw [rowOf_length] at hlt
    rw [hrow _ (by omega)]
    rw [← hj, ← h1]
  have hAl : A.length < (A ++ e :: B).length := by omega
  have hA1 : (rowOf A).length = A.length * 3 := rowOf_length A
  have hB1 : (rowOf B).length = B.length * 3 := rowOf_length B
  generalize hN : (A ++ e :: B).length = N at *
  have HL := hid hLl
  have HN := hid hN
  have HA := hid hA1
  have HB := hid hB1
  have HRA := hid rA
  have HRB := hid rB
  have hAN : A.length + 1 ≤ N := by omega
  have hNB : N - (A.length + 1) = B.length := by omega
  have HBN : Hid ((rowOf B).length = (N - (A.length + 1)) * 3) := by rw [hNB]; exact hB1
  have hgne : some g ≠ some w.heap.size := by simp; omega
  have hne1 : (1 + A.length + (N - (A.length + 1))) = A.length + (1 + B.length) := by omega
  have HN1 := hid hne1
  clear hne1
  clear hLl hN hA1 hB1 h hrow rA rB hNB
  go_enter Yba.func8, Yba.ntmps8
  go_wp2_with (first
    | (at_make; refine wpList_make_own _ rfl _ _ 26 rfl base 35 i0 _ 3 Yba.underlying26 hi hz0 hz1 _ _ _ N rfl rfl rfl (by rw [hz2]; omega) (by unfold maxLen; omega) hb ?_; intro w1 ho1 hg1;
       have q0 := (cell_grown (j := A.length * 3) hg1 hgl (by simp)).trans r0; have q1 := (cell_grown (j := A.length * 3 + 1) hg1 hgl (by simp)).trans r1; have q2 := (cell_grown (j := A.length * 3 + 2) hg1 hgl (by simp)).trans r2)
    | (at_builtin; refine wpList_append_fits_any _ rfl _ _ 26 rfl base 35 i0 3 Yba.underlying26 hi hz1 w.heap.size (0 + 1 + A.length) N ([] ++ entCells e ++ rowOf A) rfl ho3 _ _ _ (rowOf B) rfl HBN.out ?_ (tail_cells HBN.out hcap (fun j u hj => (k3 _).trans (HRB.out j u hj))) (rowOf_oneCell B) (by omega) ?_; (intro hh; split at hh <;> cases hh); intro w4 ho4 hg4)
    | (at_builtin; (refine wpList_append_fits _ rfl _ _ 26 rfl base 35 i0 3 Yba.underlying26 hi hz1 w.heap.size (0 + 1) N ([] ++ entCells e) rfl ho2 ⟨g, 0, none⟩ A.length cap (rowOf A) rfl HA.out (fun j u hj => (by rw [addr_add, Nat.zero_add]; exact (k2 _).trans (HRA.out j u hj))) (rowOf_oneCell A) (by omega) ?_); intro w3 ho3 hg3; have k3 : ∀ j, w3.cell? ⟨g, j, none⟩ = w.cell? ⟨g, j, none⟩ := fun j => (cell_grown hg3 (Nat.lt_of_lt_of_le hgl hs2) hgne).trans (k2 j))
    | (at_builtin; (refine wpList_append_fits _ rfl _ _ 26 rfl base 35 i0 3 Yba.underlying26 hi hz1 w.heap.size 0 N [] rfl (ho1.alloc _) ⟨w1.heap.size, 0, none⟩ 1 1 (entCells e) rfl rfl (new_cells w1 (entCells e) 35) (fun u hu => rowOf_oneCell [e] u (by simpa [rowOf] using hu)) (by omega) ?_); intro w2 ho2 hg2; have hs2 : w.heap.size ≤ w2.heap.size := Nat.le_trans hg1.size (Nat.le_trans (by simp) hg2.size); have k2 : ∀ j, w2.cell? ⟨g, j, none⟩ = w.cell? ⟨g, j, none⟩ := fun j => (cell_grown hg2 (by simp; exact Nat.lt_succ_of_lt (Nat.lt_of_lt_of_le hgl hg1.size)) hgne).trans ((World.cell?_alloc_past _ _ _ (Nat.lt_of_lt_of_le hgl hg1.size)).trans (cell_grown hg1 hgl (by simp)))))
  all_goals
    go_ret
    refine ⟨.slice (some ⟨w.heap.size, 0, none⟩) (0 + 1 + A.length + (N - (A.length + 1))) N, by simp, ?_, ?_⟩
    · have e1 : (e :: (A ++ B)).length = 0 + 1 + A.length + (N - (A.length + 1)) := by
        have := HN1.out
        simp only [List.length_cons, List.length_append]
        omega
      have e2 : rowOf (e :: (A ++ B)) = [] ++ entCells e ++ rowOf A ++ rowOf B := by
        simp [rowOf, rowOf_append]
      unfold mAt
      rw [e1, e2]
      exact ho4
    · have b1 := (Below.refl w.heap.size w).grown hg1 (Nat.le_refl _) (by simp)
      have b2 := b1.alloc hg1.size (.cells #[.int .i64 e.off, .int .u8 e.t, .slice (some ⟨e.xb, 0, none⟩) e.bs.length e.cap] 35)
      have b3 := b2.grown hg2 (by simp; exact Nat.le_succ_of_le hg1.size) (by simp)
      have b4 := b3.grown hg3 hs2 (by simp)
      exact b4.grown hg4 (Nat.le_trans hs2 hg3.size) (by simp)
end Go.Proofs.Ybulkcnrs
