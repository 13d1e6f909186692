import Derived.Test.YbulkcnrsState
namespace Go.Proofs.Ybulkcnrs
open Go.RowKit
set_option linter.unusedVariables false
set_option linter.unusedSimpArgs false

/-- The model's three cells of an entry. -/
abbrev entCells (e : Ent) : List Value := [.int .i64 e.off, .int .u8 e.t, .slice (some ⟨e.xb, 0, none⟩) e.bs.length e.cap]
def rowOf : List Ent → List Value
  | [] => []
  | e :: r => entCells e ++ rowOf r

theorem rowOf_length : ∀ L : List Ent, (rowOf L).length = L.length * 3
  | [] => rfl
  | e :: r => by simp [rowOf, rowOf_length r]; omega

theorem rowOf_append : ∀ A B : List Ent, rowOf (A ++ B) = rowOf A ++ rowOf B
  | [], _ => rfl
  | e :: r, B => by simp [rowOf, rowOf_append r B]

theorem rowOf_at (A : List Ent) (e : Ent) (B : List Ent) (j : Nat) (hj : j < 3) : (rowOf (A ++ e :: B))[A.length * 3 + j]? = (entCells e)[j]? := by
  rw [rowOf_append, List.getElem?_append_right (by rw [rowOf_length]; omega), rowOf_length]
  simp only [rowOf]
  rw [List.getElem?_append_left (by simp; omega)]
  congr 1
  omega

theorem split_at (L : List Ent) (i : Nat) (h : i < L.length) : L = L.take i ++ L[i] :: L.drop (i + 1) := by
  rw [List.getElem_cons_drop, List.take_append_drop]

/-- The value m is a slice of the call's own that holds L. -/
def mAt (w : World) (base : Nat) (v : Value) (L : List Ent) : Prop := w.ownsRow base 35 3 v L.length (rowOf L)

theorem mAt.shape {w : World} {base : Nat} {v : Value} {L : List Ent} (h : mAt w base v L) : (v = .slice none 0 0 ∧ L = []) ∨ ∃ g cap, v = .slice (some ⟨g, 0, none⟩) L.length cap ∧ base ≤ g ∧ isT w g 35 := by
  obtain ⟨_, h2⟩ := h
  rcases h2 with ⟨h1, h0⟩ | ⟨g, cap, cur, hv, hg, hh, _⟩
  · exact Or.inl ⟨h1, List.eq_nil_of_length_eq_zero h0⟩
  · exact Or.inr ⟨g, cap, hv, hg, ⟨cur, hh⟩⟩

theorem mAt.cell {w : World} {base g cap : Nat} {L : List Ent} (h : mAt w base (.slice (some ⟨g, 0, none⟩) L.length cap) L) (i : Nat) (hi : i < L.length) (j : Nat) (hj : j < 3) : w.cell? ⟨g, i * 3 + j, none⟩ = (entCells L[i])[j]? := by
  have h1 : w.ownsRow base 35 3 (.slice (some ⟨g, 0, none⟩) L.length cap) L.length (rowOf L) := h
  rw [h1.cellAt (i * 3 + j) (by omega)]
  have h2 := split_at L i hi
  have h3 := rowOf_at (L.take i) L[i] (L.drop (i + 1)) j hj
  rw [← h2] at h3
  rw [← h3, List.length_take, Nat.min_eq_left (by omega)]

theorem mAt.kept {w w' : World} {base : Nat} {v : Value} {L : List Ent} (h : mAt w base v L) (hk : ∀ b, isT w b 35 → w'.heap[b]? = w.heap[b]?) : mAt w' base v L := by
  obtain ⟨h0, h2⟩ := h
  refine ⟨h0, ?_⟩
  rcases h2 with h1 | ⟨g, cap, cur, hv, hg, hh, hr⟩
  · exact Or.inl h1
  · exact Or.inr ⟨g, cap, cur, hv, hg, (hk g ⟨cur, hh⟩).trans hh, hr⟩

set_option maxHeartbeats 800000 in
/-- find: the key is there. -/
theorem find_hit {w : World} {base : Nat} {v : Value} {A B : List Ent} {e : Ent} (h : mAt w base v (A ++ e :: B)) (hA : ∀ a ∈ A, ¬ a.off = e.off) (hl : (A ++ e :: B).length ≤ 400) :
    Calls Yba.prog 7 #[v, .int .i64 e.off] w fun r w' => r = .returned (.int .i64 A.length) ∧ w' = w := by
  rcases h.shape with ⟨_, h0⟩ | ⟨g, cap, rfl, _, _⟩
  · simp at h0
  generalize hL : A ++ e :: B = L at *
  have hAl : A.length < L.length := by rw [← hL]; simp
  have hc : ∀ i, i < L.length → w.cell? ⟨g, i * 3, none⟩ = some (.int .i64 (L[i]?.getD e).off) := fun i hi => by
    have := h.cell i hi 0 (by omega)
    simpa [hi] using this
  have h1 : ∀ i, i < A.length → ¬ (L[i]?.getD e).off = e.off := fun i hi => by
    rw [← hL, List.getElem?_append_left hi]
    simp only [List.getElem?_eq_getElem hi, Option.getD_some]
    exact hA _ (List.getElem_mem hi)
  have h2 : (L[A.length]?.getD e).off = e.off := by
    rw [← hL]; simp
  clear hL h hA
  go_enter Yba.func7, Yba.ntmps7
  go_wp2
  go_loop [5] (fun i => ∃ k : Nat, k ≤ A.length ∧ i = .int .i64 k) (fun i => A.length - (intOf i).toNat)
  case atStart => exact ⟨0, Nat.zero_le _, rfl⟩
  case round =>
    obtain ⟨k, hk, rfl⟩ := hrel
    have hck := hc k (by omega)
    have hlt : (k : Int) < (L.length : Int) := by omega
    by_cases he : k = A.length
    · subst he
      rw [h2] at hck
      clear hc h1 h2
      go_wp2
      go_ret
      exact ⟨rfl, rfl⟩
    · have hne := h1 k (by omega)
      have hne' : ((L[k]?.getD e).off == e.off) = false := by simpa using hne
      generalize (L[k]?.getD e).off = o at *
      clear hc h1 h2
      go_wp2
      go_round
      case rel => exact ⟨k + 1, by omega, by go_num⟩
      case measure => simp [intOf]; omega

set_option maxHeartbeats 800000 in
/-- find: the key is not there. -/
theorem find_miss {w : World} {base : Nat} {v : Value} {L : List Ent} (o : Int) (h : mAt w base v L) (hA : ∀ a ∈ L, ¬ a.off = o) (hl : L.length ≤ 400) :
    Calls Yba.prog 7 #[v, .int .i64 o] w fun r w' => r = .returned (.int .i64 (-1)) ∧ w' = w := by
  rcases h.shape with ⟨rfl, rfl⟩ | ⟨g, cap, rfl, _, _⟩
  · clear h hA hl
    go_enter Yba.func7, Yba.ntmps7
    go_wp2
    refine wp_loop_rounds 1 ?_
    rw [rounds_succ]
    go_wp2
    go_ret
    exact ⟨rfl, rfl⟩
  have hc : ∀ i, (hi : i < L.length) → w.cell? ⟨g, i * 3, none⟩ = some (.int .i64 L[i].off) := fun i hi => by
    have := h.cell i hi 0 (by omega)
    simpa using this
  go_enter Yba.func7, Yba.ntmps7
  go_wp2
  go_loop [5] (fun i => ∃ k : Nat, k ≤ L.length ∧ i = .int .i64 k) (fun i => L.length - (intOf i).toNat)
  case atStart => exact ⟨0, Nat.zero_le _, rfl⟩
  case round =>
    obtain ⟨k, hk, rfl⟩ := hrel
    by_cases hlt : k < L.length
    · have hck := hc k hlt
      have hne := hA _ (List.getElem_mem hlt)
      have hne' : (L[k].off == o) = false := by simpa using hne
      generalize L[k].off = q at *
      clear hc hA h
      go_wp2
      go_round
      case rel => exact ⟨k + 1, by omega, by go_num⟩
      case measure => simp [intOf]; omega
    · clear hc hA h
      go_wp2
      go_ret
      exact ⟨rfl, rfl⟩
end Go.Proofs.Ybulkcnrs
