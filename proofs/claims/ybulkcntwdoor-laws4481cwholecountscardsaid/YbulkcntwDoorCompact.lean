import Derived.Test.YbulkcntwDoorLeaf2
import Derived.Lib.SliceRun
namespace Go.Proofs.YbulkcntwDoor
open Go.RowKit Go.Sort
set_option linter.unusedVariables false
set_option linter.unusedSimpArgs false

/-- The first j contacts, adjacent twins dropped. -/
def comp (d : List C) : Nat → List C
  | 0 => []
  | j + 1 => comp d j ++ (if 0 < j ∧ same d[j]! d[j - 1]! = true then [] else [d[j]!])
theorem comp_len (d : List C) (j : Nat) : (comp d j).length ≤ j := by
  induction j with
  | zero => simp [comp]
  | succ j ih => simp only [comp, List.length_append]; split <;> simp <;> omega
theorem comp_pos (d : List C) (j : Nat) (h : 0 < j) : 0 < (comp d j).length := by
  cases j with
  | zero => omega
  | succ j =>
    simp only [comp, List.length_append]
    induction j with
    | zero => simp
    | succ j ih => have := ih (by omega); simp only [comp, List.length_append] at this ⊢; omega
theorem comp_none (d : List C) (j : Nat) (hj : j ≤ d.length) (h : ∀ i, 0 < i → i < j → same d[i]! d[i - 1]! = false) : comp d j = d.take j := by
  induction j with
  | zero => simp [comp]
  | succ j ih =>
    rw [comp, ih (by omega) (fun i h1 h2 => h i h1 (by omega)), List.take_add_one]
    congr 1
    have hlt : j < d.length := by omega
    rw [List.getElem?_eq_getElem hlt, if_neg, getElem!_pos d j hlt]
    · rfl
    · rintro ⟨h1, h2⟩
      rw [h j h1 (by omega)] at h2
      cases h2

/-- The inner loop: j contacts looked at, the first k places hold what was kept. -/
structure Cpt (w0 : World) (g : Nat) (d : List C) (k j : Nat) (m : List C) (v : World) : Prop where
  only : Only g w0 v
  row : Row g m v
  len : m.length = d.length
  done : m.take k = comp d j
  klen : k = (comp d j).length
  kj : k + 1 ≤ j
  kpos : 0 < k
  same : ∀ i, j ≤ i + 1 → i < d.length → m[i]! = d[i]!
section
variable {w0 : World} {g : Nat} {d : List C} {k j : Nat} {m : List C} {v v' : World}
theorem Cpt.read (h : Cpt w0 g d k j m v) (hb : Below v.heap.size v v') : Cpt w0 g d k j m v' :=
  ⟨h.only.trans (Only.of_below hb), h.row.read hb, h.len, h.done, h.klen, h.kj, h.kpos, h.same⟩
theorem Row.at (h : Row g m v) (i : Nat) (hi : i < m.length) : v.cell? ⟨g, i * 3, none⟩ = some (.int .u64 (m[i]!.hi : Int)) ∧ v.cell? ⟨g, i * 3 + 1, none⟩ = some (.int .u64 (m[i]!.lo : Int)) ∧ v.cell? ⟨g, i * 3 + 2, none⟩ = some (.string m[i]!.ad) := by
  rw [getElem!_pos m i hi]
  exact h.row i hi
theorem Cpt.at (h : Cpt w0 g d k j m v) (i : Nat) (hi : j ≤ i + 1) (hd : i < d.length) : v.cell? ⟨g, i * 3, none⟩ = some (.int .u64 (d[i]!.hi : Int)) ∧ v.cell? ⟨g, i * 3 + 1, none⟩ = some (.int .u64 (d[i]!.lo : Int)) ∧ v.cell? ⟨g, i * 3 + 2, none⟩ = some (.string d[i]!.ad) := by
  rw [← h.same i hi hd]
  exact h.row.at i (by rw [h.len]; exact hd)
theorem Cpt.skip (h : Cpt w0 g d k j m v) (hs : YbulkcntwDoor.same d[j]! d[j - 1]! = true) : Cpt w0 g d k (j + 1) m v := by
  have hj := h.kj
  have e : comp d (j + 1) = comp d j := by rw [comp, if_pos ⟨by omega, hs⟩, List.append_nil]
  exact ⟨h.only, h.row, h.len, by rw [e]; exact h.done, by rw [e]; exact h.klen, by omega, h.kpos, fun i h1 h2 => h.same i (by omega) h2⟩
theorem Cpt.move (h : Cpt w0 g d k j m v) (hj2 : j < d.length) (hs : YbulkcntwDoor.same d[j]! d[j - 1]! = false) : Cpt w0 g d (k + 1) (j + 1) (m.set k d[j]!) (((v.setCell ⟨g, k * 3, none⟩ (.int .u64 (d[j]!.hi : Int))).setCell ⟨g, k * 3 + 1, none⟩ (.int .u64 (d[j]!.lo : Int))).setCell ⟨g, k * 3 + 2, none⟩ (.string d[j]!.ad)) := by
  have hj := h.kj
  have hm := h.len
  have e : comp d (j + 1) = comp d j ++ [d[j]!] := by rw [comp, if_neg (by rw [hs]; simp)]
  refine ⟨((h.only.setCell _ _).setCell _ _).setCell _ _, h.row.set k d[j]! (by omega), by rw [List.length_set]; exact hm, ?_, by rw [e, List.length_append, ← h.klen]; rfl, by omega, by omega, fun i h1 h2 => ?_⟩
  · rw [e, ← h.done, List.take_add_one]
    rw [List.take_set_of_le (Nat.le_refl _)]
    congr 1
    rw [List.getElem?_set_self (by omega)]; rfl
  · have hi : i < m.length := by omega
    rw [← h.same i (by omega) h2, getElem!_pos m i hi, getElem!_pos (m.set k d[j]!) i (by simpa using hi), List.getElem_set_ne (by omega)]
end
theorem Row.congr_take {g : Nat} {m : List C} {v v' : World} (k : Nat) (hk : k ≤ m.length) (h : Row g m v) (hi : isC v' g) (hc : ∀ i, i < k * 3 → v'.cell? ⟨g, i, none⟩ = v.cell? ⟨g, i, none⟩) : Row g (m.take k) v' :=
  ⟨hi, fun i hi2 => by
    have h1 : i < k := by simp at hi2; omega
    rw [hc _ (by omega), hc _ (by omega), hc _ (by omega)]
    simpa using h.row i (by omega)⟩
theorem setCells_only (g : Nat) : ∀ (vs : List Value) (o : Nat) (w : World), Only g w (w.setCells g o vs)
  | [], _, w => Only.refl _ _
  | v :: r, o, w => ((Only.refl g w).setCell o v).trans (setCells_only g r (o + 1) _)
theorem setCells_isC (g : Nat) : ∀ (vs : List Value) (o : Nat) (w : World), isC w g → isC (w.setCells g o vs) g
  | [], _, w, h => h
  | v :: r, o, w, h => setCells_isC g r (o + 1) _ (h.setCell _ _)
theorem setCells_low (g : Nat) (vs : List Value) (o : Nat) (w : World) (i : Nat) (hi : i < o) : (w.setCells g o vs).cell? ⟨g, i, none⟩ = w.cell? ⟨g, i, none⟩ :=
  World.cell?_setCells_out g vs o w _ (fun _ _ => Or.inl hi)
theorem zero43 (W : World) : (zeroValue 43).run Ybad.prog W = .ok (.agg #[.int .u64 0, .int .u64 0, .string ⟨#[]⟩]) W := by kernel_rfl
theorem clear_row1 (g k r cap : Nat) (m : List C) (w : World) (h : Row g m w) (hk : k + (r + 1) = m.length) :
    ∃ w', (∀ ty, (Builtin.clear_ #[31] ty #[.slice (some ⟨g, k * 3, none⟩) (r + 1) cap]).run Ybad.prog w = .ok (.tuple #[]) w') ∧ Only g w w' ∧ Row g (m.take k) w' := by
  obtain ⟨L, hL⟩ : ∃ L, L = (Builtin.zeroCells #[.int .u64 0, .int .u64 0, .string ⟨#[]⟩] (r + 1)).toList := ⟨_, rfl⟩
  have hlen : L.length = (r + 1) * 3 := by simp [hL, Builtin.zeroCells]
  have h1 : ∀ v ∈ L, v.oneCell' = true := by
    intro v hv
    rw [hL] at hv
    simp only [Builtin.zeroCells, Array.toList_map, List.mem_map] at hv
    obtain ⟨i, hi, rfl⟩ := hv
    have : i % 3 = 0 ∨ i % 3 = 1 ∨ i % 3 = 2 := by omega
    show (#[Value.int .u64 0, .int .u64 0, .string ⟨#[]⟩][i % 3]!).oneCell' = true
    rcases this with e | e | e <;> rw [e] <;> rfl
  have hst := run_storeCells_cells (P := Ybad.prog) g (k * 3) L 0 w (fun j hj => by
      rw [hlen] at hj
      have hr := h.row ((k * 3 + j) / 3) (by omega)
      have : (k * 3 + j) % 3 = 0 ∨ (k * 3 + j) % 3 = 1 ∨ (k * 3 + j) % 3 = 2 := by omega
      rcases this with e | e | e
      · rw [show k * 3 + 0 + j = (k * 3 + j) / 3 * 3 by omega, hr.1]; rfl
      · rw [show k * 3 + 0 + j = (k * 3 + j) / 3 * 3 + 1 by omega, hr.2.1]; rfl
      · rw [show k * 3 + 0 + j = (k * 3 + j) / 3 * 3 + 2 by omega, hr.2.2]; rfl) (fun j hj => h.ic.frozen _) h1
  refine ⟨w.setCells g (k * 3) L, fun ty => ?_, setCells_only _ _ _ _, h.congr_take k (by omega) (setCells_isC _ _ _ _ h.ic) (fun i hi => setCells_low _ _ _ _ _ hi)⟩
  simp [Builtin.clear_, run_underlying Ybad.underlying31, zero43, Value.cells]
  rw [← hL, hst]
  rfl
/-- clear(s[k:]) of a row of contacts. -/
theorem clear_row (g k r cap : Nat) (m : List C) (w : World) (h : Row g m w) (hk : k + r = m.length) (hr : 0 < r) :
    ∃ w', (∀ ty, (Builtin.clear_ #[31] ty #[.slice (some ⟨g, k * 3, none⟩) r cap]).run Ybad.prog w = .ok (.tuple #[]) w') ∧ Only g w w' ∧ Row g (m.take k) w' := by
  obtain ⟨r', rfl⟩ : ∃ r', r = r' + 1 := ⟨r - 1, by omega⟩
  exact clear_row1 g k r' cap m w h hk
end Go.Proofs.YbulkcntwDoor
