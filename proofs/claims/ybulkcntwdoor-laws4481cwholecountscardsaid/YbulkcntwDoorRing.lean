import Derived.Test.YbulkcntwDoorSort
namespace Go.Proofs.YbulkcntwDoor
open Go.RowKit Go.Sort
set_option linter.unusedVariables false
set_option linter.unusedSimpArgs false

abbrev C.id (c : C) : Nat × Nat := (c.hi, c.lo)
theorem comp_mem {d : List C} {j : Nat} {c : C} (hj : j ≤ d.length) (h : c ∈ comp d j) : c ∈ d := by
  induction j with
  | zero => simp [comp] at h
  | succ j ih =>
    simp only [comp, List.mem_append] at h
    rcases h with h | h
    · exact ih (by omega) h
    · have hl : j < d.length := by omega
      split at h
      · simp at h
      · simp at h
        rw [h, List.getElem?_eq_getElem hl]
        exact List.getElem_mem hl
/-- The distance from the node's own identifier. -/
def dist (sh sl : Nat) (c : C) : Nat := num (subH c.hi c.lo sh sl) (subL c.lo sl)
theorem rcmp_lt (sh sl : Nat) (a b : C) : rcmp sh sl a b < 0 ↔ dist sh sl a < dist sh sl b := cmp_lt (subL_lt _ _) (subL_lt _ _)
theorem dist_inj {sh sl : Nat} {a b : C} (q1 : sh < M) (q2 : sl < M) (ha : a.ok) (hb : b.ok) (h : dist sh sl a = dist sh sl b) : a.id = b.id := by
  unfold dist at h
  rw [sub_num ha.1 ha.2 q1 q2, sub_num hb.1 hb.2 q1 q2] at h
  have n1 := num_lt ha.1 ha.2
  have n2 := num_lt hb.1 hb.2
  have n3 := num_lt q1 q2
  have e : num a.hi a.lo = num b.hi b.lo := by
    generalize num a.hi a.lo = x at *
    generalize num b.hi b.lo = y at *
    generalize num sh sl = z at *
    generalize M * M = m at *
    split at h <;> split at h <;> omega
  obtain ⟨a1, a2⟩ := ha
  obtain ⟨b1, b2⟩ := hb
  unfold num M at *
  have e1 : a.hi = b.hi := by omega
  have e2 : a.lo = b.lo := by omega
  simp [C.id, e1, e2]
/-- What comp keeps: rising distances, and the last one it looked at has a twin in it. -/
theorem comp_rise {sh sl : Nat} {d : List C} (q1 : sh < M) (q2 : sl < M) (hok : ∀ c ∈ d, c.ok) (hs : Sorted sh sl d) (j : Nat) (hj : j ≤ d.length) :
    (comp d j).Pairwise (fun a b => dist sh sl a < dist sh sl b) ∧ (∀ c ∈ comp d j, ∀ i, j ≤ i + 1 → i < d.length → dist sh sl c ≤ dist sh sl d[i]!) ∧ (∀ i, i < j → ∃ c ∈ comp d j, c.id = d[i]!.id) := by
  induction j with
  | zero => exact ⟨.nil, fun c hc => by simp [comp] at hc, fun i hi => by omega⟩
  | succ j ih =>
    obtain ⟨h1, h2, h3⟩ := ih (by omega)
    have hl : j < d.length := by omega
    have hokj : d[j]!.ok := by rw [getElem!_pos d j hl]; exact hok _ (List.getElem_mem hl)
    have hle : ∀ i, j ≤ i → i < d.length → dist sh sl d[j]! ≤ dist sh sl d[i]! := fun i h4 h5 => by
      by_cases e : i = j
      · rw [e]; exact Nat.le_refl _
      · have := hs j i (by omega) h5
        rw [rcmp_lt] at this
        omega
    by_cases hsm : 0 < j ∧ same d[j]! d[j - 1]! = true
    · have e : comp d (j + 1) = comp d j := by rw [comp, if_pos hsm, List.append_nil]
      rw [e]
      refine ⟨h1, fun c hc i h4 h5 => h2 c hc i (by omega) h5, fun i hi => ?_⟩
      by_cases e2 : i = j
      · obtain ⟨c, hc, hid⟩ := h3 (j - 1) (by omega)
        have := (same_iff _ _).1 hsm.2
        exact ⟨c, hc, by rw [hid, e2]; exact Prod.ext this.1.symm this.2.symm⟩
      · exact h3 i (by omega)
    · have e : comp d (j + 1) = comp d j ++ [d[j]!] := by rw [comp, if_neg hsm]
      rw [e]
      refine ⟨?_, ?_, fun i hi => ?_⟩
      · rw [List.pairwise_append]
        refine ⟨h1, List.pairwise_singleton _ _, fun a ha b hb => ?_⟩
        simp only [List.mem_singleton] at hb
        subst hb
        by_cases hj0 : 0 < j
        · have hl1 : j - 1 < d.length := by omega
          have hokp : d[j - 1]!.ok := by rw [getElem!_pos d (j - 1) hl1]; exact hok _ (List.getElem_mem hl1)
          have k1 := h2 a ha (j - 1) (by omega) hl1
          have k2 := hs (j - 1) j (by omega) hl
          rw [rcmp_lt] at k2
          have k3 : dist sh sl d[j - 1]! ≠ dist sh sl d[j]! := fun he => hsm ⟨hj0, (same_iff _ _).2 (by
            have := dist_inj q1 q2 hokp hokj he
            simp only [C.id, Prod.mk.injEq] at this
            exact ⟨this.1.symm, this.2.symm⟩)⟩
          omega
        · have : j = 0 := by omega
          subst this
          simp [comp] at ha
      · intro c hc i h4 h5
        simp only [List.mem_append, List.mem_singleton] at hc
        rcases hc with hc | hc
        · exact h2 c hc i (by omega) h5
        · rw [hc]; exact hle i (by omega) h5
      · by_cases e2 : i = j
        · exact ⟨d[j]!, by simp, by rw [e2]⟩
        · obtain ⟨c, hc, hid⟩ := h3 i (by omega)
          exact ⟨c, by simp [hc], hid⟩

/-- The ring that the node knows. -/
def RingOf (sh sl : Nat) (all r : List C) : Prop := ∃ ds : List C, ds.Perm all ∧ Sorted sh sl ds ∧ r = comp ds ds.length
section
variable {sh sl : Nat} {all r : List C}
theorem RingOf.ok (h : RingOf sh sl all r) (hok : ∀ c ∈ all, c.ok) : ∀ c ∈ r, c.ok := by
  obtain ⟨ds, hp, _, rfl⟩ := h
  exact fun c hc => hok c (hp.mem_iff.1 (comp_mem (Nat.le_refl _) hc))
theorem RingOf.pos (h : RingOf sh sl all r) (hne : 0 < all.length) : 0 < r.length := by
  obtain ⟨ds, hp, _, rfl⟩ := h
  exact comp_pos _ _ (by rw [hp.length_eq]; exact hne)
theorem RingOf.nodup (h : RingOf sh sl all r) (q1 : sh < M) (q2 : sl < M) (hok : ∀ c ∈ all, c.ok) : (r.map C.id).Nodup := by
  obtain ⟨ds, hp, hs, rfl⟩ := h
  have hr := (comp_rise q1 q2 (fun c hc => hok c (hp.mem_iff.1 hc)) hs ds.length (Nat.le_refl _)).1
  rw [List.Nodup, List.pairwise_map]
  refine hr.imp fun {a b} hab he => ?_
  simp only [C.id, Prod.mk.injEq] at he
  unfold dist at hab
  rw [he.1, he.2] at hab
  omega
theorem RingOf.mem (h : RingOf sh sl all r) (q1 : sh < M) (q2 : sl < M) (hok : ∀ c ∈ all, c.ok) (k : Nat × Nat) : k ∈ r.map C.id ↔ k ∈ all.map C.id := by
  obtain ⟨ds, hp, hs, rfl⟩ := h
  have hr := (comp_rise q1 q2 (fun c hc => hok c (hp.mem_iff.1 hc)) hs ds.length (Nat.le_refl _)).2.2
  constructor
  · intro hk
    obtain ⟨c, hc, rfl⟩ := List.mem_map.1 hk
    exact List.mem_map_of_mem (hp.mem_iff.1 (comp_mem (Nat.le_refl _) hc))
  · intro hk
    obtain ⟨c, hc, rfl⟩ := List.mem_map.1 hk
    obtain ⟨i, hi, e⟩ := List.getElem_of_mem (hp.mem_iff.2 hc)
    obtain ⟨c', hc', hid⟩ := hr i hi
    rw [getElem!_pos ds i hi, e] at hid
    rw [← hid]
    exact List.mem_map_of_mem hc'
/-- The two lists count alike. -/
theorem RingOf.count (h : RingOf sh sl all r) (q1 : sh < M) (q2 : sl < M) (hok : ∀ c ∈ all, c.ok) (D : List (Nat × Nat)) (hD : D.Nodup) (hm : ∀ k, k ∈ D ↔ k ∈ all.map C.id) (p : Nat × Nat → Bool) :
    (r.filter (fun c => p c.id)).length = (D.filter p).length := by
  have e : (r.map C.id).Perm D := (List.perm_ext_iff_of_nodup (h.nodup q1 q2 hok) hD).2 (fun k => (h.mem q1 q2 hok k).trans (hm k).symm)
  rw [← (e.filter p).length_eq, List.filter_map, List.length_map]
  rfl
end
end Go.Proofs.YbulkcntwDoor
