import Derived.Test.YbulkcoeqPlain
namespace Go.Proofs.Ybulkcoeq
set_option linter.unusedVariables false
set_option linter.unusedSimpArgs false

theorem swI_sws (d : Nat → Nat) (a b lo hi : Nat) (hlo : lo ≤ a) : ∀ n, a + n ≤ b → b + n ≤ hi → Sws lo hi d (fun k => d (swI a b n k))
  | 0, _, _ => by
    have : (fun k => d (swI a b 0 k)) = d := by funext k; unfold swI; rw [if_neg (by omega), if_neg (by omega)]
    rw [this]; exact .refl
  | n + 1, h1, h2 => by
    rw [← swI_succ d a b n (by omega)]
    exact .step (swI_sws d a b lo hi hlo n (by omega) (by omega)) _ _ (by omega) (by omega)
theorem rot_sws : ∀ (N i j m : Nat) (d : Nat → Nat), i + j ≤ N → 0 < i → 0 < j → i ≤ m → Sws (m - i) (m + j) d (fun k => d (rotI (m - i) m (m + j) k))
  | 0, i, j, m, d, h, h1, h2, h3 => by omega
  | N + 1, i, j, m, d, h, h1, h2, h3 => by
    rcases Nat.lt_trichotomy i j with h4 | h4 | h4
    · have e : (fun k => d (rotI (m - i) m (m + j) k)) = fun k => (fun k => d (swI (m - i) (m + j - i) i k)) (rotI (m - i) m (m + (j - i)) k) := by
        funext k; rw [rot_step2 m i j k h3 h1 h4]
      rw [e]
      exact (swI_sws d _ _ _ _ (Nat.le_refl _) i (by omega) (by omega)).trans ((rot_sws N i (j - i) m _ (by omega) h1 (by omega) h3).mono (Nat.le_refl _) (by omega))
    · subst h4
      have e : (fun k => d (rotI (m - i) m (m + i) k)) = fun k => d (swI (m - i) m i k) := by funext k; rw [rot_last m i k h3]
      rw [e]
      exact swI_sws d _ _ _ _ (Nat.le_refl _) i (by omega) (by omega)
    · have e : (fun k => d (rotI (m - i) m (m + j) k)) = fun k => (fun k => d (swI (m - i) m j k)) (rotI (m - (i - j)) m (m + j) k) := by
        funext k; rw [rot_step1 m i j k h3 h2 h4, show m - (i - j) = m - i + j by omega]
      rw [e]
      exact (swI_sws d _ _ _ _ (Nat.le_refl _) j (by omega) (by omega)).trans ((rot_sws N (i - j) j m _ (by omega) (by omega) h2 (by omega)).mono (by omega) (Nat.le_refl _))
theorem rot_sws' (d : Nat → Nat) {a m b : Nat} (h1 : a < m) (h2 : m < b) : Sws a b d (fun k => d (rotI a m b k)) := by
  have := rot_sws (m - a + (b - m)) (m - a) (b - m) m d (Nat.le_refl _) (by omega) (by omega) (by omega)
  rw [show m - (m - a) = a by omega, show m + (b - m) = b by omega] at this
  exact this

/-- What symMerge has after its rotation. -/
structure Parts (h : Nat → Int) (a s mid t b : Nat) (d1 : Nat → Nat) : Prop where
  p1 : Srt h a s d1
  p2 : Srt h s mid d1
  p3 : Crs a s mid d1
  p4 : Srt h mid t d1
  p5 : Srt h t b d1
  p6 : Crs mid t b d1
  p7 : ∀ i j, a ≤ i → i < mid → mid ≤ j → j < b → bf h (d1 i) (d1 j)

theorem parts {h : Nat → Int} {a m b s t mid : Nat} {d : Nat → Nat} (h1 : Srt h a m d) (h2 : Srt h m b d) (h3 : Crs a m b d) (hs1 : a ≤ s) (hs2 : s ≤ m) (ht1 : m ≤ t) (ht2 : t ≤ b) (he : s + t = mid + m)
    (hx1 : a < s → t < b → bf h (d (s - 1)) (d t)) (hx2 : m < t → s < m → bf h (d (t - 1)) (d s)) : Parts h a s mid t b (fun k => d (rotI s m t k)) := by
  have r1 : ∀ k, k < s → rotI s m t k = k := fun k hk => by unfold rotI; rw [if_pos (by omega)]
  have r2 : ∀ k, s ≤ k → k < mid → rotI s m t k = k + (m - s) := fun k hk hk2 => by unfold rotI; rw [if_neg (by omega), if_pos (by omega)]
  have r3 : ∀ k, mid ≤ k → k < t → rotI s m t k = k - (t - m) := fun k hk hk2 => by unfold rotI; rw [if_neg (by omega), if_neg (by omega)]
  have r4 : ∀ k, t ≤ k → rotI s m t k = k := fun k hk => by unfold rotI; rw [if_pos (by omega)]
  refine ⟨?_, ?_, ?_, ?_, ?_, ?_, ?_⟩
  · intro i j q1 q2 q3
    show bf h (d (rotI s m t i)) (d (rotI s m t j))
    rw [r1 i (by omega), r1 j (by omega)]; exact h1 _ _ (by omega) (by omega) (by omega)
  · intro i j q1 q2 q3
    show bf h (d (rotI s m t i)) (d (rotI s m t j))
    rw [r2 i (by omega) (by omega), r2 j (by omega) (by omega)]; exact h2 _ _ (by omega) (by omega) (by omega)
  · intro i j q1 q2 q3 q4
    show d (rotI s m t i) < d (rotI s m t j)
    rw [r1 i (by omega), r2 j (by omega) (by omega)]; exact h3 _ _ (by omega) (by omega) (by omega) (by omega)
  · intro i j q1 q2 q3
    show bf h (d (rotI s m t i)) (d (rotI s m t j))
    rw [r3 i (by omega) (by omega), r3 j (by omega) (by omega)]; exact h1 _ _ (by omega) (by omega) (by omega)
  · intro i j q1 q2 q3
    show bf h (d (rotI s m t i)) (d (rotI s m t j))
    rw [r4 i (by omega), r4 j (by omega)]; exact h2 _ _ (by omega) (by omega) (by omega)
  · intro i j q1 q2 q3 q4
    show d (rotI s m t i) < d (rotI s m t j)
    rw [r3 i (by omega) (by omega), r4 j (by omega)]; exact h3 _ _ (by omega) (by omega) (by omega) (by omega)
  · intro i j q1 q2 q3 q4
    show bf h (d (rotI s m t i)) (d (rotI s m t j))
    by_cases c1 : i < s
    · rw [r1 i c1]
      by_cases c2 : j < t
      · rw [r3 j q3 c2]; exact h1 _ _ (by omega) (by omega) (by omega)
      · rw [r4 j (by omega)]
        exact h2.le (h1.ge (hx1 (by omega) (by omega)) q1 (by omega) (by omega)) (by omega) (by omega) q4
    · rw [r2 i (by omega) q2]
      by_cases c2 : j < t
      · rw [r3 j q3 c2]
        exact h1.le (h2.ge (hx2 (by omega) (by omega)) (by omega) (by omega) (by omega)) (by omega) (by omega) (by omega)
      · rw [r4 j (by omega)]; exact h2 _ _ (by omega) (by omega) (by omega)

theorem merged {h : Nat → Int} {a mid b : Nat} {d1 d2 d3 : Nat → Nat} (h7 : ∀ i j, a ≤ i → i < mid → mid ≤ j → j < b → bf h (d1 i) (d1 j)) (hm1 : a ≤ mid) (hm2 : mid ≤ b)
    (w1 : Sws a mid d1 d2) (s1 : Srt h a mid d2) (w2 : Sws mid b d2 d3) (s2 : Srt h mid b d3) : Srt h a b d3 := by
  intro i j q1 q2 q3
  by_cases c1 : j < mid
  · rw [w2.out i (by omega), w2.out j (by omega)]; exact s1 i j q1 q2 c1
  · by_cases c2 : mid ≤ i
    · exact s2 i j c2 q2 q3
    · rw [w2.out i (by omega)]
      obtain ⟨i', e1, e2, e3⟩ := w1.from i q1 (by omega)
      obtain ⟨j', f1, f2, f3⟩ := w2.from j (by omega) q3
      rw [e3, f3, w1.out j' (by omega)]
      exact h7 i' j' e1 e2 f1 f2
end Go.Proofs.Ybulkcoeq
