import Derived.Test.YbulkcoeqStable
namespace Go.Proofs.Ybulkcoeq
set_option linter.unusedVariables false
set_option linter.unusedSimpArgs false

instance (h : Nat → Int) (x y : Nat) : Decidable (bf h x y) := by unfold bf; infer_instance

def cnt (p : Nat → Bool) : Nat → Nat
  | 0 => 0
  | n + 1 => cnt p n + (if p n then 1 else 0)
theorem cnt_congr {p q : Nat → Bool} : ∀ n, (∀ k, k < n → p k = q k) → cnt p n = cnt q n
  | 0, _ => rfl
  | n + 1, h => by rw [cnt, cnt, cnt_congr n fun k hk => h k (by omega), h n (by omega)]
theorem cnt_le (p : Nat → Bool) : ∀ n, cnt p n ≤ n
  | 0 => Nat.le_refl _
  | n + 1 => by have := cnt_le p n; rw [cnt]; split <;> omega
theorem cnt_lt (p : Nat → Bool) (y : Nat) (hy : p y = false) : ∀ n, y < n → cnt p n < n
  | 0, h => by omega
  | n + 1, h => by
    rw [cnt]
    by_cases he : y = n
    · subst he
      rw [hy]
      have := cnt_le p y
      simp
      omega
    · have := cnt_lt p y hy n (by omega)
      split <;> omega
theorem cnt_split (q : Nat → Bool) (i : Nat) : ∀ n, i < n → cnt q n = (if q i then 1 else 0) + cnt (fun k => if k = i then false else q k) n
  | 0, h => by omega
  | n + 1, h => by
    rw [cnt, cnt]
    by_cases he : i = n
    · subst he
      rw [cnt_congr (p := fun k => if k = i then false else q k) (q := q) i fun k hk => by rw [if_neg (by omega)]]
      simp
      omega
    · rw [cnt_split q i n (by omega)]
      have : ¬ n = i := fun e => he e.symm
      simp [this]
      omega
theorem cnt_tau (q : Nat → Bool) (i j n : Nat) (hi : i < n) (hj : j < n) : cnt (fun k => q (tau i j k)) n = cnt q n := by
  by_cases hij : i = j
  · subst hij
    refine cnt_congr n fun k hk => ?_
    congr 1
    unfold tau
    split
    · subst_vars; rfl
    · rfl
  · rw [cnt_split (fun k => q (tau i j k)) i n hi, cnt_split (fun k => if k = i then false else q (tau i j k)) j n hj, cnt_split q i n hi, cnt_split (fun k => if k = i then false else q k) j n hj]
    have e1 : tau i j i = j := by unfold tau; rw [if_pos rfl]
    have e2 : tau i j j = i := by unfold tau; rw [if_neg (fun e => hij e.symm), if_pos rfl]
    have hji : ¬ j = i := fun e => hij e.symm
    rw [cnt_congr (p := fun k => if k = j then false else if k = i then false else q (tau i j k)) (q := fun k => if k = j then false else if k = i then false else q k) n fun k hk => by
      by_cases a : k = j
      · rw [if_pos a, if_pos a]
      · by_cases b : k = i
        · rw [if_neg a, if_pos b, if_neg a, if_pos b]
        · rw [if_neg a, if_neg b, if_neg a, if_neg b]
          congr 1
          unfold tau
          rw [if_neg b, if_neg a]]
    simp only [e1, e2, if_neg hji]
    omega
theorem Per.cnt {n : Nat} {d : Nat → Nat} (h : Per n d) (p : Nat → Bool) : cnt (fun k => p (d k)) n = Ybulkcoeq.cnt p n := by
  unfold Per at h
  induction h with
  | refl => rfl
  | step h i j hi hj ih =>
    rename_i d1
    rw [← ih, ← cnt_tau (fun k => p (d1 k)) i j n hi.2 hj.2]
    exact cnt_congr n fun k hk => by rw [sw_tau]
theorem Per.surj {n : Nat} {d : Nat → Nat} (h : Per n d) : ∀ y, y < n → ∃ k, k < n ∧ d k = y := by
  unfold Per at h
  induction h with
  | refl => exact fun y hy => ⟨y, hy, rfl⟩
  | step h i j hi hj ih =>
    intro y hy
    obtain ⟨k, hk, hd⟩ := ih y hy
    refine ⟨tau i j k, tau_lt hi.2 hj.2 hk, ?_⟩
    rw [sw_tau]
    have : tau i j (tau i j k) = k := by
      unfold tau
      split <;> split <;> (repeat' split) <;> omega
    rw [this, hd]
theorem Per.inj {n : Nat} {d : Nat → Nat} (h : Per n d) : Inj n d := Sws.inj h (Nat.le_refl _) fun i j _ _ e => e

/-- How many come ahead of y. -/
def rank (h : Nat → Int) (n y : Nat) : Nat := cnt (fun j => decide (bf h j y)) n
theorem cnt_below : ∀ (n k : Nat), k ≤ n → cnt (fun i => decide (i < k)) n = k
  | 0, k, h => by have : k = 0 := by omega
                  subst this; rfl
  | n + 1, k, h => by
    rw [cnt]
    by_cases hk : k ≤ n
    · rw [cnt_below n k hk]
      have : ¬ n < k := by omega
      simp [this]
    · have hk' : k = n + 1 := by omega
      subst hk'
      rw [cnt_congr (q := fun i => decide (i < n)) n fun i hi => by simp; omega, cnt_below n n (Nat.le_refl _)]
      simp
theorem rank_at {h : Nat → Int} {n : Nat} {d : Nat → Nat} (hp : Per n d) (hs : Srt h 0 n d) (k : Nat) (hk : k < n) : rank h n (d k) = k := by
  unfold rank
  rw [← hp.cnt, cnt_congr (q := fun i => decide (i < k)) n fun i hi => ?_, cnt_below n k (by omega)]
  by_cases c : i < k
  · rw [decide_eq_true c, decide_eq_true (hs i k (Nat.zero_le _) c hk)]
  · rw [decide_eq_false c]
    refine decide_eq_false fun hb => ?_
    by_cases e : i = k
    · subst e; exact bf_asymm hb hb
    · exact bf_asymm hb (hs k i (Nat.zero_le _) (by omega) hi)
theorem top_iff {h : Nat → Int} {n m : Nat} {d : Nat → Nat} (hp : Per n d) (hs : Srt h 0 n d) (hm : m ≤ n) (y : Nat) (hy : y < n) : (∃ k, k < m ∧ d k = y) ↔ rank h n y < m := by
  constructor
  · rintro ⟨k, hk, rfl⟩
    rw [rank_at hp hs k (by omega)]; exact hk
  · intro hr
    obtain ⟨k, hk, rfl⟩ := hp.surj y hy
    rw [rank_at hp hs k hk] at hr
    exact ⟨k, hr, rfl⟩
theorem rank_lt (h : Nat → Int) (n y : Nat) (hy : y < n) : rank h n y < n :=
  cnt_lt _ y (decide_eq_false fun hb => bf_asymm hb hb) n hy

/-- The senders that are kept, in the order heard. -/
def kept (h : Nat → Int) (n m : Nat) (i : Nat) : List Nat := (List.range i).filter fun k => decide (rank h n k < m)
theorem kept_succ (h : Nat → Int) (n m i : Nat) : kept h n m (i + 1) = kept h n m i ++ (if rank h n i < m then [i] else []) := by
  unfold kept
  rw [List.range_succ, List.filter_append]
  congr 1
  by_cases c : rank h n i < m
  · simp [c]
  · simp [c]
theorem kept_len (h : Nat → Int) (n m i : Nat) : (kept h n m i).length ≤ i := by
  unfold kept
  exact Nat.le_trans (List.length_filter_le _ _) (by simp)
theorem kept_all (h : Nat → Int) (n m : Nat) (hn : n ≤ m) : kept h n m n = List.range n := by
  unfold kept
  rw [List.filter_eq_self]
  intro k hk
  have := rank_lt h n k (by simpa using hk)
  simp
  omega
end Go.Proofs.Ybulkcoeq
