import Derived.Test.YbulkcoeqRows
namespace Go.Proofs.Ybulkcoeq
set_option linter.unusedVariables false
set_option linter.unusedSimpArgs false

/-- x comes ahead of y: more packets, or as many and heard earlier. -/
def bf (h : Nat → Int) (x y : Nat) : Prop := h y < h x ∨ (h x = h y ∧ x < y)
theorem bf_trans {h : Nat → Int} {x y z : Nat} (h1 : bf h x y) (h2 : bf h y z) : bf h x z := by unfold bf at *; omega
theorem bf_total {h : Nat → Int} {x y : Nat} (hn : x ≠ y) : bf h x y ∨ bf h y x := by unfold bf; omega
theorem bf_asymm {h : Nat → Int} {x y : Nat} (h1 : bf h x y) : ¬ bf h y x := by unfold bf at *; omega
/-- The comparison of a later heard with an earlier heard one. -/
theorem bf_less {h : Nat → Int} {x y : Nat} (hxy : x < y) : h x < h y ↔ bf h y x := by unfold bf; omega
theorem bf_not_less {h : Nat → Int} {x y : Nat} (hxy : x < y) (hn : ¬ h x < h y) : bf h x y := by unfold bf; omega

def sw (d : Nat → Nat) (i j : Nat) : Nat → Nat := fun k => if k = i then d j else if k = j then d i else d k

inductive Sws (a b : Nat) (d : Nat → Nat) : (Nat → Nat) → Prop
  | refl : Sws a b d d
  | step {d1 : Nat → Nat} (h : Sws a b d d1) (i j : Nat) (hi : a ≤ i ∧ i < b) (hj : a ≤ j ∧ j < b) : Sws a b d (sw d1 i j)

theorem Sws.trans {a b : Nat} {d d1 d2 : Nat → Nat} (h1 : Sws a b d d1) (h2 : Sws a b d1 d2) : Sws a b d d2 := by
  induction h2 with
  | refl => exact h1
  | step h i j hi hj ih => exact .step ih i j hi hj
theorem Sws.mono {a b a' b' : Nat} {d d1 : Nat → Nat} (h : Sws a b d d1) (h1 : a' ≤ a) (h2 : b ≤ b') : Sws a' b' d d1 := by
  induction h with
  | refl => exact .refl
  | step h i j hi hj ih => exact .step ih i j (by omega) (by omega)
theorem Sws.out {a b : Nat} {d d1 : Nat → Nat} (h : Sws a b d d1) (k : Nat) (hk : k < a ∨ b ≤ k) : d1 k = d k := by
  induction h with
  | refl => rfl
  | step h i j hi hj ih => unfold sw; rw [if_neg (by omega), if_neg (by omega)]; exact ih
theorem Sws.from {a b : Nat} {d d1 : Nat → Nat} (h : Sws a b d d1) : ∀ k, a ≤ k → k < b → ∃ k', a ≤ k' ∧ k' < b ∧ d1 k = d k' := by
  induction h with
  | refl => exact fun k h1 h2 => ⟨k, h1, h2, rfl⟩
  | step h i j hi hj ih =>
    intro k h1 h2
    unfold sw
    by_cases e1 : k = i
    · rw [if_pos e1]; exact ih j hj.1 hj.2
    · rw [if_neg e1]
      by_cases e2 : k = j
      · rw [if_pos e2]; exact ih i hi.1 hi.2
      · rw [if_neg e2]; exact ih k h1 h2
def Inj (n : Nat) (d : Nat → Nat) : Prop := ∀ i j, i < n → j < n → d i = d j → i = j
def tau (i j k : Nat) : Nat := if k = i then j else if k = j then i else k
theorem sw_tau (d : Nat → Nat) (i j k : Nat) : sw d i j k = d (tau i j k) := by
  unfold sw tau
  split
  · rfl
  · split <;> rfl
theorem tau_inj (i j p q : Nat) (h : tau i j p = tau i j q) : p = q := by
  unfold tau at h
  split at h <;> split at h <;> (repeat' split at h) <;> omega
theorem tau_lt {n i j p : Nat} (hi : i < n) (hj : j < n) (hp : p < n) : tau i j p < n := by
  unfold tau
  split
  · exact hj
  · split
    · exact hi
    · exact hp
theorem Inj.sw {n : Nat} {d : Nat → Nat} (h : Inj n d) {i j : Nat} (hi : i < n) (hj : j < n) : Inj n (Ybulkcoeq.sw d i j) := by
  intro p q hp hq e
  rw [sw_tau, sw_tau] at e
  exact tau_inj i j p q (h _ _ (tau_lt hi hj hp) (tau_lt hi hj hq) e)
theorem Sws.inj {a b n : Nat} {d d1 : Nat → Nat} (h : Sws a b d d1) (hb : b ≤ n) (hi : Inj n d) : Inj n d1 := by
  induction h with
  | refl => exact hi
  | step h i j h1 h2 ih => exact ih.sw (by omega) (by omega)

def Srt (h : Nat → Int) (a b : Nat) (d : Nat → Nat) : Prop := ∀ i j, a ≤ i → i < j → j < b → bf h (d i) (d j)
def Crs (a m b : Nat) (d : Nat → Nat) : Prop := ∀ i j, a ≤ i → i < m → m ≤ j → j < b → d i < d j

theorem Srt.le {h : Nat → Int} {a b : Nat} {d : Nat → Nat} (hs : Srt h a b d) {x i j : Nat} (hx : bf h x (d i)) (h1 : a ≤ i) (h2 : i ≤ j) (h3 : j < b) : bf h x (d j) := by
  rcases Nat.lt_or_ge i j with h4 | h4
  · exact bf_trans hx (hs i j h1 h4 h3)
  · have : i = j := by omega
    subst this; exact hx
theorem Srt.ge {h : Nat → Int} {a b : Nat} {d : Nat → Nat} (hs : Srt h a b d) {x i j : Nat} (hx : bf h (d j) x) (h1 : a ≤ i) (h2 : i ≤ j) (h3 : j < b) : bf h (d i) x := by
  rcases Nat.lt_or_ge i j with h4 | h4
  · exact bf_trans (hs i j h1 h4 h3) hx
  · have : i = j := by omega
    subst this; exact hx

/-! ### The moves -/
/-- Where position k of the rotated row comes from. -/
def rotI (a m b : Nat) (k : Nat) : Nat := if k < a ∨ b ≤ k then k else if k < a + (b - m) then k + (m - a) else k - (b - m)
def swI (a b n : Nat) (k : Nat) : Nat := if a ≤ k ∧ k < a + n then k - a + b else if b ≤ k ∧ k < b + n then k - b + a else k
theorem rot_step1 (m i j k : Nat) (hi : i ≤ m) (hj : 0 < j) (h : j < i) : rotI (m - i) m (m + j) k = swI (m - i) m j (rotI (m - i + j) m (m + j) k) := by
  unfold rotI swI
  split <;> split <;> (repeat' split) <;> omega
theorem rot_step2 (m i j k : Nat) (hi : i ≤ m) (hi0 : 0 < i) (h : i < j) : rotI (m - i) m (m + j) k = swI (m - i) (m + j - i) i (rotI (m - i) m (m + (j - i)) k) := by
  unfold rotI swI
  split <;> split <;> (repeat' split) <;> omega
theorem rot_last (m i k : Nat) (hi : i ≤ m) : rotI (m - i) m (m + i) k = swI (m - i) m i k := by
  unfold rotI swI
  split <;> (repeat' split) <;> omega
theorem swI_succ (d : Nat → Nat) (a b n : Nat) (h : a + n < b) : sw (fun k => d (swI a b n k)) (a + n) (b + n) = fun k => d (swI a b (n + 1) k) := by
  funext k
  rw [sw_tau]
  show d (swI a b n (tau (a + n) (b + n) k)) = d (swI a b (n + 1) k)
  congr 1
  unfold swI tau
  split <;> split <;> (repeat' split) <;> omega

/-- The element at a carried up to position k. -/
def upTo (d : Nat → Nat) (a k : Nat) : Nat → Nat := fun p => if a ≤ p ∧ p < k then d (p + 1) else if p = k then d a else d p
theorem upTo_start (d : Nat → Nat) (a : Nat) : upTo d a a = d := by
  funext p; unfold upTo; rw [if_neg (by omega)]; split
  · subst_vars; rfl
  · rfl
theorem upTo_succ (d : Nat → Nat) (a k : Nat) (h : a ≤ k) : sw (upTo d a k) k (k + 1) = upTo d a (k + 1) := by
  funext p
  unfold sw upTo
  by_cases h1 : p = k
  · subst h1
    rw [if_pos rfl, if_neg (by omega), if_neg (by omega), if_pos (by omega)]
  · rw [if_neg h1]
    by_cases h2 : p = k + 1
    · subst h2
      rw [if_pos rfl, if_neg (by omega), if_pos rfl, if_neg (by omega), if_pos rfl]
    · rw [if_neg h2]
      by_cases h3 : a ≤ p ∧ p < k
      · rw [if_pos h3, if_pos (by omega)]
      · rw [if_neg h3, if_neg h1, if_neg (by omega), if_neg h2]
/-- The element at m carried down to position k. -/
def downTo (d : Nat → Nat) (m k : Nat) : Nat → Nat := fun p => if k < p ∧ p ≤ m then d (p - 1) else if p = k then d m else d p
theorem downTo_start (d : Nat → Nat) (m : Nat) : downTo d m m = d := by
  funext p; unfold downTo; rw [if_neg (by omega)]; split
  · subst_vars; rfl
  · rfl
theorem downTo_succ (d : Nat → Nat) (m k : Nat) (h0 : 0 < k) (h : k ≤ m) : sw (downTo d m k) k (k - 1) = downTo d m (k - 1) := by
  funext p
  unfold sw downTo
  by_cases h1 : p = k
  · subst h1
    rw [if_pos rfl, if_neg (by omega), if_neg (by omega), if_pos (by omega)]
  · rw [if_neg h1]
    by_cases h2 : p = k - 1
    · rw [if_pos h2, if_neg (by omega), if_pos rfl, if_neg (by omega), if_pos h2]
    · rw [if_neg h2]
      by_cases h3 : k < p ∧ p ≤ m
      · rw [if_pos h3, if_pos (by omega)]
      · rw [if_neg h3, if_neg h1, if_neg (by omega), if_neg h2]

theorem up_sorted {h : Nat → Int} {d : Nat → Nat} {a b i : Nat} (hs : Srt h (a + 1) b d) (h1 : a + 1 ≤ i) (h2 : i ≤ b) (hlo : ∀ k, a + 1 ≤ k → k < i → bf h (d k) (d a)) (hhi : ∀ k, i ≤ k → k < b → bf h (d a) (d k)) : Srt h a b (upTo d a (i - 1)) := by
  intro p q hp hpq hq
  unfold upTo
  by_cases p1 : a ≤ p ∧ p < i - 1
  · rw [if_pos p1]
    by_cases q1 : a ≤ q ∧ q < i - 1
    · rw [if_pos q1]; exact hs _ _ (by omega) (by omega) (by omega)
    · rw [if_neg q1]
      by_cases q2 : q = i - 1
      · rw [if_pos q2]; exact hlo _ (by omega) (by omega)
      · rw [if_neg q2]; exact hs _ _ (by omega) (by omega) (by omega)
  · rw [if_neg p1, if_neg (by omega : ¬ (a ≤ q ∧ q < i - 1))]
    by_cases p2 : p = i - 1
    · rw [if_pos p2, if_neg (by omega)]; exact hhi _ (by omega) (by omega)
    · rw [if_neg p2, if_neg (by omega)]; exact hs _ _ (by omega) (by omega) (by omega)
theorem down_sorted {h : Nat → Int} {d : Nat → Nat} {a m i : Nat} (hs : Srt h a m d) (h1 : a ≤ i) (h2 : i ≤ m) (hlo : ∀ k, a ≤ k → k < i → bf h (d k) (d m)) (hhi : ∀ k, i ≤ k → k < m → bf h (d m) (d k)) : Srt h a (m + 1) (downTo d m i) := by
  intro p q hp hpq hq
  unfold downTo
  by_cases q1 : i < q ∧ q ≤ m
  · rw [if_pos q1]
    by_cases p1 : i < p ∧ p ≤ m
    · rw [if_pos p1]; exact hs _ _ (by omega) (by omega) (by omega)
    · rw [if_neg p1]
      by_cases p2 : p = i
      · rw [if_pos p2]; exact hhi _ (by omega) (by omega)
      · rw [if_neg p2]; exact hs _ _ (by omega) (by omega) (by omega)
  · rw [if_neg q1, if_neg (by omega : ¬ (i < p ∧ p ≤ m)), if_neg (by omega : ¬ p = i)]
    by_cases q2 : q = i
    · rw [if_pos q2]; exact hlo _ (by omega) (by omega)
    · rw [if_neg q2]; exact hs _ _ (by omega) (by omega) (by omega)
end Go.Proofs.Ybulkcoeq
