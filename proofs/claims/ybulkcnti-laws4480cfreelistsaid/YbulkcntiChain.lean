import Derived.Test.YbulkcntiTop
namespace Go.Proofs.Ybulkcnti
open Go.RowKit
set_option linter.unusedVariables false
set_option linter.unusedSimpArgs false

def szOf (ko x : Nat) : Nat := ko + x % 32 + x / 8 % 32
def atOf (ko : Nat) (x : Nat → Nat) : Nat → Nat
  | 0 => 32
  | j + 1 => atOf ko x j + szOf ko (x j)
def nxOf (ko : Nat) (x : Nat → Nat) (k j : Nat) : Nat := if j + 1 < k then atOf ko x (j + 1) else 0

theorem szOf_lo {ko : Nat} (h : ko = 9 ∨ ko = 17) (x : Nat) : 9 ≤ szOf ko x := by unfold szOf; omega
theorem szOf_hi {ko : Nat} (h : ko = 9 ∨ ko = 17) (x : Nat) : szOf ko x ≤ 79 := by unfold szOf; omega
theorem atOf_lo (ko : Nat) (x : Nat → Nat) : ∀ j, 32 ≤ atOf ko x j
  | 0 => Nat.le_refl _
  | j + 1 => by have := atOf_lo ko x j; rw [atOf]; omega
theorem atOf_hi {ko : Nat} (h : ko = 9 ∨ ko = 17) (x : Nat → Nat) : ∀ j, atOf ko x j ≤ 32 + 79 * j
  | 0 => Nat.le_refl _
  | j + 1 => by have := atOf_hi h x j; have := szOf_hi h (x j); rw [atOf]; omega
theorem atOf_mono (ko : Nat) (x : Nat → Nat) (j : Nat) : ∀ i, j < i → atOf ko x j + szOf ko (x j) ≤ atOf ko x i
  | 0, h => by omega
  | i + 1, h => by
    rw [show atOf ko x (i + 1) = atOf ko x i + szOf ko (x i) from rfl]
    rcases Nat.lt_or_ge j i with h1 | h1
    · have := atOf_mono ko x j i h1; omega
    · have : j = i := by omega
      subst this; omega
theorem atOf_gap {ko : Nat} (h : ko = 9 ∨ ko = 17) (x : Nat → Nat) {j i : Nat} (hj : j < i) : atOf ko x j + 9 ≤ atOf ko x i := by
  have := atOf_mono ko x j i hj; have := szOf_lo h (x j); omega
theorem nxOf_hi {ko : Nat} (h : ko = 9 ∨ ko = 17) (x : Nat → Nat) (k j : Nat) (hk : k ≤ 8) : nxOf ko x k j ≤ 664 := by
  unfold nxOf
  split
  · have := atOf_hi h x (j + 1); omega
  · omega

/-- The page as the law lays it: k freed records. -/
structure Laid (ko : Nat) (x : Nat → Nat) (k : Nat) (D : List Int) : Prop where
  len : D.length = 2048
  h0 : (if D.getD 0 0 = 1 then 17 else 9 : Int) = (ko : Int)
  h12 : get2 D 12 = 2
  h4 : get2 D 4 = 2 + (k : Int)
  h6 : get2 D 6 = (atOf ko x k : Int)
  h8 : get2 D 8 = (if 0 < k then 32 else 0 : Nat)
  h10 : get2 D 10 = (atOf ko x k : Int) - 32
  r1 : ∀ j, j < k → get2 D (atOf ko x j + 1) = 2 + (j : Int)
  r3 : ∀ j, j < k → get2 D (atOf ko x j + 3) = (nxOf ko x k j : Int)
  r5 : ∀ j, j < k → get2 D (atOf ko x j + 5) = ((x j % 32 : Nat) : Int)
  r7 : ∀ j, j < k → get2 D (atOf ko x j + 7) = ((x j / 8 % 32 : Nat) : Int)

def recsFrom (ko : Nat) (x : Nat → Nat) : Nat → Nat → List (Nat × Nat)
  | _, 0 => []
  | j, m + 1 => (atOf ko x j, szOf ko (x j)) :: recsFrom ko x (j + 1) m

theorem Laid.chain {ko : Nat} {x : Nat → Nat} {k : Nat} {D : List Int} (h : Laid ko x k D) (hko : ko = 9 ∨ ko = 17) (hk : k ≤ 8) :
    ∀ m j, j + m = k → Chain D 2048 (if 0 < m then atOf ko x j else 0) (recsFrom ko x j m)
  | 0, j, _ => rfl
  | m + 1, j, hj => by
    have h1 := atOf_lo ko x j
    have h2 := atOf_hi hko x j
    have h3 := szOf_hi hko (x j)
    have h4 := szOf_lo hko (x j)
    have h5 := atOf_mono ko x j k (by omega)
    rw [if_pos (by omega), recsFrom]
    refine ⟨rfl, h1, by omega, by omega, by omega, ?_, ?_, nxOf ko x k j, h.r3 j (by omega), ?_, ?_⟩
    · unfold rsz
      rw [h.h0, h.r5 j (by omega), h.r7 j (by omega)]
      unfold szOf
      omega
    · rw [h.h10]; omega
    · unfold nxOf
      split
      · exact Or.inr (Nat.le_refl _)
      · exact Or.inl rfl
    · have := h.chain hko hk m (j + 1) (by omega)
      unfold nxOf
      rcases Nat.eq_zero_or_pos m with hm | hm
      · subst hm; rw [if_neg (by omega)]; exact this
      · rw [if_pos (by omega)]; rw [if_pos hm] at this; exact this

theorem find_none (ko : Nat) (x : Nat → Nat) (size : Int) : ∀ m j p, (∀ i, j ≤ i → i < j + m → (szOf ko (x i) : Int) < size) → findFit size p (recsFrom ko x j m) = none
  | 0, _, _, _ => rfl
  | m + 1, j, p, h => by
    rw [recsFrom, findFit, if_pos (h j (Nat.le_refl _) (by omega))]
    exact find_none ko x size m (j + 1) _ (fun i h1 h2 => h i (by omega) (by omega))
theorem find_some (ko : Nat) (x : Nat → Nat) (size : Int) (i0 : Nat) (hfit : ¬ (szOf ko (x i0) : Int) < size) : ∀ m j p, j ≤ i0 → i0 < j + m → (∀ i, j ≤ i → i < i0 → (szOf ko (x i) : Int) < size) →
    findFit size p (recsFrom ko x j m) = some (if i0 = j then p else atOf ko x (i0 - 1), atOf ko x i0, szOf ko (x i0))
  | 0, j, p, h1, h2, _ => by omega
  | m + 1, j, p, h1, h2, h => by
    rw [recsFrom, findFit]
    by_cases he : i0 = j
    · subst he
      rw [if_neg hfit, if_pos rfl]
    · rw [if_pos (h j (Nat.le_refl _) (by omega)), if_neg he]
      rw [find_some ko x size i0 hfit m (j + 1) _ (by omega) (by omega) (fun i h3 h4 => h i (by omega) h4)]
      by_cases he2 : i0 = j + 1
      · rw [if_pos he2, he2]; rfl
      · rw [if_neg he2]

/-- What the law's model writes when record i0 is taken. -/
def linked (ko : Nat) (x : Nat → Nat) (k : Nat) (D : List Int) (i0 : Nat) : List Int := if i0 = 0 then put D 8 (nxOf ko x k i0) else put D (atOf ko x (i0 - 1) + 3) (nxOf ko x k i0)
def taken (ko : Nat) (x : Nat → Nat) (k : Nat) (D : List Int) (i0 : Nat) (size : Int) : List Int := put (clr (szOf ko (x i0)) (linked ko x k D i0) (atOf ko x i0)) 10 ((atOf ko x k : Int) - 32 - size)

theorem Laid.unlink {ko : Nat} {x : Nat → Nat} {k : Nat} {D : List Int} (h : Laid ko x k D) (i0 : Nat) (hi : i0 < k) :
    unlink D (if i0 = 0 then 0 else atOf ko x (i0 - 1)) (atOf ko x i0) = linked ko x k D i0 := by
  unfold Ybulkcnti.unlink linked
  by_cases h0 : i0 = 0
  · rw [if_pos h0, if_pos rfl, if_pos h0, h.r3 i0 hi]
  · rw [if_neg h0, if_neg (by have := atOf_lo ko x (i0 - 1); omega), if_neg h0, h.r3 i0 hi]

theorem linked_get {ko : Nat} {x : Nat → Nat} {k : Nat} {D : List Int} (hko : ko = 9 ∨ ko = 17) (i0 o : Nat) (ho : o = 10 ∨ o = atOf ko x i0 + 1) : get2 (linked ko x k D i0) o = get2 D o := by
  have h1 := atOf_lo ko x i0
  unfold linked
  by_cases h0 : i0 = 0
  · rw [if_pos h0, get2_put_ne _ _ _ _ (by omega)]
  · have h2 := atOf_lo ko x (i0 - 1)
    have h3 := atOf_gap hko x (show i0 - 1 < i0 by omega)
    rw [if_neg h0, get2_put_ne _ _ _ _ (by omega)]

theorem Laid.wiped10 {ko : Nat} {x : Nat → Nat} {k : Nat} {D : List Int} (h : Laid ko x k D) (hko : ko = 9 ∨ ko = 17) (i0 : Nat) (hi : i0 < k) :
    get2 (wiped D (if i0 = 0 then 0 else atOf ko x (i0 - 1)) (atOf ko x i0) (szOf ko (x i0))) 10 = (atOf ko x k : Int) - 32 := by
  unfold wiped
  have h1 := atOf_lo ko x i0
  rw [h.unlink i0 hi, get2_clr_out _ _ _ _ (by omega), linked_get hko i0 10 (Or.inl rfl), h.h10]

theorem Laid.room {ko : Nat} {x : Nat → Nat} {k : Nat} {D : List Int} (h : Laid ko x k D) : roomOf D 2048 = 2040 - (atOf ko x k : Int) := by
  unfold roomOf; rw [h.h12, h.h6]; omega

theorem Laid.spec_take {ko : Nat} {x : Nat → Nat} {k : Nat} {D : List Int} (h : Laid ko x k D) (hko : ko = 9 ∨ ko = 17) (size spare : Int) (i0 : Nat) (hi : i0 < k) (hroom : spare ≤ 2040 - (atOf ko x k : Int))
    (hlt : ∀ i, i < i0 → (szOf ko (x i) : Int) < size) (hfit : ¬ (szOf ko (x i0) : Int) < size) :
    allocSpec D 2048 size spare (recsFrom ko x 0 k) = ((atOf ko x i0 : Int), 2 + (i0 : Int), taken ko x k D i0 size) := by
  unfold allocSpec
  rw [h.room, if_pos hroom, find_some ko x size i0 hfit k 0 0 (Nat.zero_le _) (by omega) (fun i _ h2 => hlt i h2)]
  simp only
  rw [show took D (if i0 = 0 then 0 else atOf ko x (i0 - 1)) (atOf ko x i0) (szOf ko (x i0)) size = taken ko x k D i0 size by
    unfold took
    rw [h.wiped10 hko i0 hi]
    unfold wiped taken
    rw [h.unlink i0 hi]]
  rw [h.unlink i0 hi, linked_get hko i0 _ (Or.inr rfl), h.r1 i0 hi]

theorem Laid.spec_top {ko : Nat} {x : Nat → Nat} {k : Nat} {D : List Int} (h : Laid ko x k D) (size spare : Int)
    (hno : ¬ spare ≤ 2040 - (atOf ko x k : Int) ∨ ∀ i, i < k → (szOf ko (x i) : Int) < size) :
    allocSpec D 2048 size spare (recsFrom ko x 0 k) = if 2040 - (atOf ko x k : Int) < size + spare then (0, 0, D) else ((atOf ko x k : Int), 2 + (k : Int), put (put D 6 ((atOf ko x k : Int) + size)) 4 (3 + (k : Int))) := by
  have hn : (if spare ≤ 2040 - (atOf ko x k : Int) then findFit size 0 (recsFrom ko x 0 k) else none) = none := by
    rcases hno with h1 | h1
    · rw [if_neg h1]
    · rw [find_none ko x size k 0 0 (fun i _ h2 => h1 i (by omega))]
      split <;> rfl
  unfold allocSpec
  rw [h.room, hn, h.h6, h.h4]
  simp only
  rw [show (2 + (k : Int) + 1) = 3 + (k : Int) by omega]

/-- allocate on the laid page. -/
theorem Laid.allocate {ko : Nat} {x : Nat → Nat} {k : Nat} {D : List Int} (h : Laid ko x k D) (hko : ko = 9 ∨ ko = 17) (hk : k ≤ 8) (size spare : Int) (hs0 : 0 ≤ size) (hs1 : size ≤ 100000) (hq0 : 0 ≤ spare) (hq1 : spare ≤ 100000)
    (b : Nat) (w : World) (hp : Pg w b 2048 2048 D) :
    Calls Yba.prog 8 #[nd b 2048 2048, .int .i64 size, .int .i64 spare] w fun e w' => e = .returned (.tuple #[.int .i64 (allocSpec D 2048 size spare (recsFrom ko x 0 k)).1, .int .i64 (allocSpec D 2048 size spare (recsFrom ko x 0 k)).2.1]) ∧ Only b w w' ∧ Pg w' b 2048 2048 (allocSpec D 2048 size spare (recsFrom ko x 0 k)).2.2 := by
  refine allocate_any b 2048 2048 size spare D _ w hp hs0 hs1 hq0 hq1 (by rw [h.h4]; omega) _ h.h8 (h.chain hko hk k 0 (by omega)) ?_
  intro prev r hh hf
  by_cases hall : ∀ i, i < k → (szOf ko (x i) : Int) < size
  · rw [find_none ko x size k 0 0 (fun i _ h2 => hall i (by omega))] at hf
    cases hf
  · obtain ⟨i0, hi0, hfit, hmin⟩ : ∃ i0, i0 < k ∧ ¬ (szOf ko (x i0) : Int) < size ∧ ∀ i, i < i0 → (szOf ko (x i) : Int) < size := by
      have : ∃ i0, i0 < k ∧ ¬ (szOf ko (x i0) : Int) < size := by
        refine Classical.byContradiction fun hn => hall fun i hi => ?_
        exact Classical.byContradiction fun hc => hn ⟨i, hi, hc⟩
      obtain ⟨i1, hi1, hf1⟩ := this
      induction i1 using Nat.strongRecOn with
      | _ i1 ih =>
        by_cases hm : ∀ i, i < i1 → (szOf ko (x i) : Int) < size
        · exact ⟨i1, hi1, hf1, hm⟩
        · obtain ⟨i2, h2, h3⟩ : ∃ i2, i2 < i1 ∧ ¬ (szOf ko (x i2) : Int) < size := by
            refine Classical.byContradiction fun hn => hm fun i hi => ?_
            exact Classical.byContradiction fun hc => hn ⟨i, hi, hc⟩
          exact ih i2 h2 (by omega) h3
    rw [find_some ko x size i0 hfit k 0 0 (Nat.zero_le _) (by omega) (fun i _ h2 => hmin i h2)] at hf
    injection hf with hf
    injection hf with h1 h2
    injection h2 with h2 h3
    rw [← h1, ← h2, ← h3, h.wiped10 hko i0 hi0]
    have := atOf_mono ko x i0 k hi0
    have := atOf_lo ko x i0
    omega
end Go.Proofs.Ybulkcnti
