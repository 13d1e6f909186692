import Derived.Test.YbulkcntwDoorNum
namespace Go.Proofs.YbulkcntwDoor
set_option linter.unusedVariables false
set_option linter.unusedSimpArgs false

theorem hM : M = 18446744073709551616 := rfl
/-- An identifier as a number. -/
def num (h l : Nat) : Nat := h * M + l
theorem num_lt {h l : Nat} (q1 : h < M) (q2 : l < M) : num h l < M * M := by unfold num M at *; omega
theorem cmp_le {h1 l1 h2 l2 : Nat} (q1 : l1 < M) (q2 : l2 < M) : cmp h1 l1 h2 l2 ≤ 0 ↔ num h1 l1 ≤ num h2 l2 := by
  unfold cmp num M at *
  by_cases a : h1 < h2
  · rw [if_pos a]; omega
  · rw [if_neg a]
    by_cases b : h2 < h1
    · rw [if_pos b]; omega
    · rw [if_neg b]
      by_cases c : l1 < l2
      · rw [if_pos c]; omega
      · rw [if_neg c]
        by_cases d : l2 < l1
        · rw [if_pos d]; omega
        · rw [if_neg d]; omega
theorem cmp_lt {h1 l1 h2 l2 : Nat} (q1 : l1 < M) (q2 : l2 < M) : cmp h1 l1 h2 l2 < 0 ↔ num h1 l1 < num h2 l2 := by
  unfold cmp num M at *
  by_cases a : h1 < h2
  · rw [if_pos a]; omega
  · rw [if_neg a]
    by_cases b : h2 < h1
    · rw [if_pos b]; omega
    · rw [if_neg b]
      by_cases c : l1 < l2
      · rw [if_pos c]; omega
      · rw [if_neg c]
        by_cases d : l2 < l1
        · rw [if_pos d]; omega
        · rw [if_neg d]; omega
/-- The clockwise distance, as the pair that sub answers. -/
def subH (h1 l1 h2 l2 : Nat) : Nat := (h1 + M - h2 - (if l1 < l2 then 1 else 0)) % M
def subL (l1 l2 : Nat) : Nat := (l1 + M - l2) % M
theorem subL_lt (l1 l2 : Nat) : subL l1 l2 < M := Nat.mod_lt _ (by decide)
theorem subH_lt (h1 l1 h2 l2 : Nat) : subH h1 l1 h2 l2 < M := Nat.mod_lt _ (by decide)
theorem sub_num {h1 l1 h2 l2 : Nat} (q1 : h1 < M) (q2 : l1 < M) (q3 : h2 < M) (q4 : l2 < M) : num (subH h1 l1 h2 l2) (subL l1 l2) = if num h2 l2 ≤ num h1 l1 then num h1 l1 - num h2 l2 else num h1 l1 + M * M - num h2 l2 := by
  unfold num subH subL M at *
  by_cases a : l1 < l2
  · simp only [if_pos a]
    by_cases b : h2 * 18446744073709551616 + l2 ≤ h1 * 18446744073709551616 + l1
    · rw [if_pos b]; omega
    · rw [if_neg b]; omega
  · simp only [if_neg a]
    by_cases b : h2 * 18446744073709551616 + l2 ≤ h1 * 18446744073709551616 + l1
    · rw [if_pos b]; omega
    · rw [if_neg b]; omega

theorem num_le {h1 l1 h2 l2 : Nat} (q1 : l1 < M) (q2 : l2 < M) : num h1 l1 ≤ num h2 l2 ↔ h1 < h2 ∨ (h1 = h2 ∧ l1 ≤ l2) := by
  unfold num M at *
  omega

/-! ### Masks of one half -/
theorem or_low (x k : Nat) : x ||| (2 ^ k - 1) = x / 2 ^ k * 2 ^ k + (2 ^ k - 1) := by
  have hp : 0 < 2 ^ k := Nat.pos_of_ne_zero (by simp)
  have hr : x % 2 ^ k < 2 ^ k := Nat.mod_lt _ hp
  have e1 : x = 2 ^ k * (x / 2 ^ k) ||| (x % 2 ^ k) := by
    rw [← Nat.two_pow_add_eq_or_of_lt hr]
    exact (Nat.div_add_mod x (2 ^ k)).symm
  have e2 : (x % 2 ^ k) ||| (2 ^ k - 1) = 2 ^ k - 1 := by
    have a := Nat.or_lt_two_pow hr (show 2 ^ k - 1 < 2 ^ k by omega)
    have b := Nat.right_le_or (n := x % 2 ^ k) (m := 2 ^ k - 1)
    omega
  have e3 : 2 ^ k * (x / 2 ^ k) + (2 ^ k - 1) = 2 ^ k * (x / 2 ^ k) ||| (2 ^ k - 1) := Nat.two_pow_add_eq_or_of_lt (by omega) _
  calc x ||| (2 ^ k - 1) = (2 ^ k * (x / 2 ^ k) ||| (x % 2 ^ k)) ||| (2 ^ k - 1) := by rw [← e1]
    _ = 2 ^ k * (x / 2 ^ k) ||| (2 ^ k - 1) := by rw [Nat.or_assoc, e2]
    _ = x / 2 ^ k * 2 ^ k + (2 ^ k - 1) := by rw [← e3, Nat.mul_comm]

theorem and_high (x k : Nat) (hk : k ≤ 64) (hx : x < M) : x &&& (M - 2 ^ k) = 0 ↔ x < 2 ^ k := by
  have hp : 0 < 2 ^ k := Nat.pos_of_ne_zero (by simp)
  have hle : 2 ^ k ≤ 2 ^ 64 := Nat.pow_le_pow_right (by omega) hk
  have e : M - 2 ^ k = 2 ^ k * (2 ^ (64 - k) - 1) := by
    rw [Nat.mul_sub, ← Nat.pow_add, Nat.mul_one, show k + (64 - k) = 64 by omega]
  have hd : x / 2 ^ k < 2 ^ (64 - k) := by
    rw [Nat.div_lt_iff_lt_mul hp, ← Nat.pow_add, show 64 - k + k = 64 by omega]
    exact hx
  have e2 : x &&& (M - 2 ^ k) = 2 ^ k * (x / 2 ^ k) := by
    apply Nat.eq_of_testBit_eq
    intro i
    rw [e, Nat.testBit_and, Nat.testBit_two_pow_mul, Nat.testBit_two_pow_mul]
    by_cases hi : k ≤ i
    · simp only [hi, decide_true, Bool.true_and, Nat.testBit_two_pow_sub_one, Nat.testBit_div_two_pow]
      rw [show i - k + k = i by omega]
      by_cases h64 : i - k < 64 - k
      · simp [h64]
      · have : x.testBit i = false := Nat.testBit_lt_two_pow (Nat.lt_of_lt_of_le hx (by show 2 ^ 64 ≤ 2 ^ i; exact Nat.pow_le_pow_right (by omega) (by omega)))
        simp [h64, this]
    · simp [hi]
  rw [e2]
  constructor
  · intro h
    have : x / 2 ^ k = 0 := by
      rcases Nat.mul_eq_zero.1 h with h1 | h1
      · omega
      · exact h1
    exact (Nat.div_eq_zero_iff_lt hp).1 this
  · intro h
    rw [(Nat.div_eq_zero_iff_lt hp).2 h]; rfl
theorem xor_small (x y k : Nat) : x ^^^ y < 2 ^ k ↔ x / 2 ^ k = y / 2 ^ k := by
  have hp : 0 < 2 ^ k := Nat.pos_of_ne_zero (by simp)
  rw [← Nat.div_eq_zero_iff_lt hp, Nat.xor_div_two_pow]
  constructor
  · intro h
    apply Nat.eq_of_testBit_eq
    intro i
    have h1 := congrArg (fun z => z.testBit i) h
    simp only [Nat.testBit_xor, Nat.zero_testBit] at h1
    cases h2 : (x / 2 ^ k).testBit i <;> cases h3 : (y / 2 ^ k).testBit i <;> simp [h2, h3] at h1 ⊢
  · intro h
    rw [h, Nat.xor_self]

/-- The law's own test: the same first n bits, and not below the key. -/
def inB (h l kh kl n : Nat) : Prop := ((h ^^^ kh) &&& onesHi n = 0 ∧ (l ^^^ kl) &&& onesLo n = 0) ∧ num kh kl ≤ num h l
/-- The branch's last identifier. -/
def endH (kh n : Nat) : Nat := kh ||| (M - 1 - onesHi n)
def endL (kl n : Nat) : Nat := kl ||| (M - 1 - onesLo n)
theorem end_lo (x : Nat) (hx : x < M) : x ||| (M - 1) = M - 1 := by
  have := or_low x 64
  rw [show (2 : Nat) ^ 64 = M from rfl, Nat.div_eq_of_lt hx] at this
  omega
theorem div_iff {a b p : Nat} (hp : 0 < p) (hab : b ≤ a) : a / p = b / p ↔ a ≤ b / p * p + (p - 1) := by
  have h1 := Nat.div_add_mod b p
  have h2 := Nat.mod_lt b hp
  have h3 := Nat.div_add_mod a p
  have h4 := Nat.mod_lt a hp
  rw [Nat.mul_comm] at h1 h3
  constructor
  · intro h
    rw [← h]
    omega
  · intro h
    have q1 : b / p ≤ a / p := Nat.div_le_div_right hab
    rcases Nat.lt_or_ge (b / p) (a / p) with q2 | q2
    · have : (b / p + 1) * p ≤ a / p * p := Nat.mul_le_mul_right _ q2
      rw [Nat.add_mul] at this
      omega
    · omega
theorem end_lt {kl : Nat} (q4 : kl < M) (x : Nat) : kl ||| (M - 1 - x) < M := Nat.or_lt_two_pow (n := 64) q4 (by show M - 1 - x < M; have := hM; omega)
theorem in_iff {h l kh kl n : Nat} (hn : n ≤ 128) (q1 : h < M) (q2 : l < M) (q3 : kh < M) (q4 : kl < M) :
    inB h l kh kl n ↔ num kh kl ≤ num h l ∧ num h l ≤ num (endH kh n) (endL kl n) := by
  have hM := hM
  have hel : endL kl n < M := end_lt q4 _
  have hkl : kl ≤ endL kl n := Nat.left_le_or
  unfold inB
  rw [num_le q4 q2, num_le q2 hel]
  by_cases c0 : n = 0
  · have e1 : onesHi n = 0 := by unfold onesHi; rw [if_pos c0]
    have e2 : onesLo n = 0 := by unfold onesLo; rw [if_pos (by omega)]
    have e3 : endH kh n = M - 1 := by unfold endH; rw [e1, Nat.sub_zero, end_lo kh q3]
    have e4 : endL kl n = M - 1 := by unfold endL; rw [e2, Nat.sub_zero, end_lo kl q4]
    rw [e1, e2, Nat.and_zero, Nat.and_zero, e3, e4]
    constructor
    · rintro ⟨_, h⟩; exact ⟨h, by omega⟩
    · rintro ⟨h, _⟩; exact ⟨⟨rfl, rfl⟩, h⟩
  · by_cases c1 : n ≤ 64
    · have e1 : onesHi n = M - 2 ^ (64 - n) := by unfold onesHi; rw [if_neg c0, if_pos c1]
      have e2 : onesLo n = 0 := by unfold onesLo; rw [if_pos c1]
      have hp : 0 < 2 ^ (64 - n) := Nat.pos_of_ne_zero (by simp)
      have hle : 2 ^ (64 - n) ≤ 2 ^ 63 := Nat.pow_le_pow_right (by omega) (by omega)
      have e3 : endH kh n = kh / 2 ^ (64 - n) * 2 ^ (64 - n) + (2 ^ (64 - n) - 1) := by unfold endH; rw [e1, show M - 1 - (M - 2 ^ (64 - n)) = 2 ^ (64 - n) - 1 by omega, or_low]
      have e4 : endL kl n = M - 1 := by unfold endL; rw [e2, Nat.sub_zero, end_lo kl q4]
      rw [e1, e2, Nat.and_zero, and_high _ _ (by omega) (Nat.xor_lt_two_pow (n := 64) q1 q3), xor_small, e3, e4]
      have hdv : ∀ hk : kh ≤ h, h / 2 ^ (64 - n) = kh / 2 ^ (64 - n) ↔ h ≤ kh / 2 ^ (64 - n) * 2 ^ (64 - n) + (2 ^ (64 - n) - 1) := fun hk => div_iff hp hk
      generalize kh / 2 ^ (64 - n) * 2 ^ (64 - n) + (2 ^ (64 - n) - 1) = E at *
      constructor
      · rintro ⟨⟨a, _⟩, b⟩
        have := (hdv (by omega)).1 a
        exact ⟨b, by omega⟩
      · rintro ⟨b, a⟩
        exact ⟨⟨(hdv (by omega)).2 (by omega), rfl⟩, b⟩
    · have e1 : onesHi n = M - 1 := by unfold onesHi; rw [if_neg c0, if_neg c1]
      have e2 : onesLo n = M - 2 ^ (128 - n) := by unfold onesLo; rw [if_neg c1]
      have hp : 0 < 2 ^ (128 - n) := Nat.pos_of_ne_zero (by simp)
      have hle : 2 ^ (128 - n) ≤ 2 ^ 63 := Nat.pow_le_pow_right (by omega) (by omega)
      have e3 : endL kl n = kl / 2 ^ (128 - n) * 2 ^ (128 - n) + (2 ^ (128 - n) - 1) := by unfold endL; rw [e2, show M - 1 - (M - 2 ^ (128 - n)) = 2 ^ (128 - n) - 1 by omega, or_low]
      have e4 : endH kh n = kh := by unfold endH; rw [e1, Nat.sub_self, Nat.or_zero]
      have e5 : M - 1 = M - 2 ^ 0 := rfl
      rw [e1, e2, e5, and_high _ 0 (by omega) (Nat.xor_lt_two_pow (n := 64) q1 q3), and_high _ _ (by omega) (Nat.xor_lt_two_pow (n := 64) q2 q4), xor_small, xor_small, e4]
      have hdv : ∀ hk : kl ≤ l, l / 2 ^ (128 - n) = kl / 2 ^ (128 - n) ↔ l ≤ endL kl n := fun hk => by rw [e3]; exact div_iff hp hk
      simp only [Nat.pow_zero, Nat.div_one]
      generalize endL kl n = E at *
      constructor
      · rintro ⟨⟨a, b⟩, c⟩
        have := (hdv (by omega)).1 b
        exact ⟨c, by omega⟩
      · rintro ⟨c, a⟩
        exact ⟨⟨by omega, (hdv (by omega)).2 (by omega)⟩, c⟩

/-- share.holds at a branch is the law's own test. -/
theorem holds_iff {h l kh kl n : Nat} (hn : n ≤ 128) (q1 : h < M) (q2 : l < M) (q3 : kh < M) (q4 : kl < M) :
    cmp (subH h l kh kl) (subL l kl) (subH (endH kh n) (endL kl n) kh kl) (subL (endL kl n) kl) ≤ 0 ↔ inB h l kh kl n := by
  have q5 : endH kh n < M := end_lt q3 _
  have q6 : endL kl n < M := end_lt q4 _
  have hle : num kh kl ≤ num (endH kh n) (endL kl n) := by
    have e1 : kh ≤ endH kh n := Nat.left_le_or
    have e2 : kl ≤ endL kl n := Nat.left_le_or
    rw [num_le q4 q6]
    omega
  rw [cmp_le (subL_lt _ _) (subL_lt _ _), sub_num q1 q2 q3 q4, sub_num q5 q6 q3 q4, if_pos hle, in_iff hn q1 q2 q3 q4]
  have a1 := num_lt q5 q6
  have a2 := num_lt q3 q4
  by_cases c : num kh kl ≤ num h l
  · rw [if_pos c]
    constructor
    · intro h; exact ⟨c, by omega⟩
    · intro h; omega
  · rw [if_neg c]
    constructor
    · intro h; omega
    · intro h; omega
end Go.Proofs.YbulkcntwDoor
