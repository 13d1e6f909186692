import Derived.Test.YbulkcntwDoorRows
import Derived.WalkKit
import Derived.WalkSpells
import Derived.Below
import Derived.Deep.QuietTactic
import Derived.BigQuiet
import Derived.Deep.RegionHeld3
import Derived.Shelf.Spec.BitsCarry
import Derived.Laws.Bits64b
import Derived.Laws.Bits64
namespace Go.Proofs.YbulkcntwDoor
open Go.RowKit
set_option linter.unusedVariables false
set_option linter.unusedSimpArgs false

theorem hid {p : Prop} (h : p) : Hid p := h
abbrev M : Nat := 18446744073709551616
/-- An identifier. -/
abbrev idv (h l : Nat) : Value := .agg #[.int .u64 (h : Int), .int .u64 (l : Int)]

theorem run_sub (x y b : Nat) (hb : b ≤ 1) (w : World) : (callFunc 19 #[.int .u64 (x : Int), .int .u64 (y : Int), .int .u64 (b : Int)]).run Ybad.prog w =
    .ok (.value (.tuple #[.int .u64 (((x + 18446744073709551616 - y - b) % 18446744073709551616 : Nat) : Int), .int .u64 ((if x < y + b then 1 else 0 : Nat) : Int)])) w := by
  rw [run_callFunc_extern Ybad.func19 (by kernel_rfl) (by kernel_rfl) (by kernel_rfl) (e := sub64Entry) (by kernel_rfl), run_sub64 x y b hb]
  rfl
theorem run_add (x y c : Nat) (hc : c ≤ 1) (w : World) : (callFunc 20 #[.int .u64 (x : Int), .int .u64 (y : Int), .int .u64 (c : Int)]).run Ybad.prog w =
    .ok (.value (.tuple #[.int .u64 (((x + y + c) % 18446744073709551616 : Nat) : Int), .int .u64 (((x + y + c) / 18446744073709551616 : Nat) : Int)])) w := by
  rw [run_callFunc_extern Ybad.func20 (by kernel_rfl) (by kernel_rfl) (by kernel_rfl) (e := add64Entry) (by kernel_rfl), run_add64 x y c (by omega) (by omega) (by omega) (by omega)]
  simp only [Result.andThen]
  congr 5 <;> omega

set_option maxHeartbeats 2000000 in
theorem sub_any (h1 l1 h2 l2 : Nat) (w : World) :
    Calls Ybad.prog 12 #[idv h1 l1, idv h2 l2] w fun e w' => e = .returned (idv ((h1 + M - h2 - (if l1 < l2 then 1 else 0)) % M) ((l1 + M - l2) % M)) ∧ Below w.heap.size w w' := by
  obtain ⟨b, hb⟩ : ∃ b : Nat, b = if l1 < l2 then 1 else 0 := ⟨_, rfl⟩
  have hb1 : b ≤ 1 := by rw [hb]; split <;> omega
  obtain ⟨l3, hl3⟩ : ∃ l3 : Nat, l3 = (l1 + M - l2) % M := ⟨_, rfl⟩
  obtain ⟨h3, hh3⟩ : ∃ h3 : Nat, h3 = (h1 + M - h2 - b) % M := ⟨_, rfl⟩
  have e1 : ∀ W, (callFunc 19 #[.int .u64 (l1 : Int), .int .u64 (l2 : Int), .int .u64 0]).run Ybad.prog W = .ok (.value (.tuple #[.int .u64 (l3 : Int), .int .u64 (b : Int)])) W := fun W => by
    have := run_sub l1 l2 0 (by omega) W
    rw [hl3, hb]
    simpa using this
  have e2 : ∀ W, (callFunc 19 #[.int .u64 (h1 : Int), .int .u64 (h2 : Int), .int .u64 (b : Int)]).run Ybad.prog W = .ok (.value (.tuple #[.int .u64 (h3 : Int), .int .u64 ((if h1 < h2 + b then 1 else 0 : Nat) : Int)])) W := fun W => by
    rw [hh3]; exact run_sub h1 h2 b hb1 W
  rw [← hb, ← hl3, ← hh3]
  clear hb hl3 hh3
  generalize ((if h1 < h2 + b then 1 else 0 : Nat) : Int) = bb at e2
  go_enter Ybad.func12, Ybad.ntmps12
  go_wp2
  refine bodyPost_ret (v := idv h3 l3) (by simp [results, Ybad.results12, go_sem]) rfl ?_
  exact ⟨rfl, (((Below.refl _ _).alloc (Nat.le_refl _) _).alloc (by simp) _).alloc (by simp; omega) _⟩

set_option maxHeartbeats 2000000 in
theorem add_any (h1 l1 h2 l2 : Nat) (q1 : l1 < M) (q2 : l2 < M) (w : World) :
    Calls Ybad.prog 13 #[idv h1 l1, idv h2 l2] w fun e w' => e = .returned (idv ((h1 + h2 + (l1 + l2) / M) % M) ((l1 + l2) % M)) ∧ Below w.heap.size w w' := by
  obtain ⟨b, hb⟩ : ∃ b : Nat, b = (l1 + l2) / M := ⟨_, rfl⟩
  have hM : M = 18446744073709551616 := rfl
  have hb1 : b ≤ 1 := by rw [hb, hM]; omega
  obtain ⟨l3, hl3⟩ : ∃ l3 : Nat, l3 = (l1 + l2) % M := ⟨_, rfl⟩
  obtain ⟨h3, hh3⟩ : ∃ h3 : Nat, h3 = (h1 + h2 + b) % M := ⟨_, rfl⟩
  have e1 : ∀ W, (callFunc 20 #[.int .u64 (l1 : Int), .int .u64 (l2 : Int), .int .u64 0]).run Ybad.prog W = .ok (.value (.tuple #[.int .u64 (l3 : Int), .int .u64 (b : Int)])) W := fun W => by
    have := run_add l1 l2 0 (by omega) W
    rw [hl3, hb]
    simpa using this
  have e2 : ∀ W, (callFunc 20 #[.int .u64 (h1 : Int), .int .u64 (h2 : Int), .int .u64 (b : Int)]).run Ybad.prog W = .ok (.value (.tuple #[.int .u64 (h3 : Int), .int .u64 (((h1 + h2 + b) / 18446744073709551616 : Nat) : Int)])) W := fun W => by
    rw [hh3]; exact run_add h1 h2 b hb1 W
  rw [← hb, ← hl3, ← hh3]
  clear hb hl3 hh3
  generalize (((h1 + h2 + b) / 18446744073709551616 : Nat) : Int) = bb at e2
  go_enter Ybad.func13, Ybad.ntmps13
  go_wp2
  refine bodyPost_ret (v := idv h3 l3) (by simp [results, Ybad.results13, go_sem]) rfl ?_
  exact ⟨rfl, (((Below.refl _ _).alloc (Nat.le_refl _) _).alloc (by simp) _).alloc (by simp; omega) _⟩

set_option maxHeartbeats 2000000 in
theorem or_any (h1 l1 h2 l2 : Nat) (q1 : h1 < M) (q2 : l1 < M) (q3 : h2 < M) (q4 : l2 < M) (w : World) :
    Calls Ybad.prog 16 #[idv h1 l1, idv h2 l2] w fun e w' => e = .returned (idv (h1 ||| h2) (l1 ||| l2)) ∧ Below w.heap.size w w' := by
  have e1 := bits_or_u64_nat h1 h2 q1 q3
  have e2 := bits_or_u64_nat l1 l2 q2 q4
  generalize h1 ||| h2 = h3 at *
  generalize l1 ||| l2 = l3 at *
  go_enter Ybad.func16, Ybad.ntmps16
  go_wp2
  refine bodyPost_ret (v := idv h3 l3) (by simp [results, Ybad.results16, go_sem]) rfl ?_
  exact ⟨rfl, (((Below.refl _ _).alloc (Nat.le_refl _) _).alloc (by simp) _).alloc (by simp; omega) _⟩

theorem not_u64 (x : Nat) (hx : x < M) : bits BinOp.xor IntKind.u64 IntKind.u64.max (x : Int) = ((M - 1 - x : Nat) : Int) := by
  have h := bits_xor_u64_nat 18446744073709551615 x (by decide) hx
  have hm : IntKind.u64.max = ((18446744073709551615 : Nat) : Int) := by decide
  rw [hm, h]
  congr 1
  have e1 : (BitVec.allOnes 64 ^^^ BitVec.ofNat 64 x).toNat = (BitVec.allOnes 64).toNat ^^^ (BitVec.ofNat 64 x).toNat := BitVec.toNat_xor ..
  have e2 : (BitVec.ofNat 64 x).toNat = x := by
    rw [BitVec.toNat_ofNat]; exact Nat.mod_eq_of_lt hx
  have e3 : (BitVec.allOnes 64).toNat = 18446744073709551615 := by decide
  rw [BitVec.allOnes_xor, BitVec.toNat_not, e2, e3] at e1
  rw [← e1]

set_option maxHeartbeats 2000000 in
theorem not_any (h1 l1 : Nat) (q1 : h1 < M) (q2 : l1 < M) (w : World) :
    Calls Ybad.prog 18 #[idv h1 l1] w fun e w' => e = .returned (idv (M - 1 - h1) (M - 1 - l1)) ∧ Below w.heap.size w w' := by
  obtain ⟨h3, hh3⟩ : ∃ h3 : Nat, h3 = M - 1 - h1 := ⟨_, rfl⟩
  obtain ⟨l3, hl3⟩ : ∃ l3 : Nat, l3 = M - 1 - l1 := ⟨_, rfl⟩
  have e1 : bits BinOp.xor IntKind.u64 IntKind.u64.max (h1 : Int) = (h3 : Int) := by rw [hh3]; exact not_u64 h1 q1
  have e2 : bits BinOp.xor IntKind.u64 IntKind.u64.max (l1 : Int) = (l3 : Int) := by rw [hl3]; exact not_u64 l1 q2
  rw [← hh3, ← hl3]
  clear hh3 hl3
  go_enter Ybad.func18, Ybad.ntmps18
  go_wp2
  refine bodyPost_ret (v := idv h3 l3) (by simp [results, Ybad.results18, go_sem]) rfl ?_
  exact ⟨rfl, ((Below.refl _ _).alloc (Nat.le_refl _) _).alloc (by simp) _⟩

/-- How two identifiers compare. -/
def cmp (h1 l1 h2 l2 : Nat) : Int := if h1 < h2 then -1 else if h2 < h1 then 1 else if l1 < l2 then -1 else if l2 < l1 then 1 else 0
set_option maxHeartbeats 2000000 in
theorem compare_any (h1 l1 h2 l2 : Nat) (w : World) :
    Calls Ybad.prog 24 #[idv h1 l1, idv h2 l2] w fun e w' => e = .returned (.int .i64 (cmp h1 l1 h2 l2)) ∧ Below w.heap.size w w' := by
  have hB : ∀ o1 o2, Below w.heap.size w ((w.alloc o1).alloc o2) := fun o1 o2 => ((Below.refl _ _).alloc (Nat.le_refl _) _).alloc (by simp) _
  unfold cmp
  by_cases c1 : h1 < h2
  · rw [if_pos c1]
    have d1 : decide ((h1 : Int) < (h2 : Int)) = true := by simp; omega
    go_enter Ybad.func24, Ybad.ntmps24
    go_wp2
    go_ret
    exact ⟨rfl, hB _ _⟩
  · rw [if_neg c1]
    have d1 : decide ((h1 : Int) < (h2 : Int)) = false := by simp; omega
    by_cases c2 : h2 < h1
    · rw [if_pos c2]
      have d2 : decide ((h2 : Int) < (h1 : Int)) = true := by simp; omega
      go_enter Ybad.func24, Ybad.ntmps24
      go_wp2
      go_ret
      exact ⟨rfl, hB _ _⟩
    · rw [if_neg c2]
      have d2 : decide ((h2 : Int) < (h1 : Int)) = false := by simp; omega
      by_cases c3 : l1 < l2
      · rw [if_pos c3]
        have d3 : decide ((l1 : Int) < (l2 : Int)) = true := by simp; omega
        go_enter Ybad.func24, Ybad.ntmps24
        go_wp2
        go_ret
        exact ⟨rfl, hB _ _⟩
      · rw [if_neg c3]
        have d3 : decide ((l1 : Int) < (l2 : Int)) = false := by simp; omega
        by_cases c4 : l2 < l1
        · rw [if_pos c4]
          have d4 : decide ((l2 : Int) < (l1 : Int)) = true := by simp; omega
          go_enter Ybad.func24, Ybad.ntmps24
          go_wp2
          go_ret
          exact ⟨rfl, hB _ _⟩
        · rw [if_neg c4]
          have d4 : decide ((l2 : Int) < (l1 : Int)) = false := by simp; omega
          go_enter Ybad.func24, Ybad.ntmps24
          go_wp2
          go_ret
          exact ⟨rfl, hB _ _⟩

theorem wrap_ones (k : Nat) (hk : k ≤ 63) : IntKind.u64.wrap (18446744073709551615 * 2 ^ k) = ((M - 2 ^ k : Nat) : Int) := by
  have h1 : 2 ^ k ≤ 2 ^ 63 := Nat.pow_le_pow_right (by omega) hk
  have h2 : 0 < 2 ^ k := Nat.pos_of_ne_zero (by simp)
  have hM : M = 18446744073709551616 := rfl
  have e : (2 : Int) ^ k = ((2 ^ k : Nat) : Int) := by simp
  rw [e]
  generalize 2 ^ k = p at *
  simp only [IntKind.wrap, IntKind.signed, IntKind.bits]
  simp
  omega

/-- The identifier whose n most significant bits are 1. -/
def onesHi (n : Nat) : Nat := if n = 0 then 0 else if n ≤ 64 then M - 2 ^ (64 - n) else M - 1
def onesLo (n : Nat) : Nat := if n ≤ 64 then 0 else M - 2 ^ (128 - n)
set_option maxHeartbeats 2000000 in
theorem ones_any (n : Nat) (hn : n ≤ 128) (w : World) :
    Calls Ybad.prog 17 #[.int .i64 (n : Int)] w fun e w' => e = .returned (idv (onesHi n) (onesLo n)) ∧ Below w.heap.size w w' := by
  by_cases c1 : n = 0
  · subst c1
    go_enter Ybad.func17, Ybad.ntmps17
    go_wp2
    refine bodyPost_ret (v := idv 0 0) (by simp [results, Ybad.results17, go_sem]) rfl ?_
    exact ⟨rfl, (Below.refl _ _).alloc (Nat.le_refl _) _⟩
  · have d1 : decide ((n : Int) ≤ 0) = false := by simp; omega
    by_cases c2 : n ≤ 64
    · have d2 : decide ((n : Int) ≤ 64) = true := by simp; omega
      obtain ⟨k, hk⟩ : ∃ k : Nat, k = 64 - n := ⟨_, rfl⟩
      have hkI : (64 : Int) - (n : Int) = (k : Int) := by omega
      have hk64 : (k : Int) ≤ 64 := by omega
      have hk0 : (0 : Int) ≤ (k : Int) := by omega
      obtain ⟨v, hv⟩ : ∃ v, v = onesHi n := ⟨_, rfl⟩
      have hw : IntKind.u64.wrap (18446744073709551615 * 2 ^ k) = (v : Int) := by rw [hv]; unfold onesHi; rw [if_neg c1, if_pos c2, ← hk]; exact wrap_ones k (by omega)
      have HV : Hid (onesHi n = v ∧ onesLo n = 0) := hid ⟨hv.symm, by unfold onesLo; rw [if_pos c2]⟩
      clear hk hv
      go_enter Ybad.func17, Ybad.ntmps17
      go_wp2
      refine bodyPost_ret (v := idv v 0) (by simp [results, Ybad.results17, go_sem]) rfl ?_
      rw [HV.out.1, HV.out.2]
      exact ⟨rfl, (Below.refl _ _).alloc (Nat.le_refl _) _⟩
    · have d2 : decide ((n : Int) ≤ 64) = false := by simp; omega
      obtain ⟨k, hk⟩ : ∃ k : Nat, k = 128 - n := ⟨_, rfl⟩
      have hkI : (128 : Int) - (n : Int) = (k : Int) := by omega
      have hk64 : (k : Int) ≤ 64 := by omega
      have hk0 : (0 : Int) ≤ (k : Int) := by omega
      obtain ⟨v, hv⟩ : ∃ v, v = onesLo n := ⟨_, rfl⟩
      have hw : IntKind.u64.wrap (18446744073709551615 * 2 ^ k) = (v : Int) := by rw [hv]; unfold onesLo; rw [if_neg c2, ← hk]; exact wrap_ones k (by omega)
      have HV : Hid (onesLo n = v ∧ onesHi n = 18446744073709551615) := hid ⟨hv.symm, by unfold onesHi; rw [if_neg c1, if_neg c2]; rfl⟩
      clear hk hv
      go_enter Ybad.func17, Ybad.ntmps17
      go_wp2
      refine bodyPost_ret (v := idv 18446744073709551615 v) (by simp [results, Ybad.results17, go_sem]) rfl ?_
      rw [HV.out.1, HV.out.2]
      exact ⟨rfl, (Below.refl _ _).alloc (Nat.le_refl _) _⟩
end Go.Proofs.YbulkcntwDoor
