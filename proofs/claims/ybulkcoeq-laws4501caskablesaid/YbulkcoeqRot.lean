import Derived.Test.YbulkcoeqFrame
namespace Go.Proofs.Ybulkcoeq
open Go.RowKit
set_option linter.unusedVariables false
set_option linter.unusedSimpArgs false

set_option maxRecDepth 100000 in
set_option maxHeartbeats 4000000 in
theorem rotate_any {w0 : World} {blk n : Nat} {enc : Nat → Value} {h : Nat → Int} {sf : Nat} {l0 l1 s0 s1 : Value} (E : Env w0 blk n enc h sf l0 l1 s0 s1) (a m b : Nat) (ham : a < m) (hmb : m < b) (hb : b ≤ n) (d : Nat → Nat) (W : World) (hR : Row w0 blk n enc d W) :
    Calls Yba.prog 26 #[dat sf l0 l1 s0 s1, .int .i64 (a : Int), .int .i64 (m : Int), .int .i64 (b : Int)] W fun e w' => e = .returned (.tuple #[]) ∧ Row w0 blk n enc (fun k => d (rotI a m b k)) w' ∧ Only blk W w' := by
  have hblt := hR.ic.lt
  have HE := hid E
  have hsm := E.small
  have HR := hid hR
  clear E hR
  obtain ⟨i0, hi0⟩ : ∃ i0 : Nat, i0 = m - a := ⟨_, rfl⟩
  obtain ⟨j0, hj0⟩ : ∃ j0 : Nat, j0 = b - m := ⟨_, rfl⟩
  have hi0I : (m : Int) - (a : Int) = (i0 : Int) := by omega
  have hj0I : (b : Int) - (m : Int) = (j0 : Int) := by omega
  have HI0 : Hid (m - i0 = a ∧ m + j0 = b ∧ 0 < i0 ∧ 0 < j0 ∧ i0 ≤ m) := hid (by omega)
  clear hi0 hj0
  go_enter Yba.func26, Yba.ntmps26
  go_wp2_with fail
  go_loopw [8, 9] (fun s8 s9 v => ∃ (i j : Nat) (dc : Nat → Nat), s8 = .int .i64 (i : Int) ∧ s9 = .int .i64 (j : Int) ∧ 0 < i ∧ 0 < j ∧ i ≤ m ∧ m + j ≤ n ∧ Row w0 blk n enc dc v ∧ Only blk (W.alloc (boxed sf l0 l1 s0 s1)) v ∧ ∀ k, d (rotI a m b k) = dc (rotI (m - i) m (m + j) k)) (fun s8 s9 _ => (intOf s8).toNat + (intOf s9).toNat)
  case atStart =>
    obtain ⟨e1, e2, e3, e4, e5⟩ := HI0.out
    exact ⟨i0, j0, d, rfl, rfl, e3, e4, e5, by omega, HR.out.alloc _, Only.refl _ _, fun k => by rw [e1, e2]⟩
  case round =>
    obtain ⟨i, j, dc, rfl, rfl, hi, hj, him, hjn, hRow, hOn, hEq⟩ := hrel
    obtain ⟨b0, b1⟩ := box_cells sf l0 l1 s0 s1 W wr blk hblt hOn
    obtain ⟨mi, hmi⟩ : ∃ mi : Nat, mi = m - i := ⟨_, rfl⟩
    have hmiI : (m : Int) - (i : Int) = (mi : Int) := by omega
    have HRow := hid hRow
    have HOn := hid hOn
    have HEq := hid hEq
    clear hRow hOn hEq
    by_cases hij : i = j
    · subst hij
      have HC := hid (swapRange_any HE.out mi m i (by omega) (by omega) dc wr HRow.out)
      have HMI := hid hmi
      clear hmi
      go_wp2_with (first | (go_at_call 27; with_reducible (refine Calls.mono HC.out ?_); rintro e w2 ⟨rfl, hr2, ho2⟩))
      go_end0
      refine ⟨rfl, ?_, ((Only.refl _ _).alloc _).trans (HOn.out.trans ho2)⟩
      have : (fun k => d (rotI a m b k)) = fun k => dc (swI mi m i k) := by
        funext k
        rw [HEq.out k, HMI.out, rot_last m i k him]
      rw [this]
      exact hr2
    · have hn1 : decide ((i : Int) = (j : Int)) = false := by simp; omega
      have hn2 : decide (i = j) = false := by simp; omega
      have hn3 : ((i : Int) == (j : Int)) = false := by simp; omega
      have hn4 : (i == j) = false := by simp; omega
      by_cases hgt : j < i
      · have hg : decide ((j : Int) < (i : Int)) = true := by simp; omega
        have HC := hid (swapRange_any HE.out mi m j (by omega) (by omega) dc wr HRow.out)
        obtain ⟨i2, hi2⟩ : ∃ i2 : Nat, i2 = i - j := ⟨_, rfl⟩
        have hi2I : (i : Int) - (j : Int) = (i2 : Int) := by omega
        have HMI := hid (And.intro hmi hi2)
        clear hmi hi2
        go_wp2_with (first | (go_at_call 27; with_reducible (refine Calls.mono HC.out ?_); rintro e w2 ⟨rfl, hr2, ho2⟩))
        obtain ⟨hmi, hi2⟩ := HMI.out
        refine ⟨⟨i2, j, _, rfl, rfl, by omega, hj, by omega, hjn, hr2, HOn.out.trans ho2, fun k => ?_⟩, ?_⟩
        · rw [HEq.out k, rot_step1 m i j k him hj hgt, hmi, show m - i2 = m - i + j by omega]
        · show ((i2 : Int)).toNat + ((j : Int)).toNat < ((i : Int)).toNat + ((j : Int)).toNat
          omega
      · have hg : decide ((j : Int) < (i : Int)) = false := by simp; omega
        obtain ⟨mj, hmj⟩ : ∃ mj : Nat, mj = m + j - i := ⟨_, rfl⟩
        have hmjI : (m : Int) + (j : Int) - (i : Int) = (mj : Int) := by omega
        have HC := hid (swapRange_any HE.out mi mj i (by omega) (by omega) dc wr HRow.out)
        obtain ⟨j2, hj2⟩ : ∃ j2 : Nat, j2 = j - i := ⟨_, rfl⟩
        have hj2I : (j : Int) - (i : Int) = (j2 : Int) := by omega
        have HMI := hid (And.intro hmi (And.intro hmj hj2))
        clear hmi hmj hj2
        go_wp2_with (first | (go_at_call 27; with_reducible (refine Calls.mono HC.out ?_); rintro e w2 ⟨rfl, hr2, ho2⟩))
        obtain ⟨hmi, hmj, hj2⟩ := HMI.out
        refine ⟨⟨i, j2, _, rfl, rfl, hi, by omega, him, by omega, hr2, HOn.out.trans ho2, fun k => ?_⟩, ?_⟩
        · rw [HEq.out k, rot_step2 m i j k him hi (by omega), hmi, hmj, hj2]
        · show ((i : Int)).toNat + ((j2 : Int)).toNat < ((i : Int)).toNat + ((j : Int)).toNat
          omega

set_option maxRecDepth 100000 in
set_option maxHeartbeats 4000000 in
theorem insertionSort_any {w0 : World} {blk n : Nat} {enc : Nat → Value} {h : Nat → Int} {sf : Nat} {l0 l1 s0 s1 : Value} (E : Env w0 blk n enc h sf l0 l1 s0 s1) (a b : Nat) (hab : a ≤ b) (hb : b ≤ n) (d : Nat → Nat) (hinc : ∀ p q, a ≤ p → p < q → q < b → d p < d q) (W : World) (hR : Row w0 blk n enc d W) :
    Calls Yba.prog 24 #[dat sf l0 l1 s0 s1, .int .i64 (a : Int), .int .i64 (b : Int)] W fun e w' => e = .returned (.tuple #[]) ∧ (∃ d', Sws a b d d' ∧ Srt h a b d' ∧ Row w0 blk n enc d' w') ∧ Only blk W w' := by
  have hblt := hR.ic.lt
  have HE := hid E
  have hsm := E.small
  have HR := hid hR
  have HINC := hid hinc
  clear E hR hinc
  go_enter Yba.func24, Yba.ntmps24
  go_wp2_with fail
  go_loopw [6] (fun s6 v => ∃ (i : Nat) (dc : Nat → Nat), s6 = .int .i64 (i : Int) ∧ a + 1 ≤ i ∧ (i ≤ b ∨ i = a + 1) ∧ Row w0 blk n enc dc v ∧ Only blk (W.alloc (boxed sf l0 l1 s0 s1)) v ∧ Sws a (min i b) d dc ∧ Srt h a i dc) (fun s6 _ => b - (intOf s6).toNat)
  case atStart => exact ⟨a + 1, d, congrArg _ (by omega), Nat.le_refl _, Or.inr rfl, HR.out.alloc _, Only.refl _ _, .refl, fun p q h1 h2 h3 => by omega⟩
  case round =>
    obtain ⟨i, dc, rfl, hai, hib, hRow, hOn, hSw, hSr⟩ := hrel
    have HRow := hid hRow
    have HOn := hid hOn
    have HSw := hid hSw
    have HSr := hid hSr
    clear hRow hOn hSw hSr
    by_cases hlt : i < b
    · have hdl : decide ((i : Int) < (b : Int)) = true := by simp; omega
      go_wp2_with fail
      go_loopw [7] (fun s7 v => ∃ (j : Nat), s7 = .int .i64 (j : Int) ∧ a ≤ j ∧ j ≤ i ∧ Row w0 blk n enc (downTo dc i j) v ∧ Only blk (W.alloc (boxed sf l0 l1 s0 s1)) v ∧ Sws a (i + 1) dc (downTo dc i j) ∧ ∀ k, j ≤ k → k < i → bf h (dc i) (dc k)) (fun s7 _ => (intOf s7).toNat)
      case atStart => exact ⟨i, rfl, by omega, Nat.le_refl _, by rw [downTo_start]; exact HRow.out, HOn.out, by rw [downTo_start]; exact .refl, fun k h1 h2 => by omega⟩
      case round =>
        obtain ⟨j, rfl, haj, hji, hRj, hOj, hSj, hBj⟩ := hrel
        obtain ⟨b0, b1⟩ := box_cells sf l0 l1 s0 s1 W wr blk hblt hOj
        have hWlt : W.heap.size < wr.heap.size := by have := hOj.size; simp at this; omega
        have HRj := hid hRj
        have HOj := hid hOj
        have HSj := hid hSj
        have HBj := hid hBj
        clear hRj hOj hSj hBj
        by_cases hja : a < j
        · have hdj : decide ((a : Int) < (j : Int)) = true := by simp; omega
          have e1 : downTo dc i j j = dc i := by unfold downTo; rw [if_neg (by omega), if_pos rfl]
          have e2 : downTo dc i j (j - 1) = dc (j - 1) := by unfold downTo; rw [if_neg (by omega), if_neg (by omega)]
          have hxy : dc (j - 1) < dc i := by
            have q1 := HSw.out.out i (by omega)
            obtain ⟨k', k1, k2, k3⟩ := HSw.out.from (j - 1) (by omega) (by omega)
            rw [q1, k3]
            exact HINC.out k' i k1 (by omega) hlt
          have HL := HE.out.less (downTo dc i j) wr (j : Int) ((j : Int) - 1) j (j - 1) rfl (by omega) HRj.out (by omega) (by omega)
          rw [e1, e2] at HL
          by_cases hles : h (dc (j - 1)) < h (dc i)
          · rw [decide_eq_true hles] at HL
            have HL1 := hid HL
            have HBF := hid ((bf_less hxy).1 hles)
            clear HL hles e1 e2 hxy
            go_wp2_with (first | (go_at_call 8; with_reducible (refine Calls.mono HL1.out ?_); rintro e w2 ⟨rfl, hb2⟩; have b1' : w2.cell? ⟨W.heap.size, 1, none⟩ = some (.func (.func sf) #[] #[s0, s1]) := (hb2.cell (p := ⟨W.heap.size, 1, none⟩) hWlt).trans b1; have hswp := HE.out.swap _ w2 (j : Int) ((j : Int) - 1) j (j - 1) rfl (by omega) (HRj.out.read hb2) (by omega) (by omega); have HR3 := hid ((HRj.out.read hb2).swap (i := j) (j := j - 1) (by omega) (by omega)); have HO3 := hid ((HOj.out.trans (Only.of_below hb2)).trans ((HRj.out.read hb2).swapped j (j - 1))); obtain ⟨wn, hwn⟩ : ∃ wn, wn = ((w2.setCell ⟨blk, j, none⟩ (enc (downTo dc i j (j - 1)))).setCell ⟨blk, j - 1, none⟩ (enc (downTo dc i j j))) := ⟨_, rfl⟩; rw [← hwn] at hswp HR3 HO3; clear hwn))
            refine ⟨⟨j - 1, congrArg _ (by omega), by omega, by omega, by rw [← downTo_succ dc i j (by omega) hji]; exact HR3.out, HO3.out, by rw [← downTo_succ dc i j (by omega) hji]; exact .step HSj.out _ _ (by omega) (by omega), fun k h1 h2 => ?_⟩, ?_⟩
            · by_cases hk : k = j - 1
              · rw [hk]; exact HBF.out
              · exact HBj.out k (by omega) h2
            · show ((j : Int) - 1).toNat < ((j : Int)).toNat
              omega
          · rw [decide_eq_false hles] at HL
            have HL1 := hid HL
            have HBF := hid (bf_not_less hxy hles)
            clear HL hles e1 e2 hxy
            go_wp2_with (first | (go_at_call 8; with_reducible (refine Calls.mono HL1.out ?_); rintro e w2 ⟨rfl, hb2⟩))
            refine ⟨⟨i + 1, _, congrArg _ (by omega), by omega, by omega, HRj.out.read hb2, HOj.out.trans (Only.of_below hb2), ?_, ?_⟩, ?_⟩
            · rw [show min (i + 1) b = i + 1 by omega]
              exact (HSw.out.mono (Nat.le_refl _) (by omega)).trans HSj.out
            · exact down_sorted HSr.out haj hji (fun k h1 h2 => HSr.out.ge HBF.out h1 (by omega) (by omega)) HBj.out
            · show b - ((i : Int) + 1).toNat < b - ((i : Int)).toNat
              omega
        · have hdj : decide ((a : Int) < (j : Int)) = false := by simp; omega
          go_wp2
          refine ⟨⟨i + 1, _, congrArg _ (by omega), by omega, by omega, HRj.out, HOj.out, ?_, ?_⟩, ?_⟩
          · rw [show min (i + 1) b = i + 1 by omega]
            exact (HSw.out.mono (Nat.le_refl _) (by omega)).trans HSj.out
          · exact down_sorted HSr.out haj hji (fun k h1 h2 => by omega) HBj.out
          · show b - ((i : Int) + 1).toNat < b - ((i : Int)).toNat
            omega
    · have hdl : decide ((i : Int) < (b : Int)) = false := by simp; omega
      go_wp2
      go_end0
      refine ⟨rfl, ⟨dc, ?_, fun p q h1 h2 h3 => HSr.out p q h1 h2 (by omega), HRow.out⟩, ((Only.refl _ _).alloc _).trans HOn.out⟩
      rw [show min i b = b by omega] at HSw
      exact HSw.out
end Go.Proofs.Ybulkcoeq
