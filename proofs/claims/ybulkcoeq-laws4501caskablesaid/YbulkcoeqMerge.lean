import Derived.Test.YbulkcoeqMergePlain
import Derived.Test.YbulkcoeqRot
namespace Go.Proofs.Ybulkcoeq
open Go.RowKit
set_option linter.unusedVariables false
set_option linter.unusedSimpArgs false

/-- How symMerge ends. -/
def MEnd (w0 : World) (blk n : Nat) (enc : Nat → Value) (h : Nat → Int) (a b : Nat) (d : Nat → Nat) (W : World) (e : Ending) (w' : World) : Prop :=
  e = .returned (.tuple #[]) ∧ (∃ d', Sws a b d d' ∧ Srt h a b d' ∧ Row w0 blk n enc d' w') ∧ Only blk W w'

set_option maxRecDepth 100000 in
set_option maxHeartbeats 8000000 in
theorem merge_left {w0 : World} {blk n : Nat} {enc : Nat → Value} {h : Nat → Int} {sf : Nat} {l0 l1 s0 s1 : Value} (E : Env w0 blk n enc h sf l0 l1 s0 s1) (a m b : Nat) (ham : m = a + 1) (hmb : m < b) (hb : b ≤ n) (d : Nat → Nat) (h2 : Srt h m b d) (h3 : Crs a m b d) (W : World) (hR : Row w0 blk n enc d W) :
    Calls Yba.prog 25 #[dat sf l0 l1 s0 s1, .int .i64 (a : Int), .int .i64 (m : Int), .int .i64 (b : Int)] W (MEnd w0 blk n enc h a b d W) := by
  have hblt := hR.ic.lt
  have HE := hid E
  have hsm := E.small
  have HR := hid hR
  have H2 := hid h2
  have H3 := hid h3
  have HAM := hid ham
  have hma : (m : Int) - (a : Int) = 1 := by omega
  clear E hR h2 h3 ham
  go_enter Yba.func25, Yba.ntmps25
  go_wp2_with fail
  go_loopw [8, 9] (fun s8 s9 v => ∃ (i j : Nat), s8 = .int .i64 (i : Int) ∧ s9 = .int .i64 (j : Int) ∧ m ≤ i ∧ i ≤ j ∧ j ≤ b ∧ Row w0 blk n enc d v ∧ Only blk (W.alloc (boxed sf l0 l1 s0 s1)) v ∧ (m < i → bf h (d (i - 1)) (d a)) ∧ (j < b → bf h (d a) (d j))) (fun s8 s9 _ => (intOf s9).toNat - (intOf s8).toNat)
  case atStart => exact ⟨m, b, rfl, rfl, Nat.le_refl _, by omega, Nat.le_refl _, HR.out.alloc _, Only.refl _ _, fun h => by omega, fun h => by omega⟩
  case round =>
    obtain ⟨i, j, rfl, rfl, hmi, hij, hjb, hRow, hOn, hlo, hhi⟩ := hrel
    obtain ⟨b0, b1⟩ := box_cells sf l0 l1 s0 s1 W wr blk hblt hOn
    have hWlt : W.heap.size < wr.heap.size := by have := hOn.size; simp at this; omega
    have HRow := hid hRow
    have HOn := hid hOn
    have HLO := hid hlo
    have HHI := hid hhi
    clear hRow hOn hlo hhi
    by_cases hlt : i < j
    · have hdl : decide ((i : Int) < (j : Int)) = true := by simp; omega
      obtain ⟨c, hc⟩ : ∃ c : Nat, c = (i + j) / 2 := ⟨_, rfl⟩
      have hcI : ((i : Int) + (j : Int)) / 2 = (c : Int) := by omega
      have hc1 : i ≤ c := by omega
      have hc2 : c < j := by omega
      have hxy : d a < d c := H3.out a c (Nat.le_refl _) (by omega) (by omega) (by omega)
      have HL := HE.out.less d wr (c : Int) (a : Int) c a rfl rfl HRow.out (by omega) (by omega)
      clear hc
      by_cases hles : h (d a) < h (d c)
      · rw [decide_eq_true hles] at HL
        have HL1 := hid HL
        have HBF := hid ((bf_less hxy).1 hles)
        clear HL hles hxy
        go_wp2_with (first | (go_at_call 8; with_reducible (refine Calls.mono HL1.out ?_); rintro e w2 ⟨rfl, hb2⟩))
        refine ⟨⟨c + 1, j, congrArg _ (by omega), rfl, by omega, by omega, hjb, HRow.out.read hb2, HOn.out.trans (Only.of_below hb2), fun _ => HBF.out, HHI.out⟩, ?_⟩
        show ((j : Int)).toNat - ((c : Int) + 1).toNat < ((j : Int)).toNat - ((i : Int)).toNat
        omega
      · rw [decide_eq_false hles] at HL
        have HL1 := hid HL
        have HBF := hid (bf_not_less hxy hles)
        clear HL hles hxy
        go_wp2_with (first | (go_at_call 8; with_reducible (refine Calls.mono HL1.out ?_); rintro e w2 ⟨rfl, hb2⟩))
        refine ⟨⟨i, c, rfl, rfl, hmi, by omega, by omega, HRow.out.read hb2, HOn.out.trans (Only.of_below hb2), HLO.out, fun _ => HBF.out⟩, ?_⟩
        show ((c : Int)).toNat - ((i : Int)).toNat < ((j : Int)).toNat - ((i : Int)).toNat
        omega
    · have hdl : decide ((i : Int) < (j : Int)) = false := by simp; omega
      obtain rfl : i = j := by omega
      have hdl2 : decide ((i : Int) < (i : Int)) = false := by simp
      obtain ⟨i1, hi1⟩ : ∃ i1 : Nat, i1 = i - 1 := ⟨_, rfl⟩
      have hi1I : (i : Int) - 1 = (i1 : Int) := by omega
      have HI1 := hid hi1
      have hai1 : a ≤ i1 := by have := HAM.out; omega
      have hi1b : i1 < b := by omega
      clear hi1
      go_wp2_with fail
      go_loopw [11] (fun s11 v => ∃ (k : Nat), s11 = .int .i64 (k : Int) ∧ a ≤ k ∧ k ≤ i1 ∧ Row w0 blk n enc (upTo d a k) v ∧ Only blk (W.alloc (boxed sf l0 l1 s0 s1)) v ∧ Sws a b d (upTo d a k)) (fun s11 _ => i1 - (intOf s11).toNat)
      case atStart => exact ⟨a, rfl, Nat.le_refl _, hai1, by rw [upTo_start]; exact HRow.out, HOn.out, by rw [upTo_start]; exact .refl⟩
      case round =>
        clear b0 b1 hWlt
        obtain ⟨k, rfl, hak, hki, hRk, hOk, hSk⟩ := hrel
        obtain ⟨b0, b1⟩ := box_cells sf l0 l1 s0 s1 W wr blk hblt hOk
        have HRk := hid hRk
        have HOk := hid hOk
        have HSk := hid hSk
        clear hRk hOk hSk
        by_cases hk1 : k < i1
        · have hdk : decide ((k : Int) < (i1 : Int)) = true := by simp; omega
          have hswp := HE.out.swap _ wr (k : Int) ((k : Int) + 1) k (k + 1) rfl (by omega) HRk.out (by omega) (by omega)
          have HR3 := hid (HRk.out.swap (i := k) (j := k + 1) (by omega) (by omega))
          have HO3 := hid (HOk.out.trans (HRk.out.swapped k (k + 1)))
          obtain ⟨wn, hwn⟩ : ∃ wn, wn = ((wr.setCell ⟨blk, k, none⟩ (enc (upTo d a k (k + 1)))).setCell ⟨blk, k + 1, none⟩ (enc (upTo d a k k))) := ⟨_, rfl⟩
          rw [← hwn] at hswp HR3 HO3
          clear hwn
          go_wp2
          refine ⟨⟨k + 1, congrArg _ (by omega), by omega, by omega, by rw [← upTo_succ d a k hak]; exact HR3.out, HO3.out, by rw [← upTo_succ d a k hak]; exact .step HSk.out _ _ (by omega) (by omega)⟩, ?_⟩
          show i1 - ((k : Int) + 1).toNat < i1 - ((k : Int)).toNat
          omega
        · have hdk : decide ((k : Int) < (i1 : Int)) = false := by simp; omega
          obtain rfl : k = i1 := by omega
          go_wp2
          go_end0
          refine ⟨rfl, ⟨_, HSk.out, ?_, HRk.out⟩, ((Only.refl _ _).alloc _).trans HOk.out⟩
          have hm := HAM.out
          rw [HI1.out]
          refine up_sorted (by rw [← hm]; exact H2.out) (by omega) hjb (fun q q1 q2 => H2.out.ge (HLO.out (by omega)) (by omega) (by omega) (by omega)) (fun q q1 q2 => H2.out.le (HHI.out (by omega)) (by omega) q1 q2)

set_option maxRecDepth 100000 in
set_option maxHeartbeats 8000000 in
theorem merge_right {w0 : World} {blk n : Nat} {enc : Nat → Value} {h : Nat → Int} {sf : Nat} {l0 l1 s0 s1 : Value} (E : Env w0 blk n enc h sf l0 l1 s0 s1) (a m b : Nat) (ham : a + 1 < m) (hmb : b = m + 1) (hb : b ≤ n) (d : Nat → Nat) (h1 : Srt h a m d) (h3 : Crs a m b d) (W : World) (hR : Row w0 blk n enc d W) :
    Calls Yba.prog 25 #[dat sf l0 l1 s0 s1, .int .i64 (a : Int), .int .i64 (m : Int), .int .i64 (b : Int)] W (MEnd w0 blk n enc h a b d W) := by
  have hblt := hR.ic.lt
  have HE := hid E
  have hsm := E.small
  have HR := hid hR
  have H1 := hid h1
  have H3 := hid h3
  have HMB := hid hmb
  obtain ⟨ma, hma0⟩ : ∃ ma : Nat, ma = m - a := ⟨_, rfl⟩
  have hma : (m : Int) - (a : Int) = (ma : Int) := by omega
  have hn1 : decide ((ma : Int) = 1) = false := by simp; omega
  have hn2 : decide (ma = 1) = false := by simp; omega
  have hn3 : ((ma : Int) == 1) = false := by simp; omega
  have hn4 : (ma == 1) = false := by simp; omega
  have hbm : (b : Int) - (m : Int) = 1 := by omega
  clear E hR h1 h3 hmb hma0
  go_enter Yba.func25, Yba.ntmps25
  go_wp2_with fail
  go_loopw [12, 13] (fun s8 s9 v => ∃ (i j : Nat), s8 = .int .i64 (i : Int) ∧ s9 = .int .i64 (j : Int) ∧ a ≤ i ∧ i ≤ j ∧ j ≤ m ∧ Row w0 blk n enc d v ∧ Only blk (W.alloc (boxed sf l0 l1 s0 s1)) v ∧ (a < i → bf h (d (i - 1)) (d m)) ∧ (j < m → bf h (d m) (d j))) (fun s8 s9 _ => (intOf s9).toNat - (intOf s8).toNat)
  case atStart => exact ⟨a, m, rfl, rfl, Nat.le_refl _, by omega, Nat.le_refl _, HR.out.alloc _, Only.refl _ _, fun h => by omega, fun h => by omega⟩
  case round =>
    obtain ⟨i, j, rfl, rfl, hmi, hij, hjb, hRow, hOn, hlo, hhi⟩ := hrel
    obtain ⟨b0, b1⟩ := box_cells sf l0 l1 s0 s1 W wr blk hblt hOn
    have hWlt : W.heap.size < wr.heap.size := by have := hOn.size; simp at this; omega
    have HRow := hid hRow
    have HOn := hid hOn
    have HLO := hid hlo
    have HHI := hid hhi
    have hmn : m < n := by have := HMB.out; omega
    clear hRow hOn hlo hhi
    by_cases hlt : i < j
    · have hdl : decide ((i : Int) < (j : Int)) = true := by simp; omega
      obtain ⟨c, hc⟩ : ∃ c : Nat, c = (i + j) / 2 := ⟨_, rfl⟩
      have hcI : ((i : Int) + (j : Int)) / 2 = (c : Int) := by omega
      have hc1 : i ≤ c := by omega
      have hc2 : c < j := by omega
      have hxy : d c < d m := H3.out c m (by omega) (by omega) (Nat.le_refl _) (by have := HMB.out; omega)
      have HL := HE.out.less d wr (m : Int) (c : Int) m c rfl rfl HRow.out hmn (by omega)
      clear hc
      by_cases hles : h (d c) < h (d m)
      · rw [decide_eq_true hles] at HL
        have HL1 := hid HL
        have HBF := hid ((bf_less hxy).1 hles)
        clear HL hles hxy
        go_wp2_with (first | (go_at_call 8; with_reducible (refine Calls.mono HL1.out ?_); rintro e w2 ⟨rfl, hb2⟩))
        refine ⟨⟨i, c, rfl, rfl, hmi, by omega, by omega, HRow.out.read hb2, HOn.out.trans (Only.of_below hb2), HLO.out, fun _ => HBF.out⟩, ?_⟩
        show ((c : Int)).toNat - ((i : Int)).toNat < ((j : Int)).toNat - ((i : Int)).toNat
        omega
      · rw [decide_eq_false hles] at HL
        have HL1 := hid HL
        have HBF := hid (bf_not_less hxy hles)
        clear HL hles hxy
        go_wp2_with (first | (go_at_call 8; with_reducible (refine Calls.mono HL1.out ?_); rintro e w2 ⟨rfl, hb2⟩))
        refine ⟨⟨c + 1, j, congrArg _ (by omega), rfl, by omega, by omega, hjb, HRow.out.read hb2, HOn.out.trans (Only.of_below hb2), fun _ => HBF.out, HHI.out⟩, ?_⟩
        show ((j : Int)).toNat - ((c : Int) + 1).toNat < ((j : Int)).toNat - ((i : Int)).toNat
        omega
    · have hdl : decide ((i : Int) < (j : Int)) = false := by simp; omega
      obtain rfl : i = j := by omega
      have hdl2 : decide ((i : Int) < (i : Int)) = false := by simp
      go_wp2_with fail
      go_loopw [15] (fun s15 v => ∃ (k : Nat), s15 = .int .i64 (k : Int) ∧ i ≤ k ∧ k ≤ m ∧ Row w0 blk n enc (downTo d m k) v ∧ Only blk (W.alloc (boxed sf l0 l1 s0 s1)) v ∧ Sws a b d (downTo d m k)) (fun s15 _ => (intOf s15).toNat)
      case atStart => exact ⟨m, rfl, hjb, Nat.le_refl _, by rw [downTo_start]; exact HRow.out, HOn.out, by rw [downTo_start]; exact .refl⟩
      case round =>
        clear b0 b1 hWlt
        obtain ⟨k, rfl, hak, hki, hRk, hOk, hSk⟩ := hrel
        obtain ⟨b0, b1⟩ := box_cells sf l0 l1 s0 s1 W wr blk hblt hOk
        have HRk := hid hRk
        have HOk := hid hOk
        have HSk := hid hSk
        clear hRk hOk hSk
        by_cases hk1 : i < k
        · have hdk : decide ((i : Int) < (k : Int)) = true := by simp; omega
          have hswp := HE.out.swap _ wr (k : Int) ((k : Int) - 1) k (k - 1) rfl (by omega) HRk.out (by omega) (by omega)
          have HR3 := hid (HRk.out.swap (i := k) (j := k - 1) (by omega) (by omega))
          have HO3 := hid (HOk.out.trans (HRk.out.swapped k (k - 1)))
          obtain ⟨wn, hwn⟩ : ∃ wn, wn = ((wr.setCell ⟨blk, k, none⟩ (enc (downTo d m k (k - 1)))).setCell ⟨blk, k - 1, none⟩ (enc (downTo d m k k))) := ⟨_, rfl⟩
          rw [← hwn] at hswp HR3 HO3
          clear hwn
          go_wp2
          refine ⟨⟨k - 1, congrArg _ (by omega), by omega, by omega, by rw [← downTo_succ d m k (by omega) hki]; exact HR3.out, HO3.out, by rw [← downTo_succ d m k (by omega) hki]; exact .step HSk.out _ _ (by have := HMB.out; omega) (by have := HMB.out; omega)⟩, ?_⟩
          show ((k : Int) - 1).toNat < ((k : Int)).toNat
          omega
        · have hdk : decide ((i : Int) < (k : Int)) = false := by simp; omega
          obtain rfl : i = k := by omega
          have hdk2 : decide ((i : Int) < (i : Int)) = false := by simp
          go_wp2
          go_end0
          refine ⟨rfl, ⟨_, HSk.out, ?_, HRk.out⟩, ((Only.refl _ _).alloc _).trans HOk.out⟩
          rw [HMB.out]
          exact down_sorted H1.out hmi hki (fun q q1 q2 => H1.out.ge (HLO.out (by omega)) (by omega) (by omega) (by omega)) (fun q q1 q2 => H1.out.le (HHI.out (by omega)) (by omega) q1 q2)
end Go.Proofs.Ybulkcoeq
