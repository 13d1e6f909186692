import Derived.Test.YbulkcntwDoorCompact
namespace Go.Proofs.YbulkcntwDoor
open Go.RowKit Go.Sort
set_option linter.unusedVariables false
set_option linter.unusedSimpArgs false

theorem grown3 {g : Nat} {d : List C} {v : World} (h : Row g d v) (i : Nat) (hi : i < d.length) (a : C) (ha : d[i]! = a) : (∀ n os, (grow (v.drewN n) os).cell? ⟨g, i * 3, none⟩ = some (.int .u64 (a.hi : Int))) ∧ (∀ n os, (grow (v.drewN n) os).cell? ⟨g, i * 3 + 1, none⟩ = some (.int .u64 (a.lo : Int))) ∧ (∀ n os, (grow (v.drewN n) os).cell? ⟨g, i * 3 + 2, none⟩ = some (.string a.ad)) := by
  have r := h.at i hi
  rw [ha] at r
  exact ⟨fun n os => cell_grown (a := ⟨g, i * 3, none⟩) (lt_of_cell r.1) r.1 n os, fun n os => cell_grown (a := ⟨g, i * 3 + 1, none⟩) (lt_of_cell r.2.1) r.2.1 n os, fun n os => cell_grown (a := ⟨g, i * 3 + 2, none⟩) (lt_of_cell r.2.2) r.2.2 n os⟩

theorem grownC {w0 : World} {g : Nat} {d m : List C} {kk j : Nat} {v : World} (h : Cpt w0 g d kk j m v) (k i : Nat) (hi : j ≤ k + i + 1) (hd : k + i < d.length) (a : C) (ha : d[k + i]! = a) : (∀ n os, (grow (v.drewN n) os).cell? ⟨g, k * 3 + i * 3, none⟩ = some (.int .u64 (a.hi : Int))) ∧ (∀ n os, (grow (v.drewN n) os).cell? ⟨g, k * 3 + i * 3 + 1, none⟩ = some (.int .u64 (a.lo : Int))) ∧ (∀ n os, (grow (v.drewN n) os).cell? ⟨g, k * 3 + i * 3 + 2, none⟩ = some (.string a.ad)) := by
  have r := grown3 h.row (k + i) (by rw [h.len]; exact hd) a (by rw [h.same _ hi hd]; exact ha)
  rw [Nat.add_mul] at r
  exact r

set_option maxHeartbeats 1000000 in
theorem compact_any (g n cap : Nat) (d : List C) (w : World) (hR : Row g d w) (hn : n = d.length) (hc : n ≤ cap) (hc2 : cap ≤ 9223372036854775807) :
    Calls Ybad.prog 30 #[.slice (some ⟨g, 0, none⟩) n cap, .func (.func 31) #[] #[]] w fun e w' => e = .returned (.slice (some ⟨g, 0, none⟩) (comp d n).length cap) ∧ Only g w w' ∧ Row g (comp d n) w' := by
  have HN := hid hn
  clear hn
  have HR := hid hR
  clear hR
  have hcI : (n : Int) ≤ (cap : Int) := by omega
  by_cases h2 : n < 2
  · have hd : decide ((n : Int) < 2) = true := by simp; omega
    have e : comp d n = d := by rw [comp_none d n (by rw [HN.out]; exact Nat.le_refl _) (fun i h1 h2 => by omega), HN.out, List.take_length]
    rw [e, ← HN.out]
    go_enter Ybad.func30, Ybad.ntmps30
    go_wp2
    go_ret
    exact ⟨rfl, Only.refl _ _, HR.out⟩
  · have hd : decide ((n : Int) < 2) = false := by simp; omega
    have mixed : Ybad.prog.follows .mixedOrders = true := by kernel_rfl
    go_enter Ybad.func30, Ybad.ntmps30
    go_wp2_with fail
    go_loopw [5] (fun s5 v => ∃ k : Nat, s5 = .int .i64 (k : Int) ∧ 1 ≤ k ∧ k ≤ n ∧ Hid (Below w.heap.size w v) ∧ Hid (∀ i, 0 < i → i < k → same d[i]! d[i - 1]! = false)) (fun s5 _ => n - (intOf s5).toNat)
    case atStart => exact ⟨1, rfl, Nat.le_refl _, by omega, hid (Below.refl _ _), hid (fun i h1 h2 => by omega)⟩
    case round =>
      obtain ⟨k, rfl, h1k, hkn, HB, HT⟩ := hrel
      by_cases hlt : k < n
      · have hdl : decide ((k : Int) < (n : Int)) = true := by simp; omega
        have hdl2 : (k : Int) < (n : Int) := by omega
        obtain ⟨k1, hk1⟩ : ∃ k1, k1 = k - 1 := ⟨_, rfl⟩
        have hki : (k : Int) - 1 = (k1 : Int) := by omega
        have hki2 : (k1 : Int) < (n : Int) := by omega
        have hw1 : IntKind.i64.wrap (k1 : Int) = (k1 : Int) := i64w _ (by omega)
        have HRv : Hid (Row g d wr) := hid (HR.out.below HB.out HR.out.ic.lt)
        obtain ⟨a, ha⟩ : ∃ a, d[k]! = a := ⟨_, rfl⟩
        obtain ⟨b, hb⟩ : ∃ b, d[k1]! = b := ⟨_, rfl⟩
        obtain ⟨f1, f2, f3⟩ := grown3 HRv.out k (by rw [← HN.out]; exact hlt) a ha
        obtain ⟨f4, f5, f6⟩ := grown3 HRv.out k1 (by rw [← HN.out]; omega) b hb
        have H := hid (fun W => eq_g a b W)
        have HS : Hid (same d[k]! d[k - 1]! = same a b) := hid (by rw [ha, ← hk1, hb])
        obtain ⟨ah, al, aa⟩ := a
        obtain ⟨bh, bl, ba⟩ := b
        have HA := hid ha
        clear ha hb
        dsimp only at f1 f2 f3 f4 f5 f6
        obtain ⟨sm, hsm⟩ : ∃ sm, sm = same ⟨ah, al, aa⟩ ⟨bh, bl, ba⟩ := ⟨_, rfl⟩
        rw [← hsm] at H HS
        clear hsm hk1
        go_wp2_with fail
        go_quiet_grown (first | (go_at_call 31; with_reducible (refine Calls.grown_of (H.out _))) | fail)
        have HQ : Hid (Below w.heap.size w (grow (wr.drewN nq) osq)) := hid (HB.out.trans ((gr_below ⟨nq, osq, rfl⟩).mono HB.out.size))
        obtain ⟨wq, hwq⟩ : ∃ wq, wq = grow (wr.drewN nq) osq := ⟨_, rfl⟩
        rw [← hwq] at HQ
        rw [← hwq]
        clear hwq f1 f2 f3 f4 f5 f6
        cases sm with
        | false =>
          go_wp2
          refine ⟨⟨k + 1, congrArg _ (by omega), by omega, by omega, HQ, hid (fun i h1 h2 => ?_)⟩, ?_⟩
          · by_cases e : i = k
            · rw [e]; exact HS.out
            · exact HT.out i h1 (by omega)
          · show n - ((k : Int) + 1).toNat < n - ((k : Int)).toNat
            omega
        | true =>
          have HC : Hid (Cpt w g d k (k + 1) d wq) := hid (by
            have ec := comp_none d k (by rw [← HN.out]; omega) HT.out
            have ec2 : comp d (k + 1) = comp d k := by rw [comp, if_pos ⟨by omega, HS.out⟩, List.append_nil]
            exact ⟨Only.of_below HQ.out, HR.out.below HQ.out HR.out.ic.lt, rfl, by rw [ec2, ec], by rw [ec2, ec, List.length_take, ← HN.out]; omega, Nat.le_refl _, by omega, fun i _ _ => rfl⟩)
          obtain ⟨r, hr⟩ : ∃ r, r = n - k := ⟨_, rfl⟩
          have hrI : (n : Int) - (k : Int) = (r : Int) := by omega
          obtain ⟨rc, hrc⟩ : ∃ rc, rc = cap - k := ⟨_, rfl⟩
          have hrcI : (cap : Int) - (k : Int) = (rc : Int) := by omega
          go_wp2_with fail
          rw [← hr, ← hrc]
          have hkr : k + r = n := by omega
          have HKR := hid hkr
          clear hr hrc hkr
          go_loopw [5, 7] (fun s5 s7 v => ∃ (kk j2 : Nat) (m : List C), s5 = .int .i64 (kk : Int) ∧ s7 = .int .i64 (j2 : Int) ∧ 1 ≤ j2 ∧ j2 ≤ r ∧ Hid (Cpt w g d kk (k + j2) m v)) (fun s5 s7 _ => r - (intOf s7).toNat)
          case atStart => exact ⟨k, 1, d, rfl, rfl, Nat.le_refl _, by have := HKR.out; omega, HC⟩
          case round =>
            obtain ⟨kk, j2, m, rfl, rfl, h1j, hjr, HK⟩ := hrel
            have hkk : kk + 1 ≤ k + j2 := HK.out.kj
            have hkn : kk < n := by have := HKR.out; omega
            have hknI : (kk : Int) < (n : Int) := by omega
            have hkcI : (kk : Int) ≤ (cap : Int) := by omega
            have hknI2 : (kk : Int) ≤ (n : Int) := by omega
            by_cases hjl : j2 < r
            · have hdj : decide ((j2 : Int) < (r : Int)) = true := by simp; omega
              have hjI : (j2 : Int) < (r : Int) := by omega
              obtain ⟨p, hp⟩ : ∃ p, p = j2 - 1 := ⟨_, rfl⟩
              have hpI : (j2 : Int) - 1 = (p : Int) := by omega
              have hpr : (p : Int) < (r : Int) := by omega
              have hpw : IntKind.i64.wrap (p : Int) = (p : Int) := i64w _ (by omega)
              have HL : Hid (k + j2 < d.length) := hid (by rw [← HN.out]; have := HKR.out; omega)
              obtain ⟨a, ha⟩ : ∃ a, d[k + j2]! = a := ⟨_, rfl⟩
              obtain ⟨b, hb⟩ : ∃ b, d[k + p]! = b := ⟨_, rfl⟩
              obtain ⟨f1, f2, f3⟩ := grownC HK.out k j2 (by omega) HL.out a ha
              obtain ⟨f4, f5, f6⟩ := grownC HK.out k p (by omega) (by have := HL.out; omega) b hb
              have H2 := hid (fun W => eq_g a b W)
              have HS2 : Hid (same d[k + j2]! d[k + j2 - 1]! = same a b) := hid (by rw [ha, show k + j2 - 1 = k + p by omega, hb])
              have HA2 := hid ha
              clear ha hb
              obtain ⟨xh, xl, xa⟩ := a
              obtain ⟨yh, yl, ya⟩ := b
              dsimp only at f1 f2 f3 f4 f5 f6
              obtain ⟨sm, hsm⟩ : ∃ sm, sm = same ⟨xh, xl, xa⟩ ⟨yh, yl, ya⟩ := ⟨_, rfl⟩
              rw [← hsm] at H2 HS2
              clear hsm hp
              go_wp2_with fail
              go_quiet_grown (first | (go_at_call 31; with_reducible (refine Calls.grown_of (H2.out _))) | fail)
              have HQ2 : Hid (Cpt w g d kk (k + j2) m (grow (wr.drewN nq) osq)) := hid (HK.out.read (gr_below ⟨nq, osq, rfl⟩))
              have g1 := f1 nq osq
              have g2 := f2 nq osq
              have g3 := f3 nq osq
              obtain ⟨wv, hwv⟩ : ∃ wv, wv = grow (wr.drewN nq) osq := ⟨_, rfl⟩
              rw [← hwv] at HQ2 g1 g2 g3
              rw [← hwv]
              clear hwv f1 f2 f3 f4 f5 f6
              cases sm with
              | true =>
                go_wp2
                refine ⟨⟨kk, j2 + 1, m, rfl, congrArg _ (by omega), by omega, by omega, hid (HQ2.out.skip HS2.out)⟩, ?_⟩
                show r - ((j2 : Int) + 1).toNat < r - ((j2 : Int)).toNat
                omega
              | false =>
                obtain ⟨c1, c2, c3⟩ := HQ2.out.row.at kk (by rw [HQ2.out.len, ← HN.out]; exact hkn)
                have z1 := HQ2.out.row.ic.frozen (kk * 3)
                have z2 := HQ2.out.row.ic.frozen (kk * 3 + 1)
                have z3 := HQ2.out.row.ic.frozen (kk * 3 + 2)
                have HM := hid (HQ2.out.move HL.out HS2.out)
                rw [HA2.out] at HM
                dsimp only at HM
                go_wp2
                refine ⟨⟨kk + 1, j2 + 1, _, congrArg _ (by omega), congrArg _ (by omega), by omega, by omega, HM⟩, ?_⟩
                show r - ((j2 : Int) + 1).toNat < r - ((j2 : Int)).toNat
                omega
            · have hdj : decide ((j2 : Int) < (r : Int)) = false := by simp; omega
              have hjn : k + j2 = n := by have := HKR.out; omega
              rw [hjn] at HK
              have hml : m.length = n := by rw [HK.out.len, HN.out]
              obtain ⟨wz, hz, hzo, hzr⟩ := clear_row g kk (n - kk) (cap - kk) m wr HK.out.row (by omega) (by omega)
              have HZO := hid hzo
              have HZR := hid hzr
              clear hzo hzr
              go_wp2
              go_ret
              rw [← HK.out.klen, ← HK.out.done]
              exact ⟨rfl, HK.out.only.trans HZO.out, HZR.out⟩
      · have hdl : decide ((k : Int) < (n : Int)) = false := by simp; omega
        have e : comp d n = d := by rw [comp_none d n (by rw [HN.out]; exact Nat.le_refl _) (fun i h1 h2 => HT.out i h1 (by omega)), HN.out, List.take_length]
        have hle : (comp d n).length = n := by rw [e, HN.out]
        go_wp2
        go_ret
        rw [hle, e]
        exact ⟨rfl, Only.of_below HB.out, HR.out.below HB.out HR.out.ic.lt⟩
end Go.Proofs.YbulkcntwDoor
