import Derived.Test.YbulkcntwDoorSizes
import Derived.Laws.Bits64
import Derived.Laws.Bits64b
namespace Go.Proofs.YbulkcntwDoor
open Go.RowKit Go.Sort
set_option linter.unusedVariables false
set_option linter.unusedSimpArgs false

instance (h l kh kl n : Nat) : Decidable (inB h l kh kl n) := by unfold inB; infer_instance
set_option maxHeartbeats 1000000 in
theorem zin_any (h l kh kl n : Nat) (q1 : h < M) (q2 : l < M) (q3 : kh < M) (q4 : kl < M) (hn : n ≤ 128) (w : World) :
    Calls Ybad.prog 7 #[idv h l, idv kh kl, .int .u64 (onesHi n : Int), .int .u64 (onesLo n : Int)] w fun e w' => e = .returned (.bool (decide (inB h l kh kl n))) ∧ Below w.heap.size w w' := by
  have o1 : onesHi n < M := by unfold onesHi M; have : 0 < 2 ^ (64 - n) := Nat.pos_of_ne_zero (by simp); split; omega; split <;> omega
  have o2 : onesLo n < M := by unfold onesLo M; have : 0 < 2 ^ (128 - n) := Nat.pos_of_ne_zero (by simp); split <;> omega
  have x1 := bits_xor_u64_nat h kh q1 q3
  have x2 := bits_xor_u64_nat l kl q2 q4
  have y1 := bits_and_u64_nat (h ^^^ kh) (onesHi n) (Nat.xor_lt_two_pow (n := 64) q1 q3) o1
  have y2 := bits_and_u64_nat (l ^^^ kl) (onesLo n) (Nat.xor_lt_two_pow (n := 64) q2 q4) o2
  have HI : Hid (inB h l kh kl n ↔ (((h ^^^ kh) &&& onesHi n = 0 ∧ (l ^^^ kl) &&& onesLo n = 0) ∧ (kh < h ∨ (kh = h ∧ kl ≤ l)))) := hid (by unfold inB; rw [num_le q4 q2])
  generalize hd : decide (inB h l kh kl n) = r
  have HD := hid hd
  clear hd
  generalize (h ^^^ kh) &&& onesHi n = u1 at *
  generalize (l ^^^ kl) &&& onesLo n = u2 at *
  generalize h ^^^ kh = t1 at *
  generalize l ^^^ kl = t2 at *
  generalize onesHi n = m1 at *
  generalize onesLo n = m2 at *
  by_cases c1 : u1 = 0
  · subst c1
    by_cases c2 : u2 = 0
    · subst c2
      by_cases c3 : (h : Int) = (kh : Int)
      · have e : h = kh := by omega
        subst e
        have HR : Hid (r = decide (kl ≤ l)) := hid (by rw [← HD.out, decide_eq_decide, HI.out]; omega)
        clear q1 q2 q3 q4 o1 o2 c3
        go_enter Ybad.func7, Ybad.ntmps7
        go_wp2
        go_ret
        exact ⟨by rw [HR.out]; rfl, gr_below (g2 _ _ _)⟩
      · have HR : Hid (r = decide (kh < h)) := hid (by rw [← HD.out, decide_eq_decide, HI.out]; omega)
        have c4 : ((h : Int) == (kh : Int)) = false := by rw [beq_eq_false_iff_ne]; exact c3
        clear q1 q2 q3 q4 o1 o2
        go_enter Ybad.func7, Ybad.ntmps7
        go_wp2
        go_ret
        exact ⟨by rw [HR.out]; rfl, gr_below (g2 _ _ _)⟩
    · have HR : Hid (r = false) := hid (by rw [← HD.out, decide_eq_false_iff_not, HI.out]; exact fun h => c2 h.1.2)
      have c3 : ¬ (u2 : Int) = 0 := by omega
      have c4 : ((u2 : Int) == 0) = false := by rw [beq_eq_false_iff_ne]; exact c3
      clear q1 q2 q3 q4 o1 o2
      go_enter Ybad.func7, Ybad.ntmps7
      go_wp2
      go_ret
      exact ⟨by rw [HR.out]; rfl, gr_below (g2 _ _ _)⟩
  · have HR : Hid (r = false) := hid (by rw [← HD.out, decide_eq_false_iff_not, HI.out]; exact fun h => c1 h.1.1)
    have c3 : ¬ (u1 : Int) = 0 := by omega
    have c4 : ((u1 : Int) == 0) = false := by rw [beq_eq_false_iff_ne]; exact c3
    clear q1 q2 q3 q4 o1 o2
    go_enter Ybad.func7, Ybad.ntmps7
    go_wp2
    go_ret
    exact ⟨by rw [HR.out]; rfl, gr_below (g2 _ _ _)⟩

theorem float_same : ∀ n : Fin 32, FloatKind.f64.format.order (floatOfInt .f64 (n.val : Int)) (floatOfInt .f64 (n.val : Int)) = some .eq := by decide
/-- What the law counts. -/
def want (wd : Nat) (L : List (Nat × Nat)) (b : Br) (k : Nat × Nat) : Bool := !decide (k ∈ L) && decide (inB k.1 k.2 b.hi b.lo (min (b.dg * wd) 128))
theorem cnt_eq {sh sl wd : Nat} {L : List (Nat × Nat)} {all r : List C} (h : RingOf sh sl all r) (q1 : sh < M) (q2 : sl < M) (hok : ∀ c ∈ all, c.ok) (D : List (Nat × Nat)) (hD : D.Nodup) (hm : ∀ k, k ∈ D ↔ k ∈ all.map C.id) (b : Br) (hb : b.ok) :
    cnt wd L r b = (D.filter (want wd L b)).length := by
  have hDok : ∀ k ∈ D, k.1 < M ∧ k.2 < M := fun k hk => by
    obtain ⟨c, hc, rfl⟩ := List.mem_map.1 ((hm k).1 hk)
    exact hok c hc
  have e1 := h.count q1 q2 hok D hD hm (fun k => !decide (k ∈ L) && holdsV b.hi b.lo (b.eh wd) (b.el wd) k.1 k.2)
  unfold cnt
  rw [List.filter_filter]
  refine e1.trans ?_
  congr 1
  refine List.filter_congr fun k hk => ?_
  have := hDok k hk
  unfold want holdsV Br.eh Br.el
  congr 1
  rw [decide_eq_decide]
  exact holds_iff (by omega) this.1 this.2 hb.1 hb.2.1
end Go.Proofs.YbulkcntwDoor
