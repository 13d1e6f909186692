import Derived.Test.YbulkcntwDoorCompactW
import Derived.Test.YbulkcntwDoorMap
namespace Go.Proofs.YbulkcntwDoor
open Go.RowKit Go.Sort
set_option linter.unusedVariables false
set_option linter.unusedSimpArgs false

/-- Where the box of r and its map of stopped identifiers lie. -/
structure Stp (bx rb mb : Nat) (L : List (Nat × Nat)) (w : World) : Prop where
  box : w.cell? ⟨bx, 0, none⟩ = some (.pointer (some ⟨rb, 0, none⟩))
  fld : w.cell? ⟨rb, 6, none⟩ = some (.map (some mb))
  mp : Mp w mb L
theorem Stp.below {bx rb mb : Nat} {L : List (Nat × Nat)} {w w' : World} (h : Stp bx rb mb L w) (hb : Below w.heap.size w w') : Stp bx rb mb L w' :=
  ⟨(hb.cell (p := ⟨bx, 0, none⟩) (lt_of_cell h.box)).trans h.box, (hb.cell (p := ⟨rb, 6, none⟩) (lt_of_cell h.fld)).trans h.fld, h.mp.below hb⟩
theorem Stp.only {g bx rb mb : Nat} {L : List (Nat × Nat)} {w w' : World} (h : Stp bx rb mb L w) (ho : Only g w w') (h1 : ¬ bx = g) (h2 : ¬ rb = g) (h3 : ¬ mb = g) : Stp bx rb mb L w' :=
  ⟨(ho.cell (lt_of_cell h.box) h1).trans h.box, (ho.cell (lt_of_cell h.fld) h2).trans h.fld, h.mp.only ho h3⟩

set_option maxHeartbeats 1000000 in
theorem live1_g (bx rb mb : Nat) (L : List (Nat × Nat)) (c : C) (w : World) (hS : Stp bx rb mb L w) :
    Calls Ybad.prog 39 #[c.val, .pointer (some ⟨bx, 0, none⟩)] w fun e w' => e = .returned (.bool (decide ((c.hi, c.lo) ∈ L))) ∧ ∃ q os, w' = grow (w.drewN q) os := by
  obtain ⟨h, l, a⟩ := c
  dsimp only [C.val]
  obtain ⟨w1, hw1⟩ : ∃ w1, w1 = w.alloc (.cells #[.int .u64 (h : Int), .int .u64 (l : Int), .string a] 43) := ⟨_, rfl⟩
  have hb1 : Below w.heap.size w w1 := hw1 ▸ (Below.refl _ _).alloc (Nat.le_refl _) _
  have hsz : w1.heap.size = w.heap.size + 1 := by simp [hw1]
  have l1 := lt_of_cell hS.box
  have l2 := lt_of_cell hS.fld
  have S1 := hS.below hb1
  have f0 := fun n os => cell_grown (w := w1) (a := ⟨bx, 0, none⟩) (lt_of_cell S1.box) S1.box n os
  have f1 := fun n os => cell_grown (w := w1) (a := ⟨rb, 6, none⟩) (lt_of_cell S1.fld) S1.fld n os
  have f3 := fun n os => cell_grown (w := w1) (a := ⟨w.heap.size, 0, none⟩) (v := .int .u64 (h : Int)) (by rw [hsz]; show w.heap.size < _; omega) (by simp [hw1]) n os
  have f4 := fun n os => cell_grown (w := w1) (a := ⟨w.heap.size, 1, none⟩) (v := .int .u64 (l : Int)) (by rw [hsz]; show w.heap.size < _; omega) (by simp [hw1]) n os
  have f5 := fun n os => (S1.mp.below (gr_below (w := w1) (w' := grow (w1.drewN n) os) ⟨n, os, rfl⟩)).look (h, l)
  dsimp only [kv] at f5
  generalize decide ((h, l) ∈ L) = r at *
  clear hS S1 hb1 hsz l1 l2
  have mixed : Ybad.prog.follows .mixedOrders = true := by kernel_rfl
  go_enter Ybad.func39, Ybad.ntmps39
  go_wp2_with fail
  rw [← hw1]
  have HW := hid hw1
  clear hw1
  go_quiet_grown (fail)
  go_wp2
  go_ret
  exact ⟨rfl, gr_after (by rw [HW.out]; exact ⟨0, _, by rw [alloc_eq_grow]; rfl⟩) nq osq⟩

set_option maxHeartbeats 1000000 in
theorem index_w (bx rb mb : Nat) (L : List (Nat × Nat)) (g n cap : Nat) (d : List C) (w : World) (hS : Stp bx rb mb L w) (hR : Row g d w) (hn : n = d.length) (hc : n ≤ cap) (hc2 : cap ≤ 9223372036854775807) :
    Calls Ybad.prog 50 #[.slice (some ⟨g, 0, none⟩) n cap, .func (.func 39) #[] #[.pointer (some ⟨bx, 0, none⟩)]] w fun e w' => (e = .returned (.int .i64 (-1)) ∨ ∃ i : Nat, i < n ∧ e = .returned (.int .i64 (i : Int))) ∧ Below w.heap.size w w' := by
  have HN := hid hn
  have HR := hid hR
  have HS := hid hS
  clear hn hR hS
  go_enter Ybad.func50, Ybad.ntmps50
  go_wp2_with fail
  go_loopw [8] (fun s8 v => ∃ k : Nat, s8 = .int .i64 (k : Int) ∧ k ≤ n ∧ Hid (Below w.heap.size w v)) (fun s8 _ => n - (intOf s8).toNat)
  case atStart => exact ⟨0, rfl, Nat.zero_le _, hid (Below.refl _ _)⟩
  case round =>
    obtain ⟨k, rfl, hkn, HB⟩ := hrel
    by_cases hlt : k < n
    · have hdl : decide ((k : Int) < (n : Int)) = true := by simp; omega
      have hdl2 : (k : Int) < (n : Int) := by omega
      have HRv : Hid (Row g d wr) := hid (HR.out.below HB.out HR.out.ic.lt)
      have HSv : Hid (Stp bx rb mb L wr) := hid (HS.out.below HB.out)
      obtain ⟨a, ha⟩ : ∃ a, d[k]! = a := ⟨_, rfl⟩
      obtain ⟨f1, f2, f3⟩ := HRv.out.at k (by rw [← HN.out]; exact hlt)
      rw [ha] at f1 f2 f3
      clear ha
      have H := hid (live1_g bx rb mb L a wr HSv.out)
      obtain ⟨ah, al, aa⟩ := a
      dsimp only at f1 f2 f3
      dsimp only [C.val] at H
      generalize decide ((ah, al) ∈ L) = r at H
      cases r with
      | true =>
        go_wp2_with (first | (go_at_call 39; with_reducible (refine Calls.mono H.out ?_); rintro e w2 ⟨rfl, hg2⟩) | fail)
        go_ret
        exact ⟨.inr ⟨k, hlt, rfl⟩, HB.out.trans ((gr_below hg2).mono HB.out.size)⟩
      | false =>
        go_wp2_with (first | (go_at_call 39; with_reducible (refine Calls.mono H.out ?_); rintro e w2 ⟨rfl, hg2⟩) | fail)
        refine ⟨⟨k + 1, congrArg _ (by omega), by omega, hid (HB.out.trans ((gr_below hg2).mono HB.out.size))⟩, ?_⟩
        show n - ((k : Int) + 1).toNat < n - ((k : Int)).toNat
        omega
    · have hdl : decide ((k : Int) < (n : Int)) = false := by simp; omega
      go_wp2
      go_ret
      exact ⟨.inl rfl, HB.out⟩

set_option maxHeartbeats 1000000 in
theorem delete_w (bx rb mb : Nat) (L : List (Nat × Nat)) (g n cap : Nat) (d : List C) (w : World) (hS : Stp bx rb mb L w) (n1 : ¬ bx = g) (n2 : ¬ rb = g) (n3 : ¬ mb = g) (hR : Row g d w) (hn : n = d.length) (hc : n ≤ cap) (hc2 : cap ≤ 9223372036854775807) :
    Calls Ybad.prog 38 #[.slice (some ⟨g, 0, none⟩) n cap, .func (.func 39) #[] #[.pointer (some ⟨bx, 0, none⟩)]] w fun e w' => ∃ d' : List C, d'.length ≤ n ∧ e = .returned (.slice (some ⟨g, 0, none⟩) d'.length cap) ∧ Only g w w' ∧ Row g d' w' := by
  have HI : Hid (Calls Ybad.prog 50 #[.slice (some ⟨g, 0, none⟩) n cap, .func (.func 39) #[] #[.pointer (some ⟨bx, 0, none⟩)]] w fun e w' => ∃ ii : Int, (ii = -1 ∨ (0 ≤ ii ∧ ii < n)) ∧ e = .returned (.int .i64 ii) ∧ Below w.heap.size w w') := hid ((index_w bx rb mb L g n cap d w hS hR hn hc hc2).mono fun e w' ⟨h1, h2⟩ => by
    rcases h1 with h1 | ⟨i, hi, h1⟩
    · exact ⟨-1, .inl rfl, h1, h2⟩
    · exact ⟨i, .inr ⟨by omega, by omega⟩, h1, h2⟩)
  have HN := hid hn
  have HR := hid hR
  have HS := hid hS
  have HNE := hid (And.intro n1 (And.intro n2 n3))
  clear hn hR hS n1 n2 n3
  have hcI : (n : Int) ≤ (cap : Int) := by omega
  go_enter Ybad.func38, Ybad.ntmps38
  go_upto_region 2 with (first | (go_at_call 50; with_reducible (refine Calls.mono HI.out ?_); rintro e w2 ⟨ii, hii, rfl, hb2⟩) | fail)
  by_cases him : ii = -1
  · subst him
    go_wp2
    go_ret
    exact ⟨d, by rw [HN.out]; exact Nat.le_refl _, by rw [← HN.out]; rfl, Only.of_below hb2, HR.out.below hb2 HR.out.ic.lt⟩
  · have hii2 : 0 ≤ ii ∧ ii < n := by omega
    obtain ⟨i0, rfl⟩ := Int.eq_ofNat_of_zero_le hii2.1
    have hi0 : i0 < n := by omega
    clear hii hii2
    have HB2 := hid hb2
    clear hb2
    have hbq : ((i0 : Int) == -1) = false := by rw [beq_eq_false_iff_ne]; omega
    go_wp2_with fail
    clear hbq
    go_loopw [5, 6] (fun s5 s6 v => ∃ (i j : Nat) (m : List C), s5 = .int .i64 (i : Int) ∧ s6 = .int .i64 (j : Int) ∧ i < j ∧ j ≤ n ∧ Hid (m.length = n) ∧ Hid (Only g w v) ∧ Hid (Row g m v)) (fun s5 s6 _ => n - (intOf s6).toNat)
    case atStart => exact ⟨i0, i0 + 1, d, rfl, congrArg _ (by omega), by omega, by omega, hid HN.out.symm, hid (Only.of_below HB2.out), hid (HR.out.below HB2.out HR.out.ic.lt)⟩
    case round =>
      obtain ⟨i, j, m, rfl, rfl, hij, hjn, HM, HO, HRv⟩ := hrel
      have hinI : (i : Int) ≤ (n : Int) := by omega
      have hinI2 : (i : Int) < (n : Int) := by omega
      have hicI : (i : Int) ≤ (cap : Int) := by omega
      by_cases hlt : j < n
      · have hdl : decide ((j : Int) < (n : Int)) = true := by simp; omega
        have hdl2 : (j : Int) < (n : Int) := by omega
        obtain ⟨a, ha⟩ : ∃ a, m[j]! = a := ⟨_, rfl⟩
        obtain ⟨f1, f2, f3⟩ := HRv.out.at j (by rw [HM.out]; exact hlt)
        rw [ha] at f1 f2 f3
        clear ha
        obtain ⟨wa, hwa⟩ : ∃ wa, wa = wr.alloc (.cells #[.int .u64 (a.hi : Int), .int .u64 (a.lo : Int), .string a.ad] 43) := ⟨_, rfl⟩
        have hba : Below wr.heap.size wr wa := hwa ▸ (Below.refl _ _).alloc (Nat.le_refl _) _
        have HSv : Hid (Stp bx rb mb L wa) := hid ((HS.out.only HO.out HNE.out.1 HNE.out.2.1 HNE.out.2.2).below hba)
        have HOa : Hid (Only g w wa) := hid (HO.out.trans (Only.of_below hba))
        have HRa : Hid (Row g m wa) := hid (HRv.out.read hba)
        have H := hid (live1_g bx rb mb L a wa HSv.out)
        obtain ⟨ah, al, aa⟩ := a
        dsimp only at f1 f2 f3 hwa
        dsimp only [C.val] at H
        have HSZ : Hid (wa.heap.size = wr.heap.size + 1) := hid (by simp [hwa])
        have c1 : wa.cell? ⟨wr.heap.size, 0, none⟩ = some (.int .u64 (ah : Int)) := by simp [hwa]
        have c2 : wa.cell? ⟨wr.heap.size, 1, none⟩ = some (.int .u64 (al : Int)) := by simp [hwa]
        have c3 : wa.cell? ⟨wr.heap.size, 2, none⟩ = some (.string aa) := by simp [hwa]
        generalize decide ((ah, al) ∈ L) = r at H
        clear hba
        go_upto_region 8 with fail
        rw [← hwa]
        clear hwa
        cases r with
        | true =>
          go_wp2_with (first | (go_at_call 39; with_reducible (refine Calls.mono H.out ?_); rintro e w3 ⟨rfl, hg3⟩) | fail)
          refine ⟨⟨i, j + 1, m, rfl, congrArg _ (by omega), by omega, by omega, HM, hid (HOa.out.trans (Only.of_below (gr_below hg3))), hid (HRa.out.read (gr_below hg3))⟩, ?_⟩
          show n - ((j : Int) + 1).toNat < n - ((j : Int)).toNat
          omega
        | false =>
          go_wp2_with (first | (go_at_call 39; with_reducible (refine Calls.mono H.out ?_); rintro e w3 ⟨rfl, hg3⟩; have HB3 := hid (gr_below hg3); clear hg3; have e1 := (HB3.out.cell (p := ⟨wr.heap.size, 0, none⟩) (lt_of_cell c1)).trans c1; have e2 := (HB3.out.cell (p := ⟨wr.heap.size, 1, none⟩) (lt_of_cell c2)).trans c2; have e3 := (HB3.out.cell (p := ⟨wr.heap.size, 2, none⟩) (lt_of_cell c3)).trans c3; obtain ⟨x1, x2, x3⟩ := (HRa.out.read HB3.out).at i (by rw [HM.out]; omega); have z1 := (HRa.out.read HB3.out).ic.frozen (i * 3); have z2 := (HRa.out.read HB3.out).ic.frozen (i * 3 + 1); have z3 := (HRa.out.read HB3.out).ic.frozen (i * 3 + 2)) | fail)
          refine ⟨⟨i + 1, j + 1, m.set i ⟨ah, al, aa⟩, congrArg _ (by omega), congrArg _ (by omega), by omega, by omega, hid (by rw [List.length_set]; exact HM.out), hid (((((HOa.out.trans (Only.of_below HB3.out)).setCell _ _).setCell _ _).setCell _ _)), hid ((HRa.out.read HB3.out).set i ⟨ah, al, aa⟩ (by rw [HM.out]; omega))⟩, ?_⟩
          show n - ((j : Int) + 1).toNat < n - ((j : Int)).toNat
          omega
      · have hdl : decide ((j : Int) < (n : Int)) = false := by simp; omega
        obtain ⟨wz, hz, hzo, hzr⟩ := clear_row g i (n - i) (cap - i) m wr HRv.out (by rw [HM.out]; omega) (by omega)
        have HZO := hid hzo
        have HZR := hid hzr
        have hil : (m.take i).length = i := by rw [List.length_take, HM.out]; omega
        clear hzo hzr
        go_wp2
        go_ret
        exact ⟨m.take i, by omega, by rw [hil]; rfl, HO.out.trans HZO.out, HZR.out⟩
end Go.Proofs.YbulkcntwDoor
