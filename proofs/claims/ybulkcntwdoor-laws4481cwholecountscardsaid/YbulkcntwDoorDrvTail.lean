import Derived.Test.YbulkcntwDoorLaw
import Derived.Deep.DeepCutAuto
import Derived.Deep.Cut
namespace Go.Proofs.YbulkcntwDoor
open Go.RowKit Go.Sort
set_option linter.unusedVariables false
set_option linter.unusedSimpArgs false

/-- What stands behind the first n statements of a sequence. -/
def rights : Nat → Code → Code
  | 0, c => c
  | n + 1, .seq _ b => rights n b
  | _ + 1, c => c
/-- The branches lie at p. -/
def BrAt (w : World) (p : Option Addr) (n : Nat) (bl : List Br) : Prop := 0 < n → ∃ b, p = some ⟨b, 0, none⟩ ∧ b < w.heap.size ∧ ∀ k, k < n → ∀ i, i < 6 → w.cell? ⟨b, k * 6 + i, none⟩ = (Br.enc bl[k]!)[i]?
/-- The identifiers D lie in block g. -/
def IdAt (w : World) (g : Nat) (D : List (Nat × Nat)) : Prop := ∀ k, k < D.length → w.cell? ⟨g, k * 2, none⟩ = some (.int .u64 (D[k]!.1 : Int)) ∧ w.cell? ⟨g, k * 2 + 1, none⟩ = some (.int .u64 (D[k]!.2 : Int))
theorem BrAt.below {w w' : World} {p : Option Addr} {n : Nat} {bl : List Br} (h : BrAt w p n bl) (hb : Below w.heap.size w w') : BrAt w' p n bl := fun hn => by
  obtain ⟨b, e, hl, hc⟩ := h hn
  exact ⟨b, e, Nat.lt_of_lt_of_le hl hb.size, fun k hk i hi => (hb.cell (p := ⟨b, k * 6 + i, none⟩) hl).trans (hc k hk i hi)⟩
theorem IdAt.below {w w' : World} {g : Nat} {D : List (Nat × Nat)} (h : IdAt w g D) (hb : Below w.heap.size w w') : IdAt w' g D := fun k hk =>
  ⟨(hb.cell (p := ⟨g, k * 2, none⟩) (lt_of_cell (h k hk).1)).trans (h k hk).1, (hb.cell (p := ⟨g, k * 2 + 1, none⟩) (lt_of_cell (h k hk).1)).trans (h k hk).2⟩
theorem take_filter (D : List (Nat × Nat)) (p : Nat × Nat → Bool) (j : Nat) (hj : j < D.length) : ((D.take (j + 1)).filter p).length = ((D.take j).filter p).length + if p D[j]! = true then 1 else 0 := by
  rw [List.take_add_one, List.getElem?_eq_getElem hj, List.filter_append, List.length_append, getElem!_pos D j hj]
  congr 1
  by_cases h : p D[j] = true <;> simp [h]

set_option maxRecDepth 100000 in
set_option maxHeartbeats 16000000 in
theorem drv_tail {w0 w : World} {wd mb n bc sz dgb dc : Nat} {bp : Option Addr} {L D : List (Nat × Nat)} {bl : List Br}
    {y0 y1 y2 y3 y4 y5 y6 y7 y8 y9 y10 y11 y12 y13 y16 y17 y19 y20 y21 y23 y24 y27 y28 y29 y30 y31 y32 y33 y34 y35 y36 y37 y38 y39 y40 y41 y42 y43 y44 y45 y46 y47 y48 y49 y50 y51 y52 y53 y54 y55 y56 y57 y58 y59 y60 y61 y62 y63 y64 y65 y66 y67 y68 y69 y70 y71 y72 y73 y74 y75 y76 y77 y78 y79 y80 y81 y82 y83 y84 y85 y86 y87 y88 y89 y90 y91 y92 y93 y94 y95 y96 y97 y98 y99 y100 y101 y102 y103 y104 y105 y106 y107 y108 y109 y110 y111 y112 y113 y114 y115 y116 y117 y118 y119 y120 y121 y122 y123 y124 y125 y126 y127 y128 y129 y130 y131 y132 y133 y134 y135 y136 y137 y138 y139 y140 y141 y142 y143 y144 y145 y146 y147 y148 y149 y150 y151 y152 y153 y154 y155 y156 y157 y158 y159 y160 y161 y162 y163 y164 y165 y166 y167 y168 y169 y170 y171 y172 y173 y174 y175 y176 y177 y178 y179 y180 y181 y182 y183 y184 y185 y186 y187 y188 y189 y190 y191 y192 y193 y194 y195 y196 y197 y198 y199 y200 y201 y202 y203 y204 y205 y206 y207 y208 y209 y210 y211 y212 y213 y214 y215 y216 : Value}
    (hb0 : Below w0.heap.size w0 w) (hn : n = bl.length) (hn2 : n ≤ 1024) (hwd : wd ≤ 8) (hok : ∀ b ∈ bl, b.ok) (hD31 : D.length ≤ 31) (hDok : ∀ k ∈ D, k.1 < M ∧ k.2 < M) (hM : Mp w mb L) (hB : BrAt w bp n bl) (hI : IdAt w dgb D)
    (hS : ∀ k, k < n → w.cell? ⟨sz, k, none⟩ = some (.float .f64 (floatOfInt .f64 ((D.filter (want wd L bl[k]!)).length : Int)))) :
    Code.wp Ybad.prog (rights 22 (Ybad.f3.body.getD .skip)) (bodyPost Ybad.prog Ybad.f3 fun e w' => e = .returned (.bool true) ∧ Below w0.heap.size w0 w')
      { tmps := #[y0, y1, y2, y3, y4, y5, y6, y7, y8, y9, y10, y11, y12, y13, .bool false, .int .i64 (wd : Int), y16, y17, .map (some mb), y19, y20, y21, .slice bp n bc, y23, y24, .slice (some ⟨sz, 0, none⟩) n n, .slice (some ⟨dgb, 0, none⟩) D.length dc, y27, y28, y29, y30, y31, y32, y33, y34, y35, y36, y37, y38, y39, y40, y41, y42, y43, y44, y45, y46, y47, y48, y49, y50, y51, y52, y53, y54, y55, y56, y57, y58, y59, y60, y61, y62, y63, y64, y65, y66, y67, y68, y69, y70, y71, y72, y73, y74, y75, y76, y77, y78, y79, y80, y81, y82, y83, y84, y85, y86, y87, y88, y89, y90, y91, y92, y93, y94, y95, y96, y97, y98, y99, y100, y101, y102, y103, y104, y105, y106, y107, y108, y109, y110, y111, y112, y113, y114, y115, y116, y117, y118, y119, y120, y121, y122, y123, y124, y125, y126, y127, y128, y129, y130, y131, y132, y133, y134, y135, y136, y137, y138, y139, y140, y141, y142, y143, y144, y145, y146, y147, y148, y149, y150, y151, y152, y153, y154, y155, y156, y157, y158, y159, y160, y161, y162, y163, y164, y165, y166, y167, y168, y169, y170, y171, y172, y173, y174, y175, y176, y177, y178, y179, y180, y181, y182, y183, y184, y185, y186, y187, y188, y189, y190, y191, y192, y193, y194, y195, y196, y197, y198, y199, y200, y201, y202, y203, y204, y205, y206, y207, y208, y209, y210, y211, y212, y213, y214, y215, y216], defers := [] } w := by
  have HB0 := hid hb0
  have HN := hid hn
  have HOK := hid hok
  have HDK := hid hDok
  have HM := hid hM
  have HB := hid hB
  have HI := hid hI
  have HS := hid hS
  clear hb0 hn hok hDok hM hB hI hS
  conv => arg 2; dsimp only [rights, Ybad.f3, Option.getD]
  go_wp2_with fail
  go_loopw [168] (fun s168 v => ∃ k : Nat, s168 = .int .i64 (k : Int) ∧ k ≤ n ∧ Hid (Below w.heap.size w v)) (fun s168 _ => n - (intOf s168).toNat)
  case atStart => exact ⟨0, rfl, Nat.zero_le _, hid (Below.refl _ _)⟩
  case round =>
    obtain ⟨k, rfl, hkn, HV⟩ := hrel
    by_cases hlt : k < n
    · have hdl : decide ((k : Int) < (n : Int)) = true := by simp; omega
      have hdl2 : (k : Int) < (n : Int) := by omega
      obtain ⟨b, rfl, hbl, hcell0⟩ := (HB.out.below HV.out) (by omega)
      obtain ⟨q, hq⟩ : ∃ q, bl[k]! = q := ⟨_, rfl⟩
      have hcell : ∀ i, i < 6 → wr.cell? ⟨b, k * 6 + i, none⟩ = (Br.enc q)[i]? := fun i hi => by rw [hcell0 k hlt i hi, hq]
      have f0 := hcell 0 (by omega)
      have f1 := hcell 1 (by omega)
      have f2 := hcell 2 (by omega)
      have f3 := hcell 3 (by omega)
      have f4 := hcell 4 (by omega)
      have f5 := hcell 5 (by omega)
      have HSK : Hid (w.cell? ⟨sz, k, none⟩ = some (.float .f64 (floatOfInt .f64 ((D.filter (want wd L q)).length : Int)))) := hid (by have := HS.out k hlt; rwa [hq] at this)
      have HQ : Hid q.ok := hid (by
        have hkl : k < bl.length := by rw [← HN.out]; exact hlt
        rw [← hq, getElem!_pos bl k hkl]
        exact HOK.out _ (List.getElem_mem hkl))
      clear hcell hcell0 hq hbl
      obtain ⟨kh, kl, dg⟩ := q
      simp at f0 f1 f2 f3 f4 f5
      obtain ⟨m, hm⟩ : ∃ m, m = min (dg * wd) 128 := ⟨_, rfl⟩
      have hm128 : m ≤ 128 := by omega
      have hdw : dg * wd ≤ 19 * 8 := Nat.mul_le_mul (by have := HQ.out.2.2; dsimp only at this; omega) hwd
      have e1 : (dg : Int) * (wd : Int) = ((dg * wd : Nat) : Int) := by simp
      have HW : Hid (want wd L ⟨kh, kl, dg⟩ = fun k => !decide (k ∈ L) && decide (inB k.1 k.2 kh kl m)) := hid (by rw [hm]; rfl)
      generalize dg * wd = dk at *
      have e2 : IntKind.i64.wrap (dk : Int) = (dk : Int) := i64w _ (by omega)
      have e3 : (if (128 : Int) < (dk : Int) then 128 else (dk : Int)) = (m : Int) := by split <;> omega
      have e3' : min (dk : Int) 128 = (m : Int) := by omega
      clear hm hdw
      obtain ⟨wa, hwa⟩ : ∃ wa, wa = wr.alloc (.cells #[.int .u64 0, .int .u64 0, .string ⟨#[]⟩, .int .u64 (kh : Int), .int .u64 (kl : Int), .int .i64 (dg : Int)] 45) := ⟨_, rfl⟩
      have HBA : Hid (Below w.heap.size w wa) := hid (HV.out.trans ((hwa ▸ (Below.refl wr.heap.size wr).alloc (Nat.le_refl _) _ : Below wr.heap.size wr wa).mono HV.out.size))
      have HXA : Hid (Bx wr.heap.size 45 #[.int .u64 0, .int .u64 0, .string ⟨#[]⟩, .int .u64 (kh : Int), .int .u64 (kl : Int), .int .i64 (dg : Int)] wa) := hid (by rw [hwa]; exact heap_alloc_new _ _)
      have a5 := HXA.out.cell 5
      simp at a5
      go_upto_region 49 with fail
      rw [← hwa]
      clear hwa f0 f1 f2 f3 f4 f5
      go_upto_if 179 with fail
      go_cut [36, 37] from 180 to 187 (fun s36 s37 wc => s36 = .int .u64 (onesHi m : Int) ∧ s37 = .int .u64 (onesLo m : Int) ∧ wc = wa)
      case first =>
        by_cases c64 : 64 ≤ m
        · have d1 : decide ((64 : Int) ≤ (m : Int)) = true := by simp; omega
          obtain ⟨x, hx⟩ : ∃ x : Nat, x = 128 - m := ⟨_, rfl⟩
          have hxI : (128 : Int) - (m : Int) = (x : Int) := by omega
          have hx64 : (x : Int) ≤ 64 := by omega
          have hx0 : (0 : Int) ≤ (x : Int) := by omega
          obtain ⟨v, hv⟩ : ∃ v, v = onesLo m := ⟨_, rfl⟩
          have hw : IntKind.u64.wrap (18446744073709551615 * 2 ^ x) = (v : Int) := by
            rw [hv]
            by_cases e64 : m = 64
            · rw [hx, e64]; decide
            · rw [wrap_ones x (by omega)]
              unfold onesLo
              rw [if_neg (by omega), ← hx]
          have HE : Hid (onesHi m = 18446744073709551615) := hid (by
            unfold onesHi
            rw [if_neg (by omega)]
            by_cases e64 : m = 64
            · subst e64; rfl
            · rw [if_neg (by omega)]; rfl)
          have HV1 := hid hv
          clear hx hv
          go_wp2_with fail
          go_meet
          exact ⟨by rw [HE.out]; rfl, by rw [← HV1.out], rfl⟩
        · have d1 : decide ((64 : Int) ≤ (m : Int)) = false := by simp; omega
          obtain ⟨x, hx⟩ : ∃ x : Nat, x = 64 - m := ⟨_, rfl⟩
          have hxI : (64 : Int) - (m : Int) = (x : Int) := by omega
          have hx64 : (x : Int) ≤ 64 := by omega
          have hx0 : (0 : Int) ≤ (x : Int) := by omega
          obtain ⟨v, hv⟩ : ∃ v, v = onesHi m := ⟨_, rfl⟩
          have hw : IntKind.u64.wrap (18446744073709551615 * 2 ^ x) = (v : Int) := by
            rw [hv]
            by_cases e0 : m = 0
            · rw [hx, e0]; decide
            · rw [wrap_ones x (by omega)]
              unfold onesHi
              rw [if_neg e0, if_pos (by omega), ← hx]
          have HE : Hid (onesLo m = 0) := hid (by unfold onesLo; rw [if_pos (by omega)])
          have HV1 := hid hv
          clear hx hv
          go_wp2_with fail
          go_meet
          exact ⟨by rw [← HV1.out], by rw [HE.out]; rfl, rfl⟩
      case rest =>
      obtain ⟨rfl, rfl, hwc⟩ := hcut
      subst hwc
      rename ∀ (a : Act) (w : World), Code.wp Ybad.prog _ _ a w → _ => hKK
      refine hKK _ _ ?_
      clear hKK
      obtain ⟨a0, a1, a2, a3, a4⟩ : wc.cell? ⟨wr.heap.size, 0, none⟩ = some (.int .u64 0) ∧ wc.cell? ⟨wr.heap.size, 1, none⟩ = some (.int .u64 0) ∧ wc.cell? ⟨wr.heap.size, 2, none⟩ = some (.string ⟨#[]⟩) ∧ wc.cell? ⟨wr.heap.size, 3, none⟩ = some (.int .u64 (kh : Int)) ∧ wc.cell? ⟨wr.heap.size, 4, none⟩ = some (.int .u64 (kl : Int)) := ⟨HXA.out.cell 0, HXA.out.cell 1, HXA.out.cell 2, HXA.out.cell 3, HXA.out.cell 4⟩
      obtain ⟨P, hP⟩ : ∃ P, P = want wd L ⟨kh, kl, dg⟩ := ⟨_, rfl⟩
      rw [← hP] at HSK HW
      clear hP
      go_wp2_with fail
      have HV2 := hid HBA.out
      generalize wr.heap.size = bq at *
      go_loopw [38, 190] (fun s38 s190 v => ∃ j : Nat, s190 = .int .i64 (j : Int) ∧ j ≤ D.length ∧ s38 = .int .i64 (((D.take j).filter P).length : Int) ∧ Hid (Below wc.heap.size wc v)) (fun s38 s190 _ => D.length - (intOf s190).toNat)
      case atStart => exact ⟨0, rfl, Nat.zero_le _, rfl, hid (Below.refl _ _)⟩
      case round =>
        obtain ⟨j, rfl, hjn, rfl, HJ⟩ := hrel
        have hcle : ((D.take j).filter P).length ≤ 31 := Nat.le_trans (List.length_filter_le _ _) (by rw [List.length_take]; omega)
        by_cases hjl : j < D.length
        · have hdj : decide ((j : Int) < (D.length : Int)) = true := by simp; omega
          have hdj2 : (j : Int) < (D.length : Int) := by omega
          obtain ⟨z1, z2⟩ := ((HI.out.below HBA.out).below HJ.out) j hjl
          obtain ⟨id, hid0⟩ : ∃ id, D[j]! = id := ⟨_, rfl⟩
          have HTF : Hid (((D.take (j + 1)).filter P).length = ((D.take j).filter P).length + if P id = true then 1 else 0) := hid (by rw [take_filter D P j hjl, hid0])
          have HIK : Hid (id.1 < M ∧ id.2 < M) := hid (by
            rw [← hid0, getElem!_pos D j hjl]
            exact HDK.out _ (List.getElem_mem hjl))
          rw [hid0] at z1 z2
          clear hid0
          obtain ⟨ih, il⟩ := id
          dsimp only at z1 z2 HIK
          have HPI : Hid (P (ih, il) = (!decide ((ih, il) ∈ L) && decide (inB ih il kh kl m))) := hid (by rw [HW.out])
          obtain ⟨wb, hwb⟩ : ∃ wb, wb = wr.alloc (.cells #[.int .u64 (ih : Int), .int .u64 (il : Int)] 26) := ⟨_, rfl⟩
          have HBB : Hid (Below wr.heap.size wr wb) := hid (hwb ▸ (Below.refl _ _).alloc (Nat.le_refl _) _)
          have HBC : Hid (Below wc.heap.size wc wb) := hid (HJ.out.trans (HBB.out.mono HJ.out.size))
          have hlk := (((HM.out.below HBA.out).below HBC.out)).look (ih, il)
          dsimp only [kv] at hlk
          have x0 : wb.cell? ⟨wr.heap.size, 0, none⟩ = some (.int .u64 (ih : Int)) := by simp [hwb]
          have x1 : wb.cell? ⟨wr.heap.size, 1, none⟩ = some (.int .u64 (il : Int)) := by simp [hwb]
          have x3 := (HBC.out.cell (p := ⟨bq, 3, none⟩) (lt_of_cell a3)).trans a3
          have x4 := (HBC.out.cell (p := ⟨bq, 4, none⟩) (lt_of_cell a3)).trans a4
          have HZI := hid (zin_any ih il kh kl m HIK.out.1 HIK.out.2 HQ.out.1 HQ.out.2.1 hm128 wb)
          generalize hst : decide ((ih, il) ∈ L) = st at *
          generalize hzi : decide (inB ih il kh kl m) = zi at *
          clear hst hzi
          go_upto_region 59 with fail
          rw [← hwb]
          clear hwb z1 z2
          cases st with
          | true =>
            go_wp2
            refine ⟨⟨j + 1, congrArg _ (by omega), by omega, ?_, HBC⟩, ?_⟩
            · rw [HTF.out, HPI.out]; simp
            · show D.length - ((j : Int) + 1).toNat < D.length - ((j : Int)).toNat
              omega
          | false =>
            cases zi with
            | true =>
              go_wp2_with (first | (go_at_call 7; with_reducible (refine Calls.mono HZI.out ?_); rintro e w5 ⟨rfl, hb5⟩) | fail)
              refine ⟨⟨j + 1, congrArg _ (by omega), by omega, ?_, hid (HBC.out.trans (hb5.mono HBC.out.size))⟩, ?_⟩
              · rw [HTF.out, HPI.out]; simp
              · show D.length - ((j : Int) + 1).toNat < D.length - ((j : Int)).toNat
                omega
            | false =>
              go_wp2_with (first | (go_at_call 7; with_reducible (refine Calls.mono HZI.out ?_); rintro e w5 ⟨rfl, hb5⟩) | fail)
              refine ⟨⟨j + 1, congrArg _ (by omega), by omega, ?_, hid (HBC.out.trans (hb5.mono HBC.out.size))⟩, ?_⟩
              · rw [HTF.out, HPI.out]; simp
              · show D.length - ((j : Int) + 1).toNat < D.length - ((j : Int)).toNat
                omega
        · have hdj : decide ((j : Int) < (D.length : Int)) = false := by simp; omega
          have hj2 : D.take j = D := List.take_of_length_le (by omega)
          rw [hj2] at hcle
          rw [hj2]
          have HWV : Hid (Below w.heap.size w wr) := hid (HV2.out.trans (HJ.out.mono HV2.out.size))
          have s0 := (HWV.out.cell (p := ⟨sz, k, none⟩) (lt_of_cell HSK.out)).trans HSK.out
          have hfe := float_same ⟨(D.filter P).length, by omega⟩
          dsimp only at hfe
          generalize hfv : floatOfInt .f64 ((D.filter P).length : Int) = fv at *
          have hfe2 : (FloatKind.f64.format.order fv fv != some .eq) = false := by rw [hfe]; rfl
          go_wp2
          refine ⟨⟨k + 1, congrArg _ (by omega), by omega, HWV⟩, ?_⟩
          show n - ((k : Int) + 1).toNat < n - ((k : Int)).toNat
          omega
    · have hdl : decide ((k : Int) < (n : Int)) = false := by simp; omega
      go_wp2
      go_ret
      exact ⟨rfl, HB0.out.trans (HV.out.mono HB0.out.size)⟩
end Go.Proofs.YbulkcntwDoor
