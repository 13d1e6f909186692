import Derived.Test.YbulkcntwDoorDrvTail
import Derived.Deep.CutBlock
namespace Go.Proofs.YbulkcntwDoor
open Go.RowKit Go.Sort
set_option linter.unusedVariables false
set_option linter.unusedSimpArgs false

abbrev Pr.id (p : Pr) : Nat × Nat := (p.hi, p.lo)
/-- The peers ap lie in block g. -/
def AllAt (w : World) (g : Nat) (ap : List Pr) : Prop := ∀ k, k < ap.length → w.cell? ⟨g, k * 3, none⟩ = some (.int .u64 (ap[k]!.hi : Int)) ∧ w.cell? ⟨g, k * 3 + 1, none⟩ = some (.int .u64 (ap[k]!.lo : Int)) ∧ w.cell? ⟨g, k * 3 + 2, none⟩ = some (.bool ap[k]!.st)
theorem AllAt.below {w w' : World} {g : Nat} {ap : List Pr} (h : AllAt w g ap) (hb : Below w.heap.size w w') : AllAt w' g ap := fun k hk =>
  have l := lt_of_cell (h k hk).1
  ⟨(hb.cell (p := ⟨g, k * 3, none⟩) l).trans (h k hk).1, (hb.cell (p := ⟨g, k * 3 + 1, none⟩) l).trans (h k hk).2.1, (hb.cell (p := ⟨g, k * 3 + 2, none⟩) l).trans (h k hk).2.2⟩
def encsI (d : List (Nat × Nat)) : List Value := d.flatMap (fun k => [.int .u64 (k.1 : Int), .int .u64 (k.2 : Int)])
theorem encsI_length (d : List (Nat × Nat)) : (encsI d).length = d.length * 2 := by
  induction d with
  | nil => rfl
  | cons a d ih => simp only [encsI, List.flatMap_cons, List.length_append, List.length_cons, List.length_nil] at *; omega
theorem encsI_append (a b : List (Nat × Nat)) : encsI (a ++ b) = encsI a ++ encsI b := by simp [encsI]
theorem encsI_get (d : List (Nat × Nat)) (i : Nat) (h : i < d.length) : (encsI d)[i * 2]? = some (.int .u64 (d[i]!.1 : Int)) ∧ (encsI d)[i * 2 + 1]? = some (.int .u64 (d[i]!.2 : Int)) := by
  induction d generalizing i with
  | nil => exact absurd h (by simp)
  | cons a d ih =>
    cases i with
    | zero => exact ⟨rfl, rfl⟩
    | succ i =>
      have := ih i (by simpa using h)
      simp only [encsI, List.flatMap_cons] at *
      have e : ∀ r, ([Value.int .u64 (a.1 : Int), .int .u64 (a.2 : Int)] ++ List.flatMap (fun k : Nat × Nat => [Value.int .u64 (k.1 : Int), .int .u64 (k.2 : Int)]) d)[(i + 1) * 2 + r]? = (List.flatMap (fun k : Nat × Nat => [Value.int .u64 (k.1 : Int), .int .u64 (k.2 : Int)]) d)[i * 2 + r]? := fun r => by
        rw [List.getElem?_append_right (by simp; omega)]
        congr 1
        simp; omega
      refine ⟨(e 0).trans ?_, (e 1).trans ?_⟩
      · simpa using this.1
      · simpa using this.2
theorem news2 (W : World) (a b : Value) (t : TypeId) (q : Nat) (hq : q = W.heap.size) : ∀ j u, [a, b][j]? = some u → (W.alloc (.cells #[a, b] t)).cell? ((⟨q, 0, none⟩ : Addr).add j) = some u := by
  intro j u hj
  have hadd : (⟨q, 0, none⟩ : Addr).add j = ⟨q, j, none⟩ := by unfold Addr.add; split <;> simp_all
  rw [hadd, hq, cell_of_row _ _ _ _ _ _ (heap_alloc_new W _)]
  simpa using hj

set_option maxRecDepth 100000 in
set_option maxHeartbeats 16000000 in
theorem drv_ds {w0 w : World} {sh sl wd mb n bc sz ab na ac : Nat} {bp : Option Addr} {L : List (Nat × Nat)} {bl : List Br} {ap : List Pr} {all : List C}
    {y0 y1 y2 y3 y4 y5 y6 y7 y8 y9 y10 y11 y12 y13 y16 y19 y20 y21 y23 y24 y26 y27 y28 y29 y30 y31 y32 y33 y34 y35 y36 y37 y38 y39 y40 y41 y42 y43 y44 y45 y46 y47 y48 y49 y50 y51 y52 y53 y54 y55 y56 y57 y58 y59 y60 y61 y62 y63 y64 y65 y66 y67 y68 y69 y70 y71 y72 y73 y74 y75 y76 y77 y78 y79 y80 y81 y82 y83 y84 y85 y86 y87 y88 y89 y90 y91 y92 y93 y94 y95 y96 y97 y98 y99 y100 y101 y102 y103 y104 y105 y106 y107 y108 y109 y110 y111 y112 y113 y114 y115 y116 y117 y118 y119 y120 y121 y122 y123 y124 y125 y126 y127 y128 y129 y130 y131 y132 y133 y134 y135 y136 y137 y138 y139 y140 y141 y142 y143 y144 y145 y146 y147 y148 y149 y150 y151 y152 y153 y154 y155 y156 y157 y158 y159 y160 y161 y162 y163 y164 y165 y166 y167 y168 y169 y170 y171 y172 y173 y174 y175 y176 y177 y178 y179 y180 y181 y182 y183 y184 y185 y186 y187 y188 y189 y190 y191 y192 y193 y194 y195 y196 y197 y198 y199 y200 y201 y202 y203 y204 y205 y206 y207 y208 y209 y210 y211 y212 y213 y214 y215 y216 : Value}
    (hb0 : Below w0.heap.size w0 w) (hn : n = bl.length) (hn2 : n ≤ 1024) (hwd : wd ≤ 8) (hok : ∀ b ∈ bl, b.ok) (hna : na = ap.length) (hna31 : na ≤ 31) (hna0 : 0 < na) (q1 : sh < M) (q2 : sl < M) (hall : ∀ c ∈ all, c.ok) (hids : ap.map Pr.id = all.map C.id) (hM : Mp w mb L) (hB : BrAt w bp n bl) (hA : AllAt w ab ap)
    (hS : ∀ k, k < n → ∃ r, RingOf sh sl all r ∧ w.cell? ⟨sz, k, none⟩ = some (.float .f64 (floatOfInt .f64 (cnt wd L r bl[k]! : Int)))) :
    Code.wp Ybad.prog (rights 20 (Ybad.f3.body.getD .skip)) (bodyPost Ybad.prog Ybad.f3 fun e w' => e = .returned (.bool true) ∧ Below w0.heap.size w0 w')
      { tmps := #[y0, y1, y2, y3, y4, y5, y6, y7, y8, y9, y10, y11, y12, y13, .bool false, .int .i64 (wd : Int), y16, .slice (some ⟨ab, 0, none⟩) na ac, .map (some mb), y19, y20, y21, .slice bp n bc, y23, y24, .slice (some ⟨sz, 0, none⟩) n n, y26, y27, y28, y29, y30, y31, y32, y33, y34, y35, y36, y37, y38, y39, y40, y41, y42, y43, y44, y45, y46, y47, y48, y49, y50, y51, y52, y53, y54, y55, y56, y57, y58, y59, y60, y61, y62, y63, y64, y65, y66, y67, y68, y69, y70, y71, y72, y73, y74, y75, y76, y77, y78, y79, y80, y81, y82, y83, y84, y85, y86, y87, y88, y89, y90, y91, y92, y93, y94, y95, y96, y97, y98, y99, y100, y101, y102, y103, y104, y105, y106, y107, y108, y109, y110, y111, y112, y113, y114, y115, y116, y117, y118, y119, y120, y121, y122, y123, y124, y125, y126, y127, y128, y129, y130, y131, y132, y133, y134, y135, y136, y137, y138, y139, y140, y141, y142, y143, y144, y145, y146, y147, y148, y149, y150, y151, y152, y153, y154, y155, y156, y157, y158, y159, y160, y161, y162, y163, y164, y165, y166, y167, y168, y169, y170, y171, y172, y173, y174, y175, y176, y177, y178, y179, y180, y181, y182, y183, y184, y185, y186, y187, y188, y189, y190, y191, y192, y193, y194, y195, y196, y197, y198, y199, y200, y201, y202, y203, y204, y205, y206, y207, y208, y209, y210, y211, y212, y213, y214, y215, y216], defers := [] } w := by
  obtain ⟨i0, hii, hiz, his, hib⟩ := info_parts info26
  have HB0 := hid hb0
  have HN := hid hn
  have HNA := hid hna
  have HOK := hid hok
  have HALL := hid hall
  have HIDS := hid hids
  have HM := hid hM
  have HB := hid hB
  have HA := hid hA
  have HS := hid hS
  clear hb0 hn hok hall hids hM hB hA hS hna
  conv => arg 2; dsimp only [rights, Ybad.f3, Option.getD]
  go_upto_block 4 with fail
  go_cut [26] (fun s26 v => ∃ (D : List (Nat × Nat)) (dgb dc : Nat), s26 = .slice (some ⟨dgb, 0, none⟩) D.length dc ∧ Hid (Below w.heap.size w v) ∧ Hid D.Nodup ∧ Hid (∀ x, x ∈ D ↔ x ∈ all.map C.id) ∧ Hid (D.length ≤ 31) ∧ Hid (IdAt v dgb D))
  case first =>
    go_wp2_with fail
    go_loopw [26, 140] (fun s26 s140 v => ∃ (k : Nat) (dv : Value) (D : List (Nat × Nat)), s26 = dv ∧ s140 = .int .i64 (k : Int) ∧ k ≤ na ∧ Hid (Below w.heap.size w v) ∧ Hid (D.Nodup) ∧ Hid (∀ x, x ∈ D ↔ x ∈ (ap.take k).map Pr.id) ∧ Hid (D.length ≤ k) ∧ Hid (v.ownsRow w.heap.size 26 2 dv D.length (encsI D))) (fun s26 s140 _ => na - (intOf s140).toNat)
    case atStart => exact ⟨0, _, [], rfl, rfl, Nat.zero_le _, hid (Below.refl _ _), hid List.nodup_nil, hid (fun x => by simp), hid (Nat.le_refl _), hid (World.ownsRow_nil _ _ _ _)⟩
    case round =>
      obtain ⟨k, _, D, rfl, rfl, hkn, HV, HND, HMEM, HLE, HOW⟩ := hrel
      have hle := HLE.out
      have HVS := hid HV.out.size
      by_cases hlt : k < na
      · have hdl : decide ((k : Int) < (na : Int)) = true := by simp; omega
        have hdl2 : (k : Int) < (na : Int) := by omega
        obtain ⟨f0, f1, f2⟩ := (HA.out.below HV.out) k (by rw [← HNA.out]; exact hlt)
        obtain ⟨q, hq⟩ : ∃ q, ap[k]! = q := ⟨_, rfl⟩
        rw [hq] at f0 f1 f2
        have HTK : Hid ((ap.take (k + 1)).map Pr.id = (ap.take k).map Pr.id ++ [q.id]) := hid (by
          have hkl : k < ap.length := by rw [← HNA.out]; exact hlt
          rw [List.take_add_one, List.getElem?_eq_getElem hkl, List.map_append, ← hq, getElem!_pos ap k hkl]; rfl)
        clear hq
        obtain ⟨ih, il, ist⟩ := q
        dsimp only at f0 f1 f2 HTK
        obtain ⟨wa, hwa⟩ : ∃ wa, wa = (wr.alloc (.cells #[.int .u64 (ih : Int), .int .u64 (il : Int), .bool ist] 28)).alloc (.cells #[.int .u64 (ih : Int), .int .u64 (il : Int)] 26) := ⟨_, rfl⟩
        have HBA : Hid (Below wr.heap.size wr wa) := hid (hwa ▸ gr_below (g2 _ _ _))
        have HXA : Hid (Bx (wr.heap.size + 1) 26 #[.int .u64 (ih : Int), .int .u64 (il : Int)] wa) := hid (by rw [hwa]; exact al2b _ _ _)
        have HOA : Hid (wa.ownsRow w.heap.size 26 2 u26 D.length (encsI D)) := hid (own_below HOW.out HBA.out)
        have HWA : Hid (Below w.heap.size w wa) := hid (HV.out.trans (HBA.out.mono HV.out.size))
        obtain ⟨dp, dc, rfl, hdc1, hdc2, hdp⟩ := own_form HOW.out
        have HDP := hid hdp
        clear hdp
        obtain ⟨bq, hbq⟩ : ∃ bq, bq = wr.heap.size + 1 := ⟨_, rfl⟩
        go_upto_region 36 with fail
        rw [← hwa, ← hbq]
        rw [← hbq] at HXA
        clear hwa hbq f0 f1 f2
        go_wp2_with fail
        go_loopw [30, 151] (fun s30 s151 v => ∃ j : Nat, s30 = .bool false ∧ s151 = .int .i64 (j : Int) ∧ j ≤ D.length ∧ Hid (Below wa.heap.size wa v) ∧ Hid (∀ i, i < j → D[i]! ≠ (ih, il))) (fun s30 s151 _ => D.length - (intOf s151).toNat)
        case atStart => exact ⟨0, rfl, rfl, Nat.zero_le _, hid (Below.refl _ _), hid (fun i hi => by omega)⟩
        case round =>
          obtain ⟨j, rfl, rfl, hjn, HJ, HNE⟩ := hrel
          have HXJ := hid (HXA.out.read HJ.out)
          obtain ⟨⟨y0, y1⟩, _⟩ := HXJ.out.two
          by_cases hjl : j < D.length
          · have hdj : decide ((j : Int) < (D.length : Int)) = true := by simp; omega
            have hdj2 : (j : Int) < (D.length : Int) := by omega
            obtain ⟨dgb, rfl, hdgb⟩ := HDP.out (by omega)
            have HOJ := hid (own_below HOA.out HJ.out)
            obtain ⟨g0, g1⟩ := encsI_get D j hjl
            have z0 := (HOJ.out.cellAt (j * 2) (by omega)).trans g0
            have z1 := (HOJ.out.cellAt (j * 2 + 1) (by omega)).trans g1
            clear g0 g1
            obtain ⟨id, hid0⟩ : ∃ id, D[j]! = id := ⟨_, rfl⟩
            rw [hid0] at z0 z1
            have HID := hid hid0
            clear hid0
            obtain ⟨dh, dl⟩ := id
            dsimp only at z0 z1
            obtain ⟨wb, hwb⟩ : ∃ wb, wb = wr.alloc (.cells #[.int .u64 (dh : Int), .int .u64 (dl : Int)] 26) := ⟨_, rfl⟩
            have HBB : Hid (Below wr.heap.size wr wb) := hid (hwb ▸ (Below.refl _ _).alloc (Nat.le_refl _) _)
            have HWB : Hid (Below wa.heap.size wa wb) := hid (HJ.out.trans (HBB.out.mono HJ.out.size))
            have x0 : wb.cell? ⟨wr.heap.size, 0, none⟩ = some (.int .u64 (dh : Int)) := by simp [hwb]
            have x1 : wb.cell? ⟨wr.heap.size, 1, none⟩ = some (.int .u64 (dl : Int)) := by simp [hwb]
            obtain ⟨⟨t0, t1⟩, _⟩ := (HXA.out.read HWB.out).two
            have NEXT : Hid ((dh, dl) ≠ (ih, il) → ∀ i, i < j + 1 → D[i]! ≠ (ih, il)) := hid (fun hne i hi => by
              by_cases e : i = j
              · rw [e, HID.out]; exact hne
              · exact HNE.out i (by omega))
            go_upto_region 40 with fail
            rw [← hwb]
            clear hwb z0 z1
            by_cases c1 : (dh : Int) = (ih : Int)
            · by_cases c2 : (dl : Int) = (il : Int)
              · have e1 : dh = ih := by omega
                have e2 : dl = il := by omega
                subst e1 e2
                clear c1 c2
                go_wp2
                refine ⟨⟨k + 1, _, D, rfl, congrArg _ (by omega), by omega, hid (HWA.out.trans (HWB.out.mono HWA.out.size)), HND, hid (fun x => ?_), hid (by omega), hid (own_below HOA.out HWB.out)⟩, ?_⟩
                · rw [HTK.out, List.mem_append, ← HMEM.out x]
                  constructor
                  · exact .inl
                  · rintro (h | h)
                    · exact h
                    · simp only [List.mem_singleton] at h
                      rw [h]
                      show (dh, dl) ∈ D
                      rw [← HID.out, getElem!_pos D j hjl]
                      exact List.getElem_mem hjl
                · show na - ((k : Int) + 1).toNat < na - ((k : Int)).toNat
                  omega
              · have e1 : dh = ih := by omega
                subst e1
                have HNX := hid (NEXT.out (fun h => c2 (by simp at h; omega)))
                go_wp2
                refine ⟨⟨j + 1, rfl, congrArg _ (by omega), by omega, HWB, HNX⟩, ?_⟩
                show D.length - ((j : Int) + 1).toNat < D.length - ((j : Int)).toNat
                omega
            · have HNX := hid (NEXT.out (fun h => c1 (by simp at h; omega)))
              go_wp2
              refine ⟨⟨j + 1, rfl, congrArg _ (by omega), by omega, HWB, HNX⟩, ?_⟩
              show D.length - ((j : Int) + 1).toNat < D.length - ((j : Int)).toNat
              omega
          · have hdj : decide ((j : Int) < (D.length : Int)) = false := by simp; omega
            have HNI : Hid ((ih, il) ∉ D) := hid (fun hmem => by
              obtain ⟨i, hi, he⟩ := List.getElem_of_mem hmem
              exact HNE.out i (by omega) (by rw [getElem!_pos D i hi]; exact he))
            have HOJ := hid (own_below HOA.out HJ.out)
            have HWJ : Hid (Below w.heap.size w wr) := hid (HWA.out.trans (HJ.out.mono HWA.out.size))
            have HZJ := hid HWJ.out.size
            go_wp2_with (first | (at_builtin; go_must (refine wpList_append_own _ rfl _ _ 48 rfl w.heap.size 26 i0 z26 2 16 Ybad.underlying48 hii hiz his hib rfl (by decide) _ D.length (encsI D) rfl (HOJ.out.alloc _) ⟨wr.heap.size, 0, none⟩ 1 1 [.int .u64 (ih : Int), .int .u64 (il : Int)] rfl rfl (news2 _ _ _ _ _ rfl) (fun u hu => by simp at hu; rcases hu with rfl | rfl <;> rfl) (by unfold maxLen; omega) (by omega) (by simp; have := HZJ.out; omega) ?_); go_must (intro v' w5 ho5 hg5 hnil5)) | fail)
            refine ⟨⟨k + 1, _, D ++ [(ih, il)], rfl, congrArg _ (by omega), by omega, hid ((HWJ.out.alloc HZJ.out _).grown hg5 (by simp; have := HZJ.out; omega) (fun j hj => (HOJ.out.lt j hj).1)), hid ?_, hid (fun x => ?_), hid (by simp; omega), hid (by rw [List.length_append, encsI_append]; exact ho5)⟩, ?_⟩
            · rw [List.nodup_append]
              refine ⟨HND.out, by simp, fun a ha b hb => ?_⟩
              simp only [List.mem_singleton] at hb
              rw [hb]
              exact fun e => HNI.out (e ▸ ha)
            · rw [HTK.out, List.mem_append, List.mem_append, HMEM.out x]
            · show na - ((k : Int) + 1).toNat < na - ((k : Int)).toNat
              omega
      · have hdl : decide ((k : Int) < (na : Int)) = false := by simp; omega
        have hkn2 : k = na := by omega
        have HMM : Hid (∀ x, x ∈ D ↔ x ∈ all.map C.id) := hid (fun x => by rw [HMEM.out x, hkn2, HNA.out, List.take_length, HIDS.out])
        have HD0 : Hid (0 < D.length) := hid (by
          cases hD : D with
          | nil =>
            have hap : 0 < ap.length := by rw [← HNA.out]; exact hna0
            have := (HMM.out (ap[0]).id).2 (by rw [← HIDS.out]; exact List.mem_map_of_mem (List.getElem_mem hap))
            rw [hD] at this
            simp at this
          | cons a l => simp)
        obtain ⟨dgb, dc, rfl, _, _, _, _⟩ := own_some HOW.out HD0.out
        have HDK : Hid (D.length ≤ 31) := hid (by omega)
        have HOI : Hid (IdAt wr dgb D) := hid (fun i hi => ⟨(HOW.out.cellAt (i * 2) (by omega)).trans (encsI_get D i hi).1, (HOW.out.cellAt (i * 2 + 1) (by omega)).trans (encsI_get D i hi).2⟩)
        go_wp2
        go_meet
        exact ⟨D, dgb, dc, rfl, HV, HND, HMM, HDK, HOI⟩
  case rest =>
    obtain ⟨D, dgb, dc, rfl, HV, HND, HMM, HDK, HOI⟩ := hcut
    rename ∀ (a : Act) (w : World), Code.wp Ybad.prog _ _ a w → _ => hKK
    refine hKK _ _ ?_
    refine drv_tail (L := L) (bl := bl) (HB0.out.trans (HV.out.mono HB0.out.size)) HN.out hn2 hwd HOK.out HDK.out (fun k hk => ?_) (HM.out.below HV.out) (HB.out.below HV.out) HOI.out (fun k hk => ?_)
    · obtain ⟨c, hc, rfl⟩ := List.mem_map.1 ((HMM.out k).1 hk)
      exact HALL.out c hc
    · obtain ⟨r, hr, hc⟩ := HS.out k hk
      have hkl : k < bl.length := by rw [← HN.out]; exact hk
      rw [← cnt_eq hr q1 q2 HALL.out D HND.out HMM.out bl[k]! (by rw [getElem!_pos bl k hkl]; exact HOK.out _ (List.getElem_mem hkl))]
      exact (HV.out.cell (p := ⟨sz, k, none⟩) (lt_of_cell hc)).trans hc
end Go.Proofs.YbulkcntwDoor
