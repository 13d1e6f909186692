import Derived.Test.YbulkcntwDoorDrvBs
namespace Go.Proofs.YbulkcntwDoor
open Go.RowKit Go.Sort
set_option linter.unusedVariables false
set_option linter.unusedSimpArgs false

set_option maxRecDepth 100000 in
set_option maxHeartbeats 16000000 in
theorem drv_rts {w0 w : World} {sh sl wd mb n1 c1 n2 c2 n pc sb ab na ac : Nat} {p1 p2 pp : Option Addr} {L : List (Nat × Nat)} {ps1 ps2 ap : List Pr} {pl : List Pb}
    {y0 y1 y2 y3 y7 y8 y9 y10 y11 y12 y13 y19 y20 y21 y22 y23 y24 y25 y26 y27 y28 y29 y30 y31 y32 y33 y34 y35 y36 y37 y38 y39 y40 y41 y42 y43 y44 y45 y46 y47 y48 y49 y50 y51 y52 y53 y54 y55 y56 y57 y58 y59 y60 y61 y62 y63 y64 y65 y66 y67 y68 y69 y70 y71 y72 y73 y74 y75 y76 y77 y78 y79 y80 y81 y82 y83 y84 y85 y86 y87 y88 y89 y90 y91 y92 y93 y94 y95 y96 y97 y98 y99 y100 y101 y102 y103 y104 y105 y106 y107 y108 y109 y110 y111 y112 y113 y114 y115 y116 y117 y118 y119 y120 y121 y122 y123 y124 y125 y126 y127 y128 y129 y130 y131 y132 y133 y134 y135 y136 y137 y138 y139 y140 y141 y142 y143 y144 y145 y146 y147 y148 y149 y150 y151 y152 y153 y154 y155 y156 y157 y158 y159 y160 y161 y162 y163 y164 y165 y166 y167 y168 y169 y170 y171 y172 y173 y174 y175 y176 y177 y178 y179 y180 y181 y182 y183 y184 y185 y186 y187 y188 y189 y190 y191 y192 y193 y194 y195 y196 y197 y198 y199 y200 y201 y202 y203 y204 y205 y206 y207 y208 y209 y210 y211 y212 y213 y214 y215 y216 : Value}
    (hb0 : Below w0.heap.size w0 w) (h00 : 0 < w0.heap.size) (q1 : sh < M) (q2 : sl < M) (hwd : wd ≤ 8) (hn : n = pl.length) (hn2 : n ≤ 1024) (hpok : ∀ p ∈ pl, p.hi < M ∧ p.lo < M ∧ p.d ≤ 255) (l1 : n1 = ps1.length) (l2 : n2 = ps2.length) (b1 : n1 ≤ 15 ∧ n1 ≤ c1 ∧ c1 ≤ 9223372036854775807) (b2 : n2 ≤ 15 ∧ n2 ≤ c2 ∧ c2 ≤ 9223372036854775807)
    (ok1 : ∀ p ∈ ps1, p.hi < M ∧ p.lo < M) (ok2 : ∀ p ∈ ps2, p.hi < M ∧ p.lo < M) (hna : na = ap.length) (hids : ap.map Pr.id = (sh, sl) :: (ps1.map Pr.id ++ ps2.map Pr.id))
    (hX : Bx sb 26 #[.int .u64 (sh : Int), .int .u64 (sl : Int)] w) (hO : One w) (hM : Mp w mb L) (hA : AllAt w ab ap) (habl : ab < w.heap.size) (h1 : PrAt w p1 ps1) (h2 : PrAt w p2 ps2) (hP : PbAt w pp pl) :
    Code.wp Ybad.prog (rights 12 (Ybad.f3.body.getD .skip)) (bodyPost Ybad.prog Ybad.f3 fun e w' => e = .returned (.bool true) ∧ Below w0.heap.size w0 w')
      { tmps := #[y0, y1, y2, y3, .slice p1 n1 c1, .slice p2 n2 c2, .slice pp n pc, y7, y8, y9, y10, y11, y12, y13, .bool false, .int .i64 (wd : Int), .pointer (some ⟨sb, 0, none⟩), .slice (some ⟨ab, 0, none⟩) na ac, .map (some mb), y19, y20, y21, y22, y23, y24, y25, y26, y27, y28, y29, y30, y31, y32, y33, y34, y35, y36, y37, y38, y39, y40, y41, y42, y43, y44, y45, y46, y47, y48, y49, y50, y51, y52, y53, y54, y55, y56, y57, y58, y59, y60, y61, y62, y63, y64, y65, y66, y67, y68, y69, y70, y71, y72, y73, y74, y75, y76, y77, y78, y79, y80, y81, y82, y83, y84, y85, y86, y87, y88, y89, y90, y91, y92, y93, y94, y95, y96, y97, y98, y99, y100, y101, y102, y103, y104, y105, y106, y107, y108, y109, y110, y111, y112, y113, y114, y115, y116, y117, y118, y119, y120, y121, y122, y123, y124, y125, y126, y127, y128, y129, y130, y131, y132, y133, y134, y135, y136, y137, y138, y139, y140, y141, y142, y143, y144, y145, y146, y147, y148, y149, y150, y151, y152, y153, y154, y155, y156, y157, y158, y159, y160, y161, y162, y163, y164, y165, y166, y167, y168, y169, y170, y171, y172, y173, y174, y175, y176, y177, y178, y179, y180, y181, y182, y183, y184, y185, y186, y187, y188, y189, y190, y191, y192, y193, y194, y195, y196, y197, y198, y199, y200, y201, y202, y203, y204, y205, y206, y207, y208, y209, y210, y211, y212, y213, y214, y215, y216], defers := [] } w := by
  have HB0 := hid hb0
  have HH := hid (And.intro hM (And.intro hA (And.intro habl (And.intro h1 (And.intro h2 (And.intro hP hO))))))
  have HOKS := hid (And.intro hpok (And.intro ok1 ok2))
  have HLEN := hid (And.intro hn (And.intro l1 (And.intro l2 hna)))
  have HIDS := hid hids
  have HX := hid hX
  obtain ⟨⟨x0, x1⟩, _⟩ := hX.two
  have HNR := hid (newRoutes_any sh sl wd w)
  clear hb0 hM hA habl h1 h2 hP hO hpok ok1 ok2 hn l1 l2 hna hids hX
  conv => arg 2; dsimp only [rights, Ybad.f3, Option.getD]
  go_upto_region 19 with (first | (go_at_call 4; with_reducible (refine Calls.mono HNR.out ?_); rintro e w2 ⟨rfl, hb2⟩) | fail)
  obtain ⟨rb, hrb⟩ : ∃ rb, rb = w2.heap.size := ⟨_, rfl⟩
  obtain ⟨w3, hw3⟩ : ∃ w3, w3 = w2.alloc (.cells #[.int .u64 (sh : Int), .int .u64 (sl : Int), .int .i64 (wd : Int), .slice none 0 0, .slice none 0 0, .slice none 0 0, .map none, .map none, .slice none 0 0, .slice none 0 0, .pointer none, .slice none 0 0, .bool false] 36) := ⟨_, rfl⟩
  rw [← hw3, ← hrb]
  have HW3 : Hid (Below w.heap.size w w3) := hid (hb2.trans (hw3 ▸ ((Below.refl _ w2).alloc hb2.size _)))
  have HX3 : Hid (Bx rb 36 #[.int .u64 (sh : Int), .int .u64 (sl : Int), .int .i64 (wd : Int), .slice none 0 0, .slice none 0 0, .slice none 0 0, .map none, .map none, .slice none 0 0, .slice none 0 0, .pointer none, .slice none 0 0, .bool false] w3) := hid (by rw [hw3, hrb]; exact heap_alloc_new _ _)
  have HRB : Hid (w.heap.size ≤ rb) := hid (by rw [hrb]; exact hb2.size)
  clear hw3 hrb hb2 x0 x1
  have v6 := HX3.out.cell 6
  simp at v6
  have z6 := HX3.out.isC.frozen 6
  obtain ⟨w4, hw4⟩ : ∃ w4, w4 = w3.setCell ⟨rb, 6, none⟩ (.map (some mb)) := ⟨_, rfl⟩
  have HX4 : Hid (Bx rb 36 #[.int .u64 (sh : Int), .int .u64 (sl : Int), .int .i64 (wd : Int), .slice none 0 0, .slice none 0 0, .slice none 0 0, .map (some mb), .map none, .slice none 0 0, .slice none 0 0, .pointer none, .slice none 0 0, .bool false] w4) := hid (by rw [hw4]; exact HX3.out.set 6 _)
  have HW4 : Hid (Below w.heap.size w w4) := hid (by rw [hw4]; exact HW3.out.setCell HRB.out _)
  go_upto_region 20 with fail
  rw [← hw4]
  clear hw4 v6 z6
  have HC1 := hid (contacts_any p1 n1 c1 ps1 w4 HLEN.out.2.1 (HH.out.2.2.2.1.below HW4.out) (by omega) b1.2.1 b1.2.2)
  go_wp2_with fail
  with_reducible (refine Calls.mono HC1.out ?_)
  rintro e w5 ⟨g1, k1, rfl, hg1, hk1a, hk1b, hr1, hb5⟩
  have HX5 := hid (HX4.out.read hb5)
  have v4 := HX5.out.cell 4
  simp at v4
  have z4 := HX5.out.isC.frozen 4
  obtain ⟨w6, hw6⟩ : ∃ w6, w6 = w5.setCell ⟨rb, 4, none⟩ (.slice (some ⟨g1, 0, none⟩) n1 k1) := ⟨_, rfl⟩
  have HG1 : Hid (rb < g1 ∧ w.heap.size ≤ w4.heap.size) := hid ⟨by have := HX4.out.lt; omega, HW4.out.size⟩
  have HX6 : Hid (Bx rb 36 #[.int .u64 (sh : Int), .int .u64 (sl : Int), .int .i64 (wd : Int), .slice none 0 0, .slice (some ⟨g1, 0, none⟩) n1 k1, .slice none 0 0, .map (some mb), .map none, .slice none 0 0, .slice none 0 0, .pointer none, .slice none 0 0, .bool false] w6) := hid (by rw [hw6]; exact HX5.out.set 4 _)
  have HW6 : Hid (Below w.heap.size w w6) := hid (by rw [hw6]; exact (HW4.out.trans (hb5.mono HW4.out.size)).setCell HRB.out _)
  have HR1 : Hid (Row g1 (ps1.map Pr.c) w6) := hid (by rw [hw6]; exact hr1.of_heap (Below.heap_setCell _ _ _ _ (by have := HG1.out; dsimp only; omega)))
  have HKK1 := hid (And.intro hk1a hk1b)
  go_upto_region 21 with fail
  rw [← hw6]
  clear hw6 v4 z4 hr1 hb5 hg1 hk1a hk1b
  have HC2 := hid (contacts_any p2 n2 c2 ps2 w6 HLEN.out.2.2.1 (HH.out.2.2.2.2.1.below HW6.out) (by omega) b2.2.1 b2.2.2)
  go_cut [] (fun v => ∃ g2 k2 : Nat, Hid (rb < g2 ∧ n2 ≤ k2 ∧ k2 ≤ 9223372036854775807) ∧ Hid (Bx rb 36 #[.int .u64 (sh : Int), .int .u64 (sl : Int), .int .i64 (wd : Int), .slice none 0 0, .slice (some ⟨g1, 0, none⟩) n1 k1, .slice (some ⟨g2, 0, none⟩) n2 k2, .map (some mb), .map none, .slice none 0 0, .slice none 0 0, .pointer none, .slice none 0 0, .bool false] v) ∧ Hid (Below w.heap.size w v) ∧ Hid (Row g1 (ps1.map Pr.c) v ∧ Row g2 (ps2.map Pr.c) v))
  case first =>
    go_wp2_with fail
    with_reducible (refine Calls.mono HC2.out ?_)
    rintro e w7 ⟨g2, k2, rfl, hg2, hk2a, hk2b, hr2, hb7⟩
    have HX7 := hid (HX6.out.read hb7)
    have v5 := HX7.out.cell 5
    simp at v5
    have z5 := HX7.out.isC.frozen 5
    have HG2 : Hid (rb < g2) := hid (by have := HX6.out.lt; omega)
    have HXF := hid (HX7.out.set 5 (.slice (some ⟨g2, 0, none⟩) n2 k2))
    have HWF : Hid (Below w.heap.size w (w7.setCell ⟨rb, 5, none⟩ (.slice (some ⟨g2, 0, none⟩) n2 k2))) := hid ((HW6.out.trans (hb7.mono HW6.out.size)).setCell HRB.out _)
    have HRF : Hid (Row g1 (ps1.map Pr.c) (w7.setCell ⟨rb, 5, none⟩ (.slice (some ⟨g2, 0, none⟩) n2 k2)) ∧ Row g2 (ps2.map Pr.c) (w7.setCell ⟨rb, 5, none⟩ (.slice (some ⟨g2, 0, none⟩) n2 k2))) := hid ⟨(HR1.out.read hb7).of_heap (Below.heap_setCell _ _ _ _ (by have := HG1.out; dsimp only; omega)), hr2.of_heap (Below.heap_setCell _ _ _ _ (by have := HG2.out; dsimp only; omega))⟩
    clear hr2 hb7
    go_wp2_with fail
    go_meet
    exact ⟨g2, k2, hid ⟨HG2.out, hk2a, hk2b⟩, HXF, HWF, HRF⟩
  case rest =>
    obtain ⟨g2, k2, HK2, HXF, HWF, HRF⟩ := hcut
    rename ∀ (a : Act) (w : World), Code.wp Ybad.prog _ _ a w → _ => hKK
    refine hKK _ _ ?_
    have hz0 := HB0.out.size
    have hzr := HRB.out
    have KN : Kn rb sh sl wd mb L g1 n1 k1 g2 n2 k2 (ps1.map Pr.c) (ps2.map Pr.c) wc :=
      ⟨⟨HXF.out.cell 0, HXF.out.cell 1, HXF.out.cell 2, HXF.out.cell 4, HXF.out.cell 5, HXF.out.cell 6, HXF.out.cell 7, HH.out.1.below HWF.out, HRF.out.1, HRF.out.2, by rw [List.length_map]; exact HLEN.out.2.1, by rw [List.length_map]; exact HLEN.out.2.2.1, ⟨b1.1, HKK1.out⟩, ⟨b2.1, HK2.out.2⟩⟩, HH.out.2.2.2.2.2.2.below HWF.out, by omega, by have := HG1.out; omega, by have := HK2.out; omega, HXF.out.isC, fun c hc => by
        simp only [List.mem_append, List.mem_singleton, List.mem_map] at hc
        rcases hc with (rfl | ⟨p, hp, rfl⟩) | ⟨p, hp, rfl⟩
        · exact ⟨q1, q2⟩
        · exact HOKS.out.2.1 p hp
        · exact HOKS.out.2.2 p hp, hwd, .inl (HXF.out.cell 10)⟩
    have hlen : na = 1 + n1 + n2 := by
      have e := congrArg List.length HIDS.out
      simp only [List.length_map, List.length_cons, List.length_append] at e
      have := HLEN.out
      omega
    exact drv_bs (HB0.out.trans (HWF.out.mono HB0.out.size)) (by omega) HLEN.out.1 hn2 HOKS.out.1 HLEN.out.2.2.2 (by omega) (by omega) (by rw [HIDS.out]; simp only [List.map_append, List.map_map, List.map_cons, List.map_nil]; rfl) KN (HH.out.2.2.2.2.2.1.below HWF.out) (HH.out.2.1.below HWF.out) (by have := HH.out.2.2.1; omega)
end Go.Proofs.YbulkcntwDoor
