import Derived.Test.YbulkcntwDoorDrvDs
namespace Go.Proofs.YbulkcntwDoor
open Go.RowKit Go.Sort
set_option linter.unusedVariables false
set_option linter.unusedSimpArgs false

/-- A branch as she is handed in. -/
structure Pb where
  hi : Nat
  lo : Nat
  d : Nat
instance : Inhabited Pb := ⟨⟨0, 0, 0⟩⟩
def Pb.br (p : Pb) : Br := ⟨p.hi, p.lo, p.d % 20⟩
def PbAt (w : World) (p : Option Addr) (ps : List Pb) : Prop := ps ≠ [] → ∃ b off, p = some ⟨b, off, none⟩ ∧ ∀ k, k < ps.length → w.cell? ⟨b, off + k * 3, none⟩ = some (.int .u64 (ps[k]!.hi : Int)) ∧ w.cell? ⟨b, off + k * 3 + 1, none⟩ = some (.int .u64 (ps[k]!.lo : Int)) ∧ w.cell? ⟨b, off + k * 3 + 2, none⟩ = some (.int .u8 (ps[k]!.d : Int))
theorem PbAt.below {w w' : World} {p : Option Addr} {ps : List Pb} (h : PbAt w p ps) (hb : Below w.heap.size w w') : PbAt w' p ps := fun hne => by
  obtain ⟨b, off, e, hc⟩ := h hne
  refine ⟨b, off, e, fun k hk => ?_⟩
  obtain ⟨h1, h2, h3⟩ := hc k hk
  exact ⟨(hb.cell (p := ⟨b, off + k * 3, none⟩) (lt_of_cell h1)).trans h1, (hb.cell (p := ⟨b, off + k * 3 + 1, none⟩) (lt_of_cell h1)).trans h2, (hb.cell (p := ⟨b, off + k * 3 + 2, none⟩) (lt_of_cell h1)).trans h3⟩
def encsB (d : List Br) : List Value := d.flatMap Br.enc
theorem encsB_append (a b : List Br) : encsB (a ++ b) = encsB a ++ encsB b := by simp [encsB]
theorem encsB_get (d : List Br) (i r : Nat) (h : i < d.length) (hr : r < 6) : (encsB d)[i * 6 + r]? = (Br.enc d[i]!)[r]? := by
  induction d generalizing i with
  | nil => exact absurd h (by simp)
  | cons a d ih =>
    cases i with
    | zero =>
      simp only [encsB, List.flatMap_cons]
      rw [List.getElem?_append_left (by simp [Br.enc]; omega)]
      simp
    | succ i =>
      have := ih i (by simpa using h)
      simp only [encsB, List.flatMap_cons] at *
      rw [List.getElem?_append_right (by simp [Br.enc]; omega), show (i + 1) * 6 + r - (Br.enc a).length = i * 6 + r by simp [Br.enc]; omega, this]
      simp
theorem news6 (W : World) (s : Br) (t : TypeId) (q : Nat) (hq : q = W.heap.size) : ∀ j u, (Br.enc s)[j]? = some u → (W.alloc (.cells #[.int .u64 0, .int .u64 0, .string ⟨#[]⟩, .int .u64 (s.hi : Int), .int .u64 (s.lo : Int), .int .i64 (s.dg : Int)] t)).cell? ((⟨q, 0, none⟩ : Addr).add j) = some u := by
  intro j u hj
  have hadd : (⟨q, 0, none⟩ : Addr).add j = ⟨q, j, none⟩ := by unfold Addr.add; split <;> simp_all
  rw [hadd, hq, cell_of_row _ _ _ _ _ _ (heap_alloc_new W _)]
  simpa [Br.enc] using hj

set_option maxRecDepth 100000 in
set_option maxHeartbeats 16000000 in
theorem drv_bs {w0 w : World} {rb sh sl wd mb : Nat} {L : List (Nat × Nat)} {g1 n1 c1 g2 n2 c2 : Nat} {d1 d2 : List C} {n pc ab na ac : Nat} {pp : Option Addr} {pl : List Pb} {ap : List Pr}
    {y0 y1 y2 y3 y4 y5 y7 y8 y9 y10 y11 y12 y13 y16 y19 y20 y22 y23 y24 y25 y26 y27 y28 y29 y30 y31 y32 y33 y34 y35 y36 y37 y38 y39 y40 y41 y42 y43 y44 y45 y46 y47 y48 y49 y50 y51 y52 y53 y54 y55 y56 y57 y58 y59 y60 y61 y62 y63 y64 y65 y66 y67 y68 y69 y70 y71 y72 y73 y74 y75 y76 y77 y78 y79 y80 y81 y82 y83 y84 y85 y86 y87 y88 y89 y90 y91 y92 y93 y94 y95 y96 y97 y98 y99 y100 y101 y102 y103 y104 y105 y106 y107 y108 y109 y110 y111 y112 y113 y114 y115 y116 y117 y118 y119 y120 y121 y122 y123 y124 y125 y126 y127 y128 y129 y130 y131 y132 y133 y134 y135 y136 y137 y138 y139 y140 y141 y142 y143 y144 y145 y146 y147 y148 y149 y150 y151 y152 y153 y154 y155 y156 y157 y158 y159 y160 y161 y162 y163 y164 y165 y166 y167 y168 y169 y170 y171 y172 y173 y174 y175 y176 y177 y178 y179 y180 y181 y182 y183 y184 y185 y186 y187 y188 y189 y190 y191 y192 y193 y194 y195 y196 y197 y198 y199 y200 y201 y202 y203 y204 y205 y206 y207 y208 y209 y210 y211 y212 y213 y214 y215 y216 : Value}
    (hb0 : Below w0.heap.size w0 w) (hrb : w0.heap.size ≤ rb) (hn : n = pl.length) (hn2 : n ≤ 1024) (hpok : ∀ p ∈ pl, p.hi < M ∧ p.lo < M ∧ p.d ≤ 255) (hna : na = ap.length) (hna31 : na ≤ 31) (hna0 : 0 < na) (hids : ap.map Pr.id = List.map C.id ([⟨sh, sl, ⟨#[]⟩⟩] ++ d1 ++ d2)) (hK : Kn rb sh sl wd mb L g1 n1 c1 g2 n2 c2 d1 d2 w) (hP : PbAt w pp pl) (hA : AllAt w ab ap) (hab : ¬ ab = rb) :
    Code.wp Ybad.prog (rights 16 (Ybad.f3.body.getD .skip)) (bodyPost Ybad.prog Ybad.f3 fun e w' => e = .returned (.bool true) ∧ Below w0.heap.size w0 w')
      { tmps := #[y0, y1, y2, y3, y4, y5, .slice pp n pc, y7, y8, y9, y10, y11, y12, y13, .bool false, .int .i64 (wd : Int), y16, .slice (some ⟨ab, 0, none⟩) na ac, .map (some mb), y19, y20, .pointer (some ⟨rb, 0, none⟩), y22, y23, y24, y25, y26, y27, y28, y29, y30, y31, y32, y33, y34, y35, y36, y37, y38, y39, y40, y41, y42, y43, y44, y45, y46, y47, y48, y49, y50, y51, y52, y53, y54, y55, y56, y57, y58, y59, y60, y61, y62, y63, y64, y65, y66, y67, y68, y69, y70, y71, y72, y73, y74, y75, y76, y77, y78, y79, y80, y81, y82, y83, y84, y85, y86, y87, y88, y89, y90, y91, y92, y93, y94, y95, y96, y97, y98, y99, y100, y101, y102, y103, y104, y105, y106, y107, y108, y109, y110, y111, y112, y113, y114, y115, y116, y117, y118, y119, y120, y121, y122, y123, y124, y125, y126, y127, y128, y129, y130, y131, y132, y133, y134, y135, y136, y137, y138, y139, y140, y141, y142, y143, y144, y145, y146, y147, y148, y149, y150, y151, y152, y153, y154, y155, y156, y157, y158, y159, y160, y161, y162, y163, y164, y165, y166, y167, y168, y169, y170, y171, y172, y173, y174, y175, y176, y177, y178, y179, y180, y181, y182, y183, y184, y185, y186, y187, y188, y189, y190, y191, y192, y193, y194, y195, y196, y197, y198, y199, y200, y201, y202, y203, y204, y205, y206, y207, y208, y209, y210, y211, y212, y213, y214, y215, y216], defers := [] } w := by
  obtain ⟨i0, hii, hiz, his, hib⟩ := info_parts info45
  have HB0 := hid hb0
  have HRB := hid hrb
  have HN := hid hn
  have HNA := hid hna
  have HPOK := hid hpok
  have HIDS := hid hids
  have HK := hid hK
  have HPP := hid hP
  have HA := hid hA
  clear hb0 hn hpok hids hK hP hA hna hrb
  conv => arg 2; dsimp only [rights, Ybad.f3, Option.getD]
  go_upto_block 2 with (first | (at_make; go_must (refine wpList_make_own _ rfl (.const (.int .i64 0)) (.tmp 109) 39 rfl w.heap.size 45 i0 z45 6 Ybad.underlying39 hii hiz his .i64 .i64 _ n rfl rfl rfl (by rw [hib]; omega) (by unfold maxLen; omega) (Nat.le_refl _) ?_); go_must (intro w1 ho1 hg1); go_must (have HB1 : Hid (Below w.heap.size w w1) := hid ((Below.refl _ _).grown hg1 (Nat.le_refl _) (fun k hk => by cases hk))); have HO1 := hid ho1; clear ho1 hg1) | fail)
  go_cut [22] (fun s22 v => ∃ (bp : Option Addr) (bc : Nat), s22 = .slice bp n bc ∧ Hid (n ≤ bc ∧ bc ≤ 9223372036854775807) ∧ Hid (Below w.heap.size w v) ∧ Hid (v.ownsRow w.heap.size 45 6 (.slice bp n bc) n (encsB (pl.map Pb.br))))
  case first =>
    go_wp2_with fail
    go_loopw [22, 113] (fun s22 s113 v => ∃ (k : Nat) (bv : Value), s22 = bv ∧ s113 = .int .i64 (k : Int) ∧ k ≤ n ∧ Hid (Below w.heap.size w v) ∧ Hid (v.ownsRow w.heap.size 45 6 bv k (encsB ((pl.take k).map Pb.br)))) (fun s22 s113 _ => n - (intOf s113).toNat)
    case atStart => exact ⟨0, _, rfl, rfl, Nat.zero_le _, HB1, HO1⟩
    case round =>
      obtain ⟨k, _, rfl, rfl, hkn, HV, HOW⟩ := hrel
      have HVS := hid HV.out.size
      by_cases hlt : k < n
      · have hdl : decide ((k : Int) < (n : Int)) = true := by simp; omega
        have hdl2 : (k : Int) < (n : Int) := by omega
        obtain ⟨b, off, rfl, hcell⟩ := (HPP.out.below HV.out) (by intro e; have := HN.out; rw [e] at this; simp at this; omega)
        obtain ⟨f0, f1, f2⟩ := hcell k (by rw [← HN.out]; exact hlt)
        clear hcell
        obtain ⟨q, hq⟩ : ∃ q, pl[k]! = q := ⟨_, rfl⟩
        rw [hq] at f0 f1 f2
        have HTK : Hid (encsB ((pl.take (k + 1)).map Pb.br) = encsB ((pl.take k).map Pb.br) ++ Br.enc q.br ∧ q.d ≤ 255) := hid (by
          have hkl : k < pl.length := by rw [← HN.out]; exact hlt
          refine ⟨?_, ?_⟩
          · rw [List.take_add_one, List.getElem?_eq_getElem hkl, List.map_append, encsB_append, ← hq, getElem!_pos pl k hkl]
            simp [encsB]
          · rw [← hq, getElem!_pos pl k hkl]; exact (HPOK.out _ (List.getElem_mem hkl)).2.2)
        clear hq
        obtain ⟨kh, kl, d8⟩ := q
        have hd8 : d8 ≤ 255 := HTK.out.2
        dsimp only at f0 f1 f2
        obtain ⟨dg, hdg⟩ : ∃ dg, dg = d8 % 20 := ⟨_, rfl⟩
        have e1 : (d8 : Int).tmod 20 = (dg : Int) := by rw [hdg]; rfl
        have HT2 : Hid (Pb.br ⟨kh, kl, d8⟩ = ⟨kh, kl, dg⟩) := hid (by rw [hdg]; rfl)
        clear hdg
        go_wp2_with (first | (at_builtin; go_must (refine wpList_append_own _ rfl _ _ 39 rfl w.heap.size 45 i0 z45 6 56 Ybad.underlying39 hii hiz his hib rfl (by decide) _ k (encsB ((pl.take k).map Pb.br)) rfl ((HOW.out.alloc _).alloc _) ⟨wr.heap.size + 1, 0, none⟩ 1 1 (Br.enc ⟨kh, kl, dg⟩) rfl rfl (news6 _ _ _ _ (by simp)) (fun u hu => by simp [Br.enc] at hu; rcases hu with rfl | rfl | rfl | rfl | rfl | rfl <;> rfl) (by unfold maxLen; omega) (by omega) (by simp; have := HVS.out; omega) ?_); go_must (intro v' w3 ho3 hg3 hnil3)) | fail)
        refine ⟨⟨k + 1, _, rfl, congrArg _ (by omega), by omega, hid (((HV.out.alloc HVS.out _).alloc (by simp; have := HVS.out; omega) _).grown hg3 (by simp; have := HVS.out; omega) (fun k hk => (HOW.out.lt k hk).1)), hid (by rw [HTK.out.1, HT2.out]; exact ho3)⟩, ?_⟩
        show n - ((k : Int) + 1).toNat < n - ((k : Int)).toNat
        omega
      · have hdl : decide ((k : Int) < (n : Int)) = false := by simp; omega
        have hkn2 : k = n := by omega
        subst hkn2
        obtain ⟨bp, bc, rfl, hc1, hc2, _⟩ := own_form HOW.out
        have HOF : Hid (wr.ownsRow w.heap.size 45 6 (.slice bp k bc) k (encsB (pl.map Pb.br))) := hid (by have := HOW.out; rwa [show pl.take k = pl by rw [HN.out, List.take_length]] at this)
        go_wp2
        go_meet
        exact ⟨bp, bc, rfl, hid ⟨hc1, hc2⟩, HV, HOF⟩
  case rest =>
    obtain ⟨bp, bc, rfl, HBC, HV, HOB⟩ := hcut
    rename ∀ (a : Act) (w : World), Code.wp Ybad.prog _ _ a w → _ => hKK
    refine hKK _ _ ?_
    clear hKK
    have HLN : Hid (n = (pl.map Pb.br).length) := hid (by rw [List.length_map]; exact HN.out)
    have HBOK : Hid (∀ b ∈ pl.map Pb.br, b.ok) := hid (fun b hb => by
      obtain ⟨p, hp, rfl⟩ := List.mem_map.1 hb
      have := HPOK.out p hp
      exact ⟨this.1, this.2.1, Nat.mod_lt _ (by omega)⟩)
    have HLT : Hid (rb < w.heap.size) := hid HK.out.ic.lt
    have HBS : Hid (0 < n → ∃ b, bp = some ⟨b, 0, none⟩ ∧ ¬ b = rb ∧ b < wc.heap.size ∧ ∀ k, k < n → ∀ i, i < 6 → wc.cell? ⟨b, k * 6 + i, none⟩ = (Br.enc (pl.map Pb.br)[k]!)[i]?) := hid (fun h0 => by
      obtain ⟨g, c, e, hg, _⟩ := own_some HOB.out h0
      cases e
      refine ⟨g, rfl, by have := HLT.out; omega, (HOB.out.lt g rfl).2, fun k hk i hi => ?_⟩
      rw [HOB.out.cellAt _ (by omega), encsB_get _ k i (by rw [← HLN.out]; exact hk) hi])
    have HBZ := hid (branchSizes_any shares_ok rb sh sl wd mb L g1 n1 c1 g2 n2 c2 d1 d2 bp n bc (pl.map Pb.br) HLN.out HBOK.out HBC.out.1 hn2 wc (HK.out.below HV.out) HBS.out)
    go_upto_if 137 with (first | (go_at_call 6; with_reducible (refine Calls.mono HBZ.out ?_); rintro e w2 ⟨sz, rfl, hsz, hszl, hcells, hk2, ho2⟩) | fail)
    have HC2 := hid hcells
    have HK2 := hid hk2
    have HO2 := hid ho2
    clear hcells hk2 ho2 hsz hszl
    have HBV : Hid (Below w0.heap.size w0 wc) := hid (HB0.out.trans (HV.out.mono HB0.out.size))
    have HQ : Hid (sh < M ∧ sl < M) := hid (HK.out.ok ⟨sh, sl, ⟨#[]⟩⟩ (by simp))
    have HBB : Hid (BrAt w2 bp n (pl.map Pb.br)) := hid (fun h0 => by
      obtain ⟨b, e, h1, h2, h3⟩ := HBS.out h0
      exact ⟨b, e, Nat.lt_of_lt_of_le h2 HO2.out.size, fun k hk i hi => (HO2.out.cell h2 h1).trans (h3 k hk i hi)⟩)
    have HAB : Hid (AllAt w2 ab ap) := hid (fun k hk => by
      have h := (HA.out.below HV.out) k hk
      have l := lt_of_cell h.1
      exact ⟨(HO2.out.cell l hab).trans h.1, (HO2.out.cell l hab).trans h.2.1, (HO2.out.cell l hab).trans h.2.2⟩)
    have HFB : Hid (Below w0.heap.size w0 w2) := hid (HO2.out.below HBV.out HBV.out.size HRB.out)
    go_cut [14] (fun s14 v => s14 = .bool false ∧ v = w2)
    case first =>
      go_wp2_with fail
      go_meet
      exact ⟨rfl, rfl⟩
    case rest =>
      obtain ⟨rfl, hcut2⟩ := hcut
      subst hcut2
      rename ∀ (a : Act) (w : World), Code.wp Ybad.prog _ _ a w → _ => hKK
      refine hKK _ _ ?_
      exact drv_ds HFB.out HLN.out hn2 HK.out.wdb HBOK.out HNA.out hna31 hna0 HQ.out.1 HQ.out.2 HK.out.ok HIDS.out HK2.out.rts.mp (HBB.out) (HAB.out) HC2.out
end Go.Proofs.YbulkcntwDoor
