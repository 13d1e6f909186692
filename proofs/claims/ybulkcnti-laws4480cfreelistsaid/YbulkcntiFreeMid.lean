import Derived.Test.YbulkcntiFreeLoop4
namespace Go.Proofs.Ybulkcnti
open Go.RowKit
set_option linter.unusedVariables false
set_option linter.unusedSimpArgs false

set_option maxRecDepth 100000 in
set_option maxHeartbeats 16000000 in
theorem free_mid {a0 : Option Addr} {len0 cap0 : Nat} {a1 : Bool} {a2 a3 kind : Int} {w wd : World} {k ko xb ob : Nat} {x : Nat → Nat} {f g : Nat → Int} {l : List Int}
    {y4 y5 y6 y7 y17 y18 y19 y20 y21 y22 y23 y24 y25 y26 y27 y28 y29 y30 y31 y32 y33 y34 y35 y36 y37 y38 y39 y40 y41 y42 y43 y44 y45 y46 y47 y48 y49 y50 y51 y52 y53 y54 y55 y56 y57 y58 y59 y60 y61 y62 y63 y64 y65 y66 y67 y68 y69 y70 y71 y72 y73 y74 y75 y76 y77 y78 y79 y80 y81 y82 y83 y84 y85 y86 y87 y88 y89 y90 y91 y92 y93 y94 y95 y96 y97 y98 y99 y100 y101 y102 y103 y104 y105 y106 y107 y108 y109 y110 y111 y112 y113 y114 y115 y116 y117 y118 y119 y120 y121 y122 y123 y124 y125 y126 y127 y128 y129 y130 y131 y132 y133 y134 y135 y136 y137 y138 y139 y140 y141 y142 y143 y144 y145 y146 y147 y148 y149 y150 y151 y152 y153 y154 y155 y156 y157 y158 y159 y160 y161 y162 y163 y164 y165 y166 y167 y168 y169 y170 y171 y172 y173 y174 y175 y176 y177 y178 y179 y180 y181 y182 y183 y184 y185 y186 y187 y188 y189 y190 y191 y192 y193 y194 y195 y196 y197 y198 y199 y200 y201 y202 y203 y204 y205 y206 y207 y208 y209 y210 y211 y212 y213 y214 y215 y216 y217 y218 y219 y220 y221 y222 y223 y224 y225 y226 y227 y228 y229 y230 y231 y232 y233 y234 y235 y236 y237 y238 y239 y240 y241 y242 y243 y244 y245 y246 y247 y248 y249 y250 y251 y252 y253 y254 y255 y256 y257 y258 y259 y260 y261 : Value}
    (hk8 : k ≤ 8) (h20 : 0 ≤ a2) (h21 : a2 ≤ 65535) (h30 : 0 ≤ a3) (h31 : a3 ≤ 65535) (hko : ko = 9 ∨ ko = 17) (hkind : (if kind = 1 then 17 else 9 : Int) = (ko : Int)) (hat664 : atOf ko x k ≤ 664) (hat0 : 32 ≤ atOf ko x k)
    (hFA : FA w w.heap.size xb ob (ob + 1) f g l wd) (hL : Lnk ko x k 0 kind f g l) :
    Code.wp Yba.prog (rights 11 (Yba.f4.body.getD .skip)) (bodyPost Yba.prog Yba.f4 fun e w' => e = .returned (.bool true) ∧ Below w.heap.size w w')
      { tmps := #[.slice a0 len0 cap0, .bool a1, .int .u16 a2, .int .u16 a3, y4, y5, y6, y7, .bool false, .int .i64 (k : Int), .slice (some ⟨w.heap.size, 0, none⟩) 2048 2048, .pointer (some ⟨xb, 0, none⟩), .int .i64 (ko : Int), .pointer (some ⟨ob, 0, none⟩), .pointer (some ⟨ob + 1, 0, none⟩), .int .i64 (atOf ko x k : Int), .int .i64 ((atOf ko x k : Int) - 32), y17, y18, y19, y20, y21, y22, y23, y24, y25, y26, y27, y28, y29, y30, y31, y32, y33, y34, y35, y36, y37, y38, y39, y40, y41, y42, y43, y44, y45, y46, y47, y48, y49, y50, y51, y52, y53, y54, y55, y56, y57, y58, y59, y60, y61, y62, y63, y64, y65, y66, y67, y68, y69, y70, y71, y72, y73, y74, y75, y76, y77, y78, y79, y80, y81, y82, y83, y84, y85, y86, y87, y88, y89, y90, y91, y92, y93, y94, y95, y96, y97, y98, y99, y100, y101, y102, y103, y104, y105, y106, y107, y108, y109, y110, y111, y112, y113, y114, y115, y116, y117, y118, y119, y120, y121, y122, y123, y124, y125, y126, y127, y128, y129, y130, y131, y132, y133, y134, y135, y136, y137, y138, y139, y140, y141, y142, y143, y144, y145, y146, y147, y148, y149, y150, y151, y152, y153, y154, y155, y156, y157, y158, y159, y160, y161, y162, y163, y164, y165, y166, y167, y168, y169, y170, y171, y172, y173, y174, y175, y176, y177, y178, y179, y180, y181, y182, y183, y184, y185, y186, y187, y188, y189, y190, y191, y192, y193, y194, y195, y196, y197, y198, y199, y200, y201, y202, y203, y204, y205, y206, y207, y208, y209, y210, y211, y212, y213, y214, y215, y216, y217, y218, y219, y220, y221, y222, y223, y224, y225, y226, y227, y228, y229, y230, y231, y232, y233, y234, y235, y236, y237, y238, y239, y240, y241, y242, y243, y244, y245, y246, y247, y248, y249, y250, y251, y252, y253, y254, y255, y256, y257, y258, y259, y260, y261], defers := [] } wd := by
  have HL := hid hL
  have HFA0 := hid hFA
  have HKIND := hid hkind
  clear hFA hL hkind
  conv => arg 2; dsimp only [rights, Yba.f4, Option.getD]
  go_wp2_with fail
  go_loopw [22] (fun s22 v => ∃ (j : Nat) (l3 : List Int), j ≤ k ∧ s22 = .int .i64 (j : Int) ∧ FA w w.heap.size xb ob (ob + 1) f g l3 v ∧ Lnk ko x k j kind f g l3) (fun s22 _ => k - (intOf s22).toNat)
  case atStart => exact ⟨0, l, Nat.zero_le _, rfl, HFA0.out, HL.out⟩
  case round =>
    obtain ⟨j, l3, hjk, rfl, hF, hLn⟩ := hrel
    by_cases hlt : j < k
    · have hl3 := hF.ts.pg.len
      have hj8 : j < 8 := by omega
      have hdl : decide ((j : Int) < (k : Int)) = true := by simp; omega
      have cj : wr.cell? ⟨ob, j, none⟩ = some (.int .i64 (atOf ko x j : Int)) := by rw [hF.oc j hj8, hLn.rc.fo j hlt]
      have haj0 := atOf_lo ko x j
      have haj1 := atOf_hi hko x j
      have HNEXT := hid (hLn.next hko hk8 hlt hl3.symm)
      have hjN : (j : Int) < 8 := by omega
      have bl1 := hF.io.lt
      by_cases hj1 : j + 1 < k
      · have hd1 : decide ((j : Int) + 1 < (k : Int)) = true := by simp; omega
        have cj1 : wr.cell? ⟨ob, j + 1, none⟩ = some (.int .i64 (atOf ko x (j + 1) : Int)) := by rw [hF.oc (j + 1) (by omega), hLn.rc.fo (j + 1) hj1]
        have hnx : nxOf ko x k j = atOf ko x (j + 1) := by unfold nxOf; rw [if_pos hj1]
        have hax1 := atOf_hi hko x (j + 1)
        rw [hnx] at HNEXT
        have HZ := hid (zzput16_any w.heap.size 2048 2048 (atOf ko x j + 3) ((atOf ko x j : Int) + 3) (atOf ko x (j + 1) : Int) l3 wr (by omega) hF.ts.pg (by omega) (by omega) (by omega))
        have hj1N : (j : Int) + 1 < 8 := by omega
        have haj664 : atOf ko x j ≤ 664 := by omega
        have HF := hid hF
        clear hF hLn hnx hl3 hax1 haj1
        go_wp2_with (first | (go_at_call 10; with_reducible (refine Calls.mono HZ.out ?_); rintro e v1 ⟨rfl, ho1, hp1⟩; have hG1 := HF.out.wrote ho1 hp1))
        refine ⟨⟨j + 1, _, by omega, congrArg _ (by omega), hG1, HNEXT.out⟩, ?_⟩
        show k - ((j : Int) + 1).toNat < k - ((j : Int)).toNat
        omega
      · have hd1 : decide ((j : Int) + 1 < (k : Int)) = false := by simp; omega
        have hnx : nxOf ko x k j = 0 := by unfold nxOf; rw [if_neg hj1]
        rw [hnx] at HNEXT
        have HZ := hid (zzput16_any w.heap.size 2048 2048 (atOf ko x j + 3) ((atOf ko x j : Int) + 3) 0 l3 wr (by omega) hF.ts.pg (by omega) (by omega) (by omega))
        have haj664 : atOf ko x j ≤ 664 := by omega
        have HF := hid hF
        clear hF hLn hnx hl3 haj1
        go_wp2_with (first | (go_at_call 10; with_reducible (refine Calls.mono HZ.out ?_); rintro e v1 ⟨rfl, ho1, hp1⟩; have hG1 := HF.out.wrote ho1 hp1))
        refine ⟨⟨j + 1, _, by omega, congrArg _ (by omega), hG1, HNEXT.out⟩, ?_⟩
        show k - ((j : Int) + 1).toNat < k - ((j : Int)).toNat
        omega
    · -- LOOP3 DONE
      obtain rfl : k = j := by omega
      have hdk : decide ((k : Int) < (k : Int)) = false := by simp
      have HF := hid hF
      have HLN := hid hLn
      have hl3 := hF.ts.pg.len
      have HL3 := hid hl3
      clear hl3 hF hLn hlt hjk
      go_upto_if 134 with fail
      go_cut [] (fun v => ∃ l4, l4 = (if 0 < k then put l3 8 32 else l3) ∧ FA w w.heap.size xb ob (ob + 1) f g l4 v)
      case first =>
        by_cases hk0 : 0 < k
        · have hd : decide ((0 : Int) < (k : Int)) = true := by simp; omega
          have c0 : wr.cell? ⟨ob, 0, none⟩ = some (.int .i64 32) := by rw [HF.out.oc 0 (by omega), HLN.out.rc.fo 0 hk0]; rfl
          have bl1 := HF.out.io.lt
          have HZ := hid (zzput16_any w.heap.size 2048 2048 8 8 32 l3 wr rfl HF.out.ts.pg (by omega) (by omega) (by omega))
          go_wp2_with (first | (go_at_call 10; with_reducible (refine Calls.mono HZ.out ?_); rintro e v1 ⟨rfl, ho1, hp1⟩; have hG1 := HF.out.wrote ho1 hp1))
          go_meet
          exact ⟨_, by rw [if_pos hk0], hG1⟩
        · have hd : decide ((0 : Int) < (k : Int)) = false := by simp; omega
          go_wp2
          go_meet
          exact ⟨_, by rw [if_neg hk0], HF.out⟩
      case rest =>
      generalize wc = wb at *
      obtain ⟨l4, hl4, hF4⟩ := hcut
      have hlaid := HLN.out.laid hko hk8 HL3.out.symm HKIND.out hl4
      obtain ⟨D, hD⟩ : ∃ D, D = topped ko x k l4 := ⟨_, rfl⟩
      rw [← hD] at hlaid
      have HLAID := hid hlaid
      have HZ6 := hid (zzput16_any w.heap.size 2048 2048 6 6 (atOf ko x k : Int) l4 wb rfl hF4.ts.pg (by omega) (by omega) (by omega))
      have HZ4 := hid (fun W (h : Pg W w.heap.size 2048 2048 (put l4 6 (atOf ko x k : Int))) => zzput16_any w.heap.size 2048 2048 4 4 (2 + (k : Int)) _ W rfl h (by omega) (by omega) (by omega))
      have HZ10 := hid (fun W (h : Pg W w.heap.size 2048 2048 (put (put l4 6 (atOf ko x k : Int)) 4 (2 + (k : Int)))) => (by rw [hD]; exact zzput16_any w.heap.size 2048 2048 10 10 ((atOf ko x k : Int) - 32) _ W rfl h (by omega) (by omega) (by omega) : Calls Yba.prog 10 #[.slice (some ⟨w.heap.size, 0, none⟩) 2048 2048, .int .i64 10, .int .i64 ((atOf ko x k : Int) - 32)] W fun e w' => e = .returned (.tuple #[]) ∧ Only w.heap.size W w' ∧ Pg w' w.heap.size 2048 2048 D))
      have HF4 := hid hF4
      have HFO : Hid (∀ j, j < k → f j = (atOf ko x j : Int)) := hid HLN.out.rc.fo
      have HGO : Hid (∀ j, j < k → g j = (szOf ko (x j) : Int)) := hid HLN.out.rc.go
      clear hlaid hD hl4 hF4 HLN HF HL3 HFA0 HL HKIND
      go_upto_region 50 with (first | (go_at_call 10; with_reducible (refine Calls.mono HZ6.out ?_); rintro e v1 ⟨rfl, ho1, hp1⟩; have hG1 := HF4.out.wrote ho1 hp1) | (go_at_call 10; with_reducible (refine Calls.mono (HZ4.out _ hp1) ?_); rintro e v2 ⟨rfl, ho2, hp2⟩; have hG2 := hG1.wrote ho2 hp2) | (go_at_call 10; with_reducible (refine Calls.mono (HZ10.out _ hp2) ?_); rintro e v3 ⟨rfl, ho3, hp3⟩; have hG3 := hG2.wrote ho3 hp3) | (go_at_call 7; with_reducible (refine Calls.mono (Clone_any _ _ _ _ _ hc1) ?_); rintro e v5 ⟨g2, c2, rfl, hg2, hc2, hb5⟩; have hG5 := hG4.read hb5) | (go_at_call 7; with_reducible (refine Calls.mono (Clone_any _ _ _ _ _ hp3) ?_); rintro e v4 ⟨g1, c1, rfl, hg1, hc1, hb4⟩; have hG4 := hG3.read hb4))
      have hg2b : ¬ w.heap.size = g2 := by have := hG4.ts.pg.buf.ic.lt; omega
      have hg2x : ¬ xb = g2 := by have := hG4.ts.xlt; omega
      have hg2o : ¬ ob = g2 := by have := hG4.io.lt; omega
      have hg2s : ¬ ob + 1 = g2 := by have := hG4.is.lt; omega
      have hg2w : w.heap.size ≤ g2 := by have := hG4.ts.below.size; omega
      have HG5 := hid hG5
      have HC2 := hid hc2
      clear hG1 hG2 hG3 hG4 hG5 hp1 hp2 hp3 ho1 ho2 ho3 hb4 hb5 hc1 hc2 hg1 hg2 HZ6 HZ4 HZ10 HF4
      go_cut [31] (fun s31 v => s31 = .bool false ∧ v = v5)
      case first =>
        go_wp2
        go_meet
        exact ⟨rfl, rfl⟩
      case rest =>
      obtain ⟨rfl, hv⟩ := hcut
      rw [hv]
      clear hv
      rename ∀ (a : Act) (w : World), Code.wp Yba.prog _ _ a w → _ => hK
      refine hK _ _ ?_
      exact free_loop4 hk8 h20 h21 h30 h31 hko HLAID hg2b hg2x hg2o hg2s hg2w hat664 hat0 HFO HGO HG5.out HC2.out

end Go.Proofs.Ybulkcnti
