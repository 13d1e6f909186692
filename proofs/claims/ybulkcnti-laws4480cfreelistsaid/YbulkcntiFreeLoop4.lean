import Derived.Test.YbulkcntiFreeTail
import Derived.Deep.RegionHeld3
import Derived.Deep.CutRange
namespace Go.Proofs.Ybulkcnti
open Go.RowKit
set_option linter.unusedVariables false
set_option linter.unusedSimpArgs false

set_option maxRecDepth 100000 in
set_option maxHeartbeats 16000000 in
theorem free_loop4 {a0 : Option Addr} {len0 cap0 : Nat} {a1 : Bool} {a2 a3 : Int} {w wd : World} {k ko xb ob g2 c2 : Nat} {x : Nat → Nat} {f g : Nat → Int} {D : List Int}
    {y4 y5 y6 y7 y17 y18 y19 y20 y21 y22 y23 y24 y32 y33 y34 y35 y36 y37 y38 y39 y40 y41 y42 y43 y44 y45 y46 y47 y48 y49 y50 y51 y52 y53 y54 y55 y56 y57 y58 y59 y60 y61 y62 y63 y64 y65 y66 y67 y68 y69 y70 y71 y72 y73 y74 y75 y76 y77 y78 y79 y80 y81 y82 y83 y84 y85 y86 y87 y88 y89 y90 y91 y92 y93 y94 y95 y96 y97 y98 y99 y100 y101 y102 y103 y104 y105 y106 y107 y108 y109 y110 y111 y112 y113 y114 y115 y116 y117 y118 y119 y120 y121 y122 y123 y124 y125 y126 y127 y128 y129 y130 y131 y132 y133 y134 y135 y136 y137 y138 y139 y140 y141 y142 y143 y144 y145 y146 y147 y148 y149 y150 y151 y152 y153 y154 y155 y156 y157 y158 y159 y160 y161 y162 y163 y164 y165 y166 y167 y168 y169 y170 y171 y172 y173 y174 y175 y176 y177 y178 y179 y180 y181 y182 y183 y184 y185 y186 y187 y188 y189 y190 y191 y192 y193 y194 y195 y196 y197 y198 y199 y200 y201 y202 y203 y204 y205 y206 y207 y208 y209 y210 y211 y212 y213 y214 y215 y216 y217 y218 y219 y220 y221 y222 y223 y224 y225 y226 y227 y228 y229 y230 y231 y232 y233 y234 y235 y236 y237 y238 y239 y240 y241 y242 y243 y244 y245 y246 y247 y248 y249 y250 y251 y252 y253 y254 y255 y256 y257 y258 y259 y260 y261 : Value}
    (hk8 : k ≤ 8) (h20 : 0 ≤ a2) (h21 : a2 ≤ 65535) (h30 : 0 ≤ a3) (h31 : a3 ≤ 65535) (hko : ko = 9 ∨ ko = 17) (HLAID : Hid (Laid ko x k D))
    (hg2b : ¬ w.heap.size = g2) (hg2x : ¬ xb = g2) (hg2o : ¬ ob = g2) (hg2s : ¬ ob + 1 = g2) (hg2w : w.heap.size ≤ g2) (hat664 : atOf ko x k ≤ 664) (hat0 : 32 ≤ atOf ko x k)
    (HFO : Hid (∀ j, j < k → f j = (atOf ko x j : Int))) (HGO : Hid (∀ j, j < k → g j = (szOf ko (x j) : Int)))
    (hFw : FA w w.heap.size xb ob (ob + 1) f g D wd) (hPw : Pg wd g2 2048 c2 D) :
    Code.wp Yba.prog (rights 23 (Yba.f4.body.getD .skip)) (bodyPost Yba.prog Yba.f4 fun e w' => e = .returned (.bool true) ∧ Below w.heap.size w w')
      { tmps := #[.slice a0 len0 cap0, .bool a1, .int .u16 a2, .int .u16 a3, y4, y5, y6, y7, .bool false, .int .i64 (k : Int), .slice (some ⟨w.heap.size, 0, none⟩) 2048 2048, .pointer (some ⟨xb, 0, none⟩), .int .i64 (ko : Int), .pointer (some ⟨ob, 0, none⟩), .pointer (some ⟨ob + 1, 0, none⟩), .int .i64 (atOf ko x k : Int), .int .i64 ((atOf ko x k : Int) - 32), y17, y18, y19, y20, y21, y22, y23, y24, .int .i64 (a2 % 200), .int .i64 (a3 % 2100), .int .i64 (2040 - (atOf ko x k : Int)), .slice (some ⟨g2, 0, none⟩) 2048 c2, .int .i64 0, .int .i64 0, .bool false, y32, y33, y34, y35, y36, y37, y38, y39, y40, y41, y42, y43, y44, y45, y46, y47, y48, y49, y50, y51, y52, y53, y54, y55, y56, y57, y58, y59, y60, y61, y62, y63, y64, y65, y66, y67, y68, y69, y70, y71, y72, y73, y74, y75, y76, y77, y78, y79, y80, y81, y82, y83, y84, y85, y86, y87, y88, y89, y90, y91, y92, y93, y94, y95, y96, y97, y98, y99, y100, y101, y102, y103, y104, y105, y106, y107, y108, y109, y110, y111, y112, y113, y114, y115, y116, y117, y118, y119, y120, y121, y122, y123, y124, y125, y126, y127, y128, y129, y130, y131, y132, y133, y134, y135, y136, y137, y138, y139, y140, y141, y142, y143, y144, y145, y146, y147, y148, y149, y150, y151, y152, y153, y154, y155, y156, y157, y158, y159, y160, y161, y162, y163, y164, y165, y166, y167, y168, y169, y170, y171, y172, y173, y174, y175, y176, y177, y178, y179, y180, y181, y182, y183, y184, y185, y186, y187, y188, y189, y190, y191, y192, y193, y194, y195, y196, y197, y198, y199, y200, y201, y202, y203, y204, y205, y206, y207, y208, y209, y210, y211, y212, y213, y214, y215, y216, y217, y218, y219, y220, y221, y222, y223, y224, y225, y226, y227, y228, y229, y230, y231, y232, y233, y234, y235, y236, y237, y238, y239, y240, y241, y242, y243, y244, y245, y246, y247, y248, y249, y250, y251, y252, y253, y254, y255, y256, y257, y258, y259, y260, y261], defers := [] } wd := by
  have HG5 := hid hFw
  have HC2 := hid hPw
  clear hFw hPw
  conv => arg 2; dsimp only [rights, Yba.f4, Option.getD]
  go_upto_if 163 with fail
  go_cut [29, 30, 31] (fun s29 s30 s31 v => ∃ (E : List Int) (ov hv : Int) (dn : Bool), s29 = .int .i64 ov ∧ s30 = .int .i64 hv ∧ s31 = .bool dn ∧ FA w w.heap.size xb ob (ob + 1) f g D v ∧ Pg v g2 2048 c2 E ∧ Want ko x k D E (a2 % 200) (a3 % 2100) ov hv dn)
  case first =>
    by_cases hrm : a3 % 2100 ≤ 2040 - (atOf ko x k : Int)
    · have hdr : decide (a3 % 2100 ≤ 2040 - (atOf ko x k : Int)) = true := by simpa using hrm
      simp only [hdr]
      clear hdr
      go_wp2_with fail
      go_loopw [29, 30, 31, 32] (fun s29 s30 s31 s32 v => ∃ (i : Nat) (E : List Int) (ov hv : Int) (dn : Bool), s29 = .int .i64 ov ∧ s30 = .int .i64 hv ∧ s31 = .bool dn ∧ s32 = .int .i64 (i : Int) ∧ i ≤ k ∧ FA w w.heap.size xb ob (ob + 1) f g D v ∧ Pg v g2 2048 c2 E ∧ ((dn = true ∧ ∃ i0, i0 < k ∧ (∀ i, i < i0 → (szOf ko (x i) : Int) < a2 % 200) ∧ ¬ (szOf ko (x i0) : Int) < a2 % 200 ∧ E = taken ko x k D i0 (a2 % 200) ∧ ov = (atOf ko x i0 : Int) ∧ hv = 2 + (i0 : Int)) ∨ (dn = false ∧ E = D ∧ ov = 0 ∧ hv = 0 ∧ ∀ j, j < i → (szOf ko (x j) : Int) < a2 % 200))) (fun _ _ _ s32 _ => k - (intOf s32).toNat)
      case atStart => exact ⟨0, D, 0, 0, false, rfl, rfl, rfl, rfl, Nat.zero_le _, HG5.out, HC2.out, Or.inr ⟨rfl, rfl, rfl, rfl, fun j h => by omega⟩⟩
      case round =>
        obtain ⟨i, E, ov, hv, dn, rfl, rfl, rfl, rfl, hik4, hF, hE, hcase⟩ := hrel
        rcases hcase with ⟨rfl, i0, hi0, hlt0, hfit0, hE0, rfl, rfl⟩ | ⟨rfl, hE0, rfl, rfl, hlt0⟩
        · have HF := hid hF
          have HE := hid hE
          have HLT0 := hid hlt0
          have HFIT0 := hid hfit0
          have HE0 := hid hE0
          clear hF hE hlt0 hfit0 hE0
          by_cases hil : i < k
          · have hdi : decide ((i : Int) < (k : Int)) = true := by simp; omega
            go_wp2
            go_meet
            exact ⟨E, _, _, true, rfl, rfl, rfl, HF.out, HE.out, Or.inl ⟨rfl, i0, hi0, hrm, HLT0.out, by have := HFIT0.out; omega, HE0.out, rfl, rfl⟩⟩
          · have hdi : decide ((i : Int) < (k : Int)) = false := by simp; omega
            go_wp2
            go_meet
            exact ⟨E, _, _, true, rfl, rfl, rfl, HF.out, HE.out, Or.inl ⟨rfl, i0, hi0, hrm, HLT0.out, by have := HFIT0.out; omega, HE0.out, rfl, rfl⟩⟩
        · rw [hE0] at hE
          clear hE0
          by_cases hil : i < k
          · have hdi : decide ((i : Int) < (k : Int)) = true := by simp; omega
            have hi8 : i < 8 := by omega
            have hiN : (i : Int) < 8 := by omega
            have csi : wr.cell? ⟨ob + 1, i, none⟩ = some (.int .i64 (szOf ko (x i) : Int)) := by rw [hF.sc i hi8, HGO.out i hil]
            have bls := hF.is.lt
            by_cases hfit : (szOf ko (x i) : Int) < a2 % 200
            · have hdf : decide (a2 % 200 ≤ (szOf ko (x i) : Int)) = false := by simp; omega
              have HF := hid hF
              have HE := hid hE
              have HLT0 := hid hlt0
              clear hF hE hlt0
              go_wp2
              refine ⟨⟨i + 1, _, 0, 0, false, rfl, rfl, rfl, congrArg _ (by omega), by omega, HF.out, HE.out, Or.inr ⟨rfl, rfl, rfl, rfl, fun j hj => ?_⟩⟩, ?_⟩
              · rcases Nat.lt_or_ge j i with h1 | h1
                · exact HLT0.out j h1
                · have : j = i := by omega
                  rw [this]; exact hfit
              · show k - ((i : Int) + 1).toNat < k - ((i : Int)).toNat
                omega
            · -- FIT
              have hdf : decide (a2 % 200 ≤ (szOf ko (x i) : Int)) = true := by simp; omega
              have coi : wr.cell? ⟨ob, i, none⟩ = some (.int .i64 (atOf ko x i : Int)) := by rw [hF.oc i hi8, HFO.out i hil]
              have blo := hF.io.lt
              have haj0 := atOf_lo ko x i
              have haj1 := atOf_hi hko x i
              have hszl := szOf_lo hko (x i)
              have hszh := szOf_hi hko (x i)
              have hnxh := nxOf_hi hko x k i hk8
              have hmono := atOf_mono ko x i k hil
              have HF := hid hF
              have HE := hid hE
              have HLT0 := hid hlt0
              clear hF hE hlt0
              go_upto_if 181 with fail
              go_cut [33] from 164 to 220 (fun s33 v => s33 = .int .i64 (nxOf ko x k i : Int) ∧ v = wr)
              case first =>
                by_cases hi1 : i + 1 < k
                · have hd1 : decide ((i : Int) + 1 < (k : Int)) = true := by simp; omega
                  have coj : wr.cell? ⟨ob, i + 1, none⟩ = some (.int .i64 (nxOf ko x k i : Int)) := by rw [HF.out.oc (i + 1) (by omega), HFO.out (i + 1) hi1]; unfold nxOf; rw [if_pos hi1]
                  have hi1N : (i : Int) + 1 < 8 := by omega
                  go_wp2
                  go_meet
                  exact ⟨rfl, rfl⟩
                · have hd1 : decide ((i : Int) + 1 < (k : Int)) = false := by simp; omega
                  have HNX0 : Hid (nxOf ko x k i = 0) := hid (by unfold nxOf; rw [if_neg hi1])
                  go_wp2
                  go_meet
                  exact ⟨by rw [HNX0.out]; rfl, rfl⟩
              case rest =>
              obtain ⟨rfl, hv33⟩ := hcut
              obtain rfl := hv33.symm
              clear hv33
              go_upto_if 187 with fail
              go_cut [] from 164 to 220 (fun v => FA w w.heap.size xb ob (ob + 1) f g D v ∧ Pg v g2 2048 c2 (linked ko x k D i))
              case first =>
                by_cases hz : i = 0
                · have hd2 : decide ((i : Int) = 0) = true := by simp [hz]
                  have hd3 : decide (i = 0) = true := by simp [hz]
                  have hd4 : ((i : Int) == 0) = true := by simp [hz]
                  have hd5 : (i == 0) = true := by simp [hz]
                  have HLK : Hid (linked ko x k D i = put D 8 (nxOf ko x k i : Int)) := hid (by unfold linked; rw [if_pos hz])
                  have HZ := hid (zzput16_any g2 2048 c2 8 8 (nxOf ko x k i : Int) D wr rfl HE.out (by omega) (by omega) (by omega))
                  clear hz
                  go_wp2_with (first | (go_at_call 10; with_reducible (refine Calls.mono HZ.out ?_); rintro e v3 ⟨rfl, ho3, hp3⟩; have hG3 := HF.out.other ho3 hg2w hg2b hg2x hg2o hg2s))
                  go_meet
                  exact ⟨hG3, by rw [HLK.out]; exact hp3⟩
                · have hd2 : decide ((i : Int) = 0) = false := by simp; omega
                  have HLK : Hid (linked ko x k D i = put D (atOf ko x (i - 1) + 3) (nxOf ko x k i : Int)) := hid (by unfold linked; rw [if_neg hz])
                  have cop : wr.cell? ⟨ob, i - 1, none⟩ = some (.int .i64 (atOf ko x (i - 1) : Int)) := by rw [HF.out.oc (i - 1) (by omega), HFO.out (i - 1) (by omega)]
                  have hap := atOf_hi hko x (i - 1)
                  have hap664 : atOf ko x (i - 1) ≤ 664 := by omega
                  have hi0N : (0 : Int) ≤ (i : Int) - 1 := by omega
                  have hi8N : (i : Int) - 1 < 8 := by omega
                  have HZ := hid (zzput16_any g2 2048 c2 (atOf ko x (i - 1) + 3) ((atOf ko x (i - 1) : Int) + 3) (nxOf ko x k i : Int) D wr (by omega) HE.out (by omega) (by omega) (by omega))
                  clear hap
                  obtain ⟨ip, hip⟩ : ∃ ip, ip = i - 1 := ⟨_, rfl⟩
                  rw [← hip] at cop HZ HLK hap664
                  have hipI : (i : Int) - 1 = (ip : Int) := by omega
                  have hip8 : (ip : Int) < 8 := by omega
                  clear hip hi0N hi8N
                  go_wp2_with (first | (go_at_call 10; with_reducible (refine Calls.mono HZ.out ?_); rintro e v3 ⟨rfl, ho3, hp3⟩; have hG3 := HF.out.other ho3 hg2w hg2b hg2x hg2o hg2s))
                  go_meet
                  exact ⟨hG3, by rw [HLK.out]; exact hp3⟩
              case rest =>
              generalize wc = we at *
              obtain ⟨hF2, hE2⟩ := hcut
              have co2 : we.cell? ⟨ob, i, none⟩ = some (.int .i64 (atOf ko x i : Int)) := by rw [hF2.oc i hi8, HFO.out i hil]
              have cs2 : we.cell? ⟨ob + 1, i, none⟩ = some (.int .i64 (szOf ko (x i) : Int)) := by rw [hF2.sc i hi8, HGO.out i hil]
              have HF2 := hid hF2
              have HE2 := hid hE2
              clear hF2 hE2
              go_upto_region 62 with fail
              have HCL := HE2.out.kept (w' := we.drew) rfl |>.clear (atOf ko x i) (szOf ko (x i)) (c2 - atOf ko x i) (by omega) (by omega)
              obtain ⟨wz, hcl, hoz, hpz⟩ := HCL
              have hsum : (atOf ko x i : Int) + (szOf ko (x i) : Int) ≤ 2048 := by omega
              have hc2a : 2048 ≤ c2 := HE2.out.fit
              have hc2b : c2 ≤ 9223372036854775807 := HE2.out.fitm
              have hc2n : ¬ c2 = atOf ko x i := by omega
              have hwr : IntKind.i64.wrap ((atOf ko x i : Int) + (szOf ko (x i) : Int)) = (atOf ko x i : Int) + (szOf ko (x i) : Int) := i64w _ (by omega)
              have hTN : ((atOf ko x i : Int) + (szOf ko (x i) : Int)).toNat - atOf ko x i = szOf ko (x i) := by omega
              have hb1 : (0 : Int) ≤ (atOf ko x i : Int) := by omega
              have hb2 : (atOf ko x i : Int) ≤ (atOf ko x i : Int) + (szOf ko (x i) : Int) := by omega
              have hb3 : (atOf ko x i : Int) + (szOf ko (x i) : Int) ≤ (c2 : Int) := by omega
              have hFz := HF2.out.drew.other hoz hg2w hg2b hg2x hg2o hg2s
              have hwz1 : wz.cell? ⟨ob, i, none⟩ = some (.int .i64 (atOf ko x i : Int)) := by rw [hFz.oc i hi8, HFO.out i hil]
              have hwz2 : wz.cell? ⟨ob + 1, i, none⟩ = some (.int .i64 (szOf ko (x i) : Int)) := by rw [hFz.sc i hi8, HGO.out i hil]
              have HFZ := hid hFz
              have HPZ := hid hpz
              have HOZ := hid hoz
              clear hFz hpz hoz
              go_cut [] from 164 to 220 (fun v => FA w w.heap.size xb ob (ob + 1) f g D v ∧ Pg v g2 2048 c2 (clr (szOf ko (x i)) (linked ko x k D i) (atOf ko x i)))
              case first =>
                go_region_held3 (fun v => (v.cell? ⟨ob, i, none⟩ = some (.int .i64 (atOf ko x i : Int)) ∧ v.cell? ⟨ob + 1, i, none⟩ = some (.int .i64 (szOf ko (x i) : Int)))) (first | exact ⟨hwz1, hwz2⟩ | (constructor <;> go_simp)) (first | (simp only [hTN, hcl]))
                go_wp2
                go_meet
                exact ⟨HFZ.out, HPZ.out⟩
              case rest =>
              generalize wc = wf at *
              obtain ⟨hF3, hE3⟩ := hcut
              have HF3 := hid hF3
              have HZA := hid (zzput16_any g2 2048 c2 10 10 ((atOf ko x k : Int) - 32 - a2 % 200) _ wf rfl hE3 (by omega) (by omega) (by omega))
              have HTK : Hid (put (clr (szOf ko (x i)) (linked ko x k D i) (atOf ko x i)) 10 ((atOf ko x k : Int) - 32 - a2 % 200) = taken ko x k D i (a2 % 200)) := hid rfl
              clear hF3 hE3
              go_wp2_with (first | (go_at_call 10; with_reducible (refine Calls.mono HZA.out ?_); rintro e v3 ⟨rfl, ho3, hp3⟩; have hG3 := HF3.out.other ho3 hg2w hg2b hg2x hg2o hg2s; have co3 : v3.cell? ⟨ob, i, none⟩ = some (.int .i64 (atOf ko x i : Int)) := (hG3.oc i hi8).trans (by rw [HFO.out i hil])))
              refine ⟨⟨i + 1, _, _, _, true, rfl, rfl, rfl, congrArg _ (by omega), by omega, hG3, hp3, Or.inl ⟨rfl, i, hil, HLT0.out, by omega, HTK.out, rfl, rfl⟩⟩, ?_⟩
              show k - ((i : Int) + 1).toNat < k - ((i : Int)).toNat
              omega
          · have hdi : decide ((i : Int) < (k : Int)) = false := by simp; omega
            have HF := hid hF
            have HE := hid hE
            have HLT0 := hid hlt0
            clear hF hE hlt0
            go_wp2
            go_meet
            exact ⟨_, 0, 0, false, rfl, rfl, rfl, HF.out, HE.out, Or.inr ⟨rfl, rfl, rfl, rfl, Or.inr fun j hj => HLT0.out j (by omega)⟩⟩
    · have hdr : decide (a3 % 2100 ≤ 2040 - (atOf ko x k : Int)) = false := by simpa using hrm
      go_wp2
      go_meet
      exact ⟨D, 0, 0, false, rfl, rfl, rfl, HG5.out, HC2.out, Or.inr ⟨rfl, rfl, rfl, rfl, Or.inl (by omega)⟩⟩

  case rest =>
    obtain ⟨E, ov, hv, dn, rfl, rfl, rfl, hF, hP, hW⟩ := hcut
    rename ∀ (a : Act) (w : World), Code.wp Yba.prog _ _ a w → _ => hK
    refine hK _ _ ?_
    exact free_tail hk8 h20 h21 h30 h31 hko HLAID hg2b hg2x hg2o hg2s hg2w hat664 hat0 hF hP hW
end Go.Proofs.Ybulkcnti
