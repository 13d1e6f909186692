import Derived.Test.YbulkcntiFA
import Derived.Deep.DeepCutAuto
import Derived.Deep.Cut
namespace Go.Proofs.Ybulkcnti
open Go.RowKit
set_option linter.unusedVariables false
set_option linter.unusedSimpArgs false

/-- What stands behind the first n statements of a sequence. -/
def rights : Nat → Code → Code
  | 0, c => c
  | n + 1, .seq _ b => rights n b
  | _ + 1, c => c

/-- The model's answer, as the law's own loop finds it. -/
def Want (ko : Nat) (x : Nat → Nat) (k : Nat) (D E : List Int) (size spare ov hv : Int) (dn : Bool) : Prop :=
  (dn = true ∧ ∃ i0, i0 < k ∧ spare ≤ 2040 - (atOf ko x k : Int) ∧ (∀ i, i < i0 → (szOf ko (x i) : Int) < size) ∧ ¬ (szOf ko (x i0) : Int) < size ∧ E = taken ko x k D i0 size ∧ ov = (atOf ko x i0 : Int) ∧ hv = 2 + (i0 : Int)) ∨
  (dn = false ∧ E = D ∧ ov = 0 ∧ hv = 0 ∧ (¬ spare ≤ 2040 - (atOf ko x k : Int) ∨ ∀ i, i < k → (szOf ko (x i) : Int) < size))

set_option maxRecDepth 100000 in
set_option maxHeartbeats 16000000 in
theorem free_tail {a0 : Option Addr} {len0 cap0 : Nat} {a1 : Bool} {a2 a3 : Int} {w wd : World} {k ko xb ob g2 c2 : Nat} {x : Nat → Nat} {f g : Nat → Int} {D : List Int} {E : List Int} {ov hv : Int} {dn : Bool}
    {y4 y5 y6 y7 y17 y18 y19 y20 y21 y22 y23 y24 y32 y33 y34 y35 y36 y37 y38 y39 y40 y41 y42 y43 y44 y45 y46 y47 y48 y49 y50 y51 y52 y53 y54 y55 y56 y57 y58 y59 y60 y61 y62 y63 y64 y65 y66 y67 y68 y69 y70 y71 y72 y73 y74 y75 y76 y77 y78 y79 y80 y81 y82 y83 y84 y85 y86 y87 y88 y89 y90 y91 y92 y93 y94 y95 y96 y97 y98 y99 y100 y101 y102 y103 y104 y105 y106 y107 y108 y109 y110 y111 y112 y113 y114 y115 y116 y117 y118 y119 y120 y121 y122 y123 y124 y125 y126 y127 y128 y129 y130 y131 y132 y133 y134 y135 y136 y137 y138 y139 y140 y141 y142 y143 y144 y145 y146 y147 y148 y149 y150 y151 y152 y153 y154 y155 y156 y157 y158 y159 y160 y161 y162 y163 y164 y165 y166 y167 y168 y169 y170 y171 y172 y173 y174 y175 y176 y177 y178 y179 y180 y181 y182 y183 y184 y185 y186 y187 y188 y189 y190 y191 y192 y193 y194 y195 y196 y197 y198 y199 y200 y201 y202 y203 y204 y205 y206 y207 y208 y209 y210 y211 y212 y213 y214 y215 y216 y217 y218 y219 y220 y221 y222 y223 y224 y225 y226 y227 y228 y229 y230 y231 y232 y233 y234 y235 y236 y237 y238 y239 y240 y241 y242 y243 y244 y245 y246 y247 y248 y249 y250 y251 y252 y253 y254 y255 y256 y257 y258 y259 y260 y261 : Value}
    (hk8 : k ≤ 8) (h20 : 0 ≤ a2) (h21 : a2 ≤ 65535) (h30 : 0 ≤ a3) (h31 : a3 ≤ 65535) (hko : ko = 9 ∨ ko = 17) (HLAID : Hid (Laid ko x k D))
    (hg2b : ¬ w.heap.size = g2) (hg2x : ¬ xb = g2) (hg2o : ¬ ob = g2) (hg2s : ¬ ob + 1 = g2) (hg2w : w.heap.size ≤ g2) (hat664 : atOf ko x k ≤ 664) (hat0 : 32 ≤ atOf ko x k)
    (hFw : FA w w.heap.size xb ob (ob + 1) f g D wd) (hPw : Pg wd g2 2048 c2 E) (hcase : Want ko x k D E (a2 % 200) (a3 % 2100) ov hv dn) :
    Code.wp Yba.prog (rights 24 (Yba.f4.body.getD .skip)) (bodyPost Yba.prog Yba.f4 fun e w' => e = .returned (.bool true) ∧ Below w.heap.size w w')
      { tmps := #[.slice a0 len0 cap0, .bool a1, .int .u16 a2, .int .u16 a3, y4, y5, y6, y7, .bool false, .int .i64 (k : Int), .slice (some ⟨w.heap.size, 0, none⟩) 2048 2048, .pointer (some ⟨xb, 0, none⟩), .int .i64 (ko : Int), .pointer (some ⟨ob, 0, none⟩), .pointer (some ⟨ob + 1, 0, none⟩), .int .i64 (atOf ko x k : Int), .int .i64 ((atOf ko x k : Int) - 32), y17, y18, y19, y20, y21, y22, y23, y24, .int .i64 (a2 % 200), .int .i64 (a3 % 2100), .int .i64 (2040 - (atOf ko x k : Int)), .slice (some ⟨g2, 0, none⟩) 2048 c2, .int .i64 ov, .int .i64 hv, .bool dn, y32, y33, y34, y35, y36, y37, y38, y39, y40, y41, y42, y43, y44, y45, y46, y47, y48, y49, y50, y51, y52, y53, y54, y55, y56, y57, y58, y59, y60, y61, y62, y63, y64, y65, y66, y67, y68, y69, y70, y71, y72, y73, y74, y75, y76, y77, y78, y79, y80, y81, y82, y83, y84, y85, y86, y87, y88, y89, y90, y91, y92, y93, y94, y95, y96, y97, y98, y99, y100, y101, y102, y103, y104, y105, y106, y107, y108, y109, y110, y111, y112, y113, y114, y115, y116, y117, y118, y119, y120, y121, y122, y123, y124, y125, y126, y127, y128, y129, y130, y131, y132, y133, y134, y135, y136, y137, y138, y139, y140, y141, y142, y143, y144, y145, y146, y147, y148, y149, y150, y151, y152, y153, y154, y155, y156, y157, y158, y159, y160, y161, y162, y163, y164, y165, y166, y167, y168, y169, y170, y171, y172, y173, y174, y175, y176, y177, y178, y179, y180, y181, y182, y183, y184, y185, y186, y187, y188, y189, y190, y191, y192, y193, y194, y195, y196, y197, y198, y199, y200, y201, y202, y203, y204, y205, y206, y207, y208, y209, y210, y211, y212, y213, y214, y215, y216, y217, y218, y219, y220, y221, y222, y223, y224, y225, y226, y227, y228, y229, y230, y231, y232, y233, y234, y235, y236, y237, y238, y239, y240, y241, y242, y243, y244, y245, y246, y247, y248, y249, y250, y251, y252, y253, y254, y255, y256, y257, y258, y259, y260, y261], defers := [] } wd := by
  have hbx := hFw.ts.box
  have hall := fun W (h : Pg W w.heap.size 2048 2048 D) => HLAID.out.allocate hko hk8 (a2 % 200) (a3 % 2100) (by omega) (by omega) (by omega) (by omega) w.heap.size W h
  conv => arg 2; dsimp only [rights, Yba.f4, Option.getD]
  rcases hcase with ⟨rfl, i0, hi0, hrm, hlt0, hfit0, hE0, rfl, rfl⟩ | ⟨rfl, hE0, rfl, rfl, hno⟩
  · have hsp := HLAID.out.spec_take hko (a2 % 200) (a3 % 2100) i0 hi0 hrm hlt0 hfit0
    rw [hsp, ← hE0] at hall
    have HA := hid (hall wd hFw.ts.pg)
    have HFw := hid hFw
    have HPw := hid hPw
    clear hall hFw hPw hsp hE0 hlt0 hfit0 hrm HLAID
    go_wp2_with (first | (go_at_call 8; go_must (with_reducible (refine Calls.mono HA.out ?_)); go_must (rintro e v1 ⟨rfl, ho1, hp1⟩); go_must (have hG1 := HFw.out.wrote ho1 hp1); have hq1 := HPw.out.kept (ho1.block _ HPw.out.buf.ic.lt (fun e => hg2b e.symm))) | (go_at_call 9; with_reducible (refine Calls.mono (Equal_any _ _ _ _ _ _ _ hp1.buf hq1.buf hp1.len) ?_); rintro e v2 ⟨rfl, hh⟩; obtain rfl := hh.symm))
    go_ret
    exact ⟨rfl, hG1.ts.below⟩
  · rw [hE0] at hPw
    clear hE0
    have hsp := HLAID.out.spec_top (a2 % 200) (a3 % 2100) hno
    by_cases ht : 2040 - (atOf ko x k : Int) < a2 % 200 + a3 % 2100
    · have hd : decide (a2 % 200 + a3 % 2100 ≤ 2040 - (atOf ko x k : Int)) = false := by simp; omega
      rw [if_pos ht] at hsp
      rw [hsp] at hall
      have HA := hid (hall wd hFw.ts.pg)
      have HFw := hid hFw
      have HPw := hid hPw
      clear hall hFw hPw hsp hno HLAID ht
      go_wp2_with (first | (go_at_call 8; go_must (with_reducible (refine Calls.mono HA.out ?_)); go_must (rintro e v1 ⟨rfl, ho1, hp1⟩); go_must (have hG1 := HFw.out.wrote ho1 hp1); have hq1 := HPw.out.kept (ho1.block _ HPw.out.buf.ic.lt (fun e => hg2b e.symm))) | (go_at_call 9; with_reducible (refine Calls.mono (Equal_any _ _ _ _ _ _ _ hp1.buf hq1.buf hp1.len) ?_); rintro e v2 ⟨rfl, hh⟩; obtain rfl := hh.symm))
      go_ret
      exact ⟨rfl, hG1.ts.below⟩
    · have hd : decide (a2 % 200 + a3 % 2100 ≤ 2040 - (atOf ko x k : Int)) = true := by simp; omega
      rw [if_neg ht] at hsp
      rw [hsp] at hall
      have HA := hid hall
      have HFw := hid hFw
      have HZ6 := hid (zzput16_any g2 2048 c2 6 6 ((atOf ko x k : Int) + a2 % 200) D wd rfl hPw (by omega) (by omega) (by omega))
      have HZ4 := hid (fun W (h : Pg W g2 2048 c2 (put D 6 ((atOf ko x k : Int) + a2 % 200))) => zzput16_any g2 2048 c2 4 4 (3 + (k : Int)) _ W rfl h (by omega) (by omega) (by omega))
      clear hall hFw hPw hsp hno HLAID ht
      go_wp2_with (first | (go_at_call 10; with_reducible (refine Calls.mono HZ6.out ?_); rintro e v3 ⟨rfl, ho3, hp3⟩; have hG3 := HFw.out.other ho3 hg2w hg2b hg2x hg2o hg2s; have hbx3 := hG3.ts.box) | (go_at_call 10; with_reducible (refine Calls.mono (HZ4.out _ hp3) ?_); rintro e v4 ⟨rfl, ho4, hp4⟩; have hG4 := hG3.other ho4 hg2w hg2b hg2x hg2o hg2s; have hbx4 := hG4.ts.box) | (go_at_call 8; go_must (with_reducible (refine Calls.mono (HA.out _ hG4.ts.pg) ?_)); go_must (rintro e v1 ⟨rfl, ho1, hp1⟩); go_must (have hG1 := hG4.wrote ho1 hp1); have hq1 := hp4.kept (ho1.block _ hp4.buf.ic.lt (fun e => hg2b e.symm))) | (go_at_call 9; with_reducible (refine Calls.mono (Equal_any _ _ _ _ _ _ _ hp1.buf hq1.buf hp1.len) ?_); rintro e v2 ⟨rfl, hh⟩; obtain rfl := hh.symm))
      go_ret
      exact ⟨rfl, hG1.ts.below⟩
end Go.Proofs.Ybulkcnti
