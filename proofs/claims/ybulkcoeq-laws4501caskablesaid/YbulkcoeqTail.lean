import Derived.Test.YbulkcoeqAskable
namespace Go.Proofs.Ybulkcoeq
open Go.RowKit
set_option linter.unusedVariables false
set_option linter.unusedSimpArgs false

/-- What stands behind the first n statements of a sequence. -/
def rights : Nat → Code → Code
  | 0, c => c
  | n + 1, .seq _ b => rights n b
  | _ + 1, c => c

theorem own_addr {v : World} {base n c : Nat} {p : Option Addr} {xs : List Value} (h : v.ownsRow base 24 1 (.slice p n c) n xs) (hn : 0 < n) : ∃ g, p = some ⟨g, 0, none⟩ ∧ g < v.heap.size ∧ ∀ j, j < n → v.cell? ⟨g, j, none⟩ = xs[j]? := by
  have h0 := h
  rcases h.2 with ⟨_, h1⟩ | ⟨g, cap, cur, h1, h2, h3, _⟩
  · omega
  · cases h1
    exact ⟨g, rfl, (Array.getElem?_eq_some_iff.1 h3).1, fun j hj => World.ownsRow.cellAt h0 j (by omega)⟩
theorem neq_ptr (y : Nat) (W : World) : (binOp .neq 24 (ptr y) (ptr y)).run Yba.prog W = .ok (.bool false) W := by
  simp [binOp, peq_same W y]

set_option maxRecDepth 100000 in
set_option maxHeartbeats 16000000 in
theorem ask_tail {pa pS pT pG : Option Addr} {n t capA cS cT cG sb tb rb : Nat} {tu : Int} {shb : Bool} {S Tb : Nat → Nat} {f : Nat → Int} {sh : Option Addr} {LG : List Nat} {w wd : World} {pW : Option Addr} {cW : Nat}
    {y3 y4 y5 y9 y11 y16 y18 y19 y20 y21 y22 y23 y24 y25 y26 y27 y28 y29 y30 y31 y32 y33 y34 y35 y36 y37 y38 y39 y40 y41 y42 y43 y44 y45 y46 y47 y48 y49 y50 y51 y52 y53 y54 y55 y56 y57 y58 y59 y60 y61 y62 y63 y64 y65 y66 y67 y68 y69 y70 y71 y72 y73 y74 y75 y76 y77 y78 y79 y80 y81 y82 y83 y84 y85 y86 y87 y88 y89 y90 y91 y92 y93 y94 y95 y96 y97 y98 y99 y100 y101 y102 y103 y104 y105 y106 y107 y108 y109 y110 y111 y112 y113 y114 y115 y116 y117 y118 y119 y120 y121 y122 y123 y124 y125 y126 y127 y128 y129 y130 y131 y132 y133 y134 y135 y136 y137 y138 y139 y140 y141 y142 y143 y144 y145 y146 y147 y148 y149 y150 y151 y152 y153 y154 y155 y156 y157 y158 y159 y160 y161 y162 y163 y164 y165 y166 y167 y168 y169 y170 y171 y172 y173 y174 y175 y176 y177 y178 y179 y180 y181 y182 y183 y184 y185 y186 y187 y188 y189 y190 y191 y192 y193 y194 y195 y196 y197 y198 y199 y200 y201 y202 y203 y204 y205 y206 y207 y208 y209 y210 y211 y212 y213 y214 y215 y216 y217 y218 y219 y220 y221 : Value}
    (ht : t ≤ 8) (hn : n ≤ 1024) (hLG : LG.length ≤ 2000) (hsh : sh.isSome = shb) (hLA : LG = asked sh f S Tb n t) (hbw : Below w.heap.size w wd) (hP : Hp n t S Tb f rb sb tb sh wd)
    (hA : 0 < n → ∃ A, pa = some A ∧ A.block < w.heap.size ∧ ∀ i, i < n → w.cell? (A.add i) = some (.int .i64 (f i)))
    (hS : wd.ownsRow 0 24 1 (.slice pS n cS) n ((List.range n).map fun k => ptr (S k))) (hT : wd.ownsRow 0 24 1 (.slice pT t cT) t ((List.range t).map fun k => ptr (Tb k))) (hG : wd.ownsRow 0 24 1 (.slice pG LG.length cG) LG.length (LG.map ptr))
    (hW : wd.ownsRow 0 24 1 (.slice pW LG.length cW) LG.length (LG.map ptr)) :
    Code.wp Yba.prog (rights 15 (Yba.f3.body.getD .skip)) (bodyPost Yba.prog Yba.f3 fun e w' => e = .returned (.bool true) ∧ Below w.heap.size w w')
      { tmps := #[.slice pa n capA, .int .u8 tu, .bool shb, y3, y4, y5, .bool false, .int .i64 (t : Int), .slice (some ⟨sb, 0, none⟩) n n, y9, .slice (some ⟨tb, 0, none⟩) t t, y11, ptr rb, .slice pS n cS, .slice pT t cT, .slice pG LG.length cG, y16, .slice pW LG.length cW, y18, y19, y20, y21, y22, y23, y24, y25, y26, y27, y28, y29, y30, y31, y32, y33, y34, y35, y36, y37, y38, y39, y40, y41, y42, y43, y44, y45, y46, y47, y48, y49, y50, y51, y52, y53, y54, y55, y56, y57, y58, y59, y60, y61, y62, y63, y64, y65, y66, y67, y68, y69, y70, y71, y72, y73, y74, y75, y76, y77, y78, y79, y80, y81, y82, y83, y84, y85, y86, y87, y88, y89, y90, y91, y92, y93, y94, y95, y96, y97, y98, y99, y100, y101, y102, y103, y104, y105, y106, y107, y108, y109, y110, y111, y112, y113, y114, y115, y116, y117, y118, y119, y120, y121, y122, y123, y124, y125, y126, y127, y128, y129, y130, y131, y132, y133, y134, y135, y136, y137, y138, y139, y140, y141, y142, y143, y144, y145, y146, y147, y148, y149, y150, y151, y152, y153, y154, y155, y156, y157, y158, y159, y160, y161, y162, y163, y164, y165, y166, y167, y168, y169, y170, y171, y172, y173, y174, y175, y176, y177, y178, y179, y180, y181, y182, y183, y184, y185, y186, y187, y188, y189, y190, y191, y192, y193, y194, y195, y196, y197, y198, y199, y200, y201, y202, y203, y204, y205, y206, y207, y208, y209, y210, y211, y212, y213, y214, y215, y216, y217, y218, y219, y220, y221], defers := [] } wd := by
  conv => arg 2; dsimp only [rights, Yba.f3, Option.getD]
  have HP := hid hP
  have HA := hid hA
  have HS := hid hS
  have HT := hid hT
  have HG := hid hG
  have HW := hid hW
  have HB := hid hbw
  have c11 := hP.rse
  have c12 := hP.rtu
  obtain ⟨lg, hlg⟩ : ∃ lg, lg = LG.length := ⟨_, rfl⟩
  rw [← hlg] at HG HW hLG ⊢
  have HLG := hid hlg
  clear hP hA hS hT hG hW hbw hlg hLA
  go_wp2_with fail
  go_loopw [138] (fun s v => ∃ (i q : Nat), s = .int .i64 (i : Int) ∧ i ≤ lg ∧ v = wd.drewN q) (fun s _ => lg - (intOf s).toNat)
  case atStart => exact ⟨0, 0, rfl, Nat.zero_le _, rfl⟩
  case round =>
    obtain ⟨i, q, rfl, hi, rfl⟩ := hrel
    by_cases hlt : i < lg
    · have hdl : decide ((i : Int) < (lg : Int)) = true := by simp; omega
      obtain ⟨g1, rfl, hg1, hc1⟩ := own_addr HG.out (by omega)
      obtain ⟨g2, rfl, hg2, hc2⟩ := own_addr HW.out (by omega)
      have e1 : wd.cell? ⟨g1, i, none⟩ = some (ptr (LG.getD i 0)) := by
        rw [hc1 i hlt]
        have : i < LG.length := by have := HLG.out; omega
        simp [List.getD, List.getElem?_eq_getElem this]
      have e2 : wd.cell? ⟨g2, i, none⟩ = some (ptr (LG.getD i 0)) := by
        rw [hc2 i hlt]
        have : i < LG.length := by have := HLG.out; omega
        simp [List.getD, List.getElem?_eq_getElem this]
      generalize LG.getD i 0 = y at e1 e2
      have hneq := neq_ptr y
      have hiN : (i : Int) < (lg : Int) := by omega
      clear hc1 hc2
      go_wp2
      go_quiet (fail)
      go_wp2
      refine ⟨⟨i + 1, _, congrArg _ (by omega), by omega, rfl⟩, ?_⟩
      show lg - ((i : Int) + 1).toNat < lg - ((i : Int)).toNat
      omega
    · have hdl : decide ((i : Int) < (lg : Int)) = false := by simp; omega
      go_wp2_with fail
      go_loopw [171] (fun s v => ∃ (i q : Nat), s = .int .i64 (i : Int) ∧ i ≤ n ∧ v = wd.drewN q) (fun s _ => n - (intOf s).toNat)
      case atStart => exact ⟨0, q, rfl, Nat.zero_le _, rfl⟩
      case round =>
        clear hdl hlt hi
        obtain ⟨i, q, rfl, hi, rfl⟩ := hrel
        by_cases hlt : i < n
        · have hdl : decide ((i : Int) < (n : Int)) = true := by simp; omega
          obtain ⟨A, rfl, hAb, hAc⟩ := HA.out (by omega)
          obtain ⟨g1, rfl, hg1, hc1⟩ := own_addr HS.out (by omega)
          obtain ⟨g2, hg2, _, hc2⟩ := own_addr HP.out.rowS (by omega)
          have hg2' : g2 = sb := by cases hg2; rfl
          subst hg2'
          have e1 : wd.cell? ⟨g1, i, none⟩ = some (ptr (S i)) := by rw [hc1 i hlt]; simp [hlt]
          have e2 : wd.cell? ⟨g2, i, none⟩ = some (ptr (S i)) := by rw [hc2 i hlt]; simp [hlt]
          have e3 := HP.out.first i hlt
          have e4 : wd.cell? (A.add i) = some (.int .i64 (f i)) := (HB.out.cell (p := A.add i) (by rw [show (A.add i).block = A.block by unfold Addr.add; split <;> rfl]; exact hAb)).trans (hAc i hlt)
          generalize S i = y at e1 e2 e3
          generalize f i = fi at e3 e4
          have hneq := neq_ptr y
          have hiN : (i : Int) < (n : Int) := by omega
          clear hc1 hc2 hAc hg2
          go_wp2
          go_quiet (fail)
          go_wp2
          refine ⟨⟨i + 1, _, congrArg _ (by omega), by omega, rfl⟩, ?_⟩
          show n - ((i : Int) + 1).toNat < n - ((i : Int)).toNat
          omega
        · have hdl : decide ((i : Int) < (n : Int)) = false := by simp; omega
          go_wp2_with fail
          go_loopw [206] (fun s v => ∃ (i q : Nat), s = .int .i64 (i : Int) ∧ i ≤ t ∧ v = wd.drewN q) (fun s _ => t - (intOf s).toNat)
          case atStart => exact ⟨0, q, rfl, Nat.zero_le _, rfl⟩
          case round =>
            clear hdl hlt hi
            obtain ⟨i, q, rfl, hi, rfl⟩ := hrel
            by_cases hlt : i < t
            · have hdl : decide ((i : Int) < (t : Int)) = true := by simp; omega
              obtain ⟨g1, rfl, hg1, hc1⟩ := own_addr HT.out (by omega)
              obtain ⟨g2, hg2, _, hc2⟩ := own_addr HP.out.rowT (by omega)
              have hg2' : g2 = tb := by cases hg2; rfl
              subst hg2'
              have e1 : wd.cell? ⟨g1, i, none⟩ = some (ptr (Tb i)) := by rw [hc1 i hlt]; simp [hlt]
              have e2 : wd.cell? ⟨g2, i, none⟩ = some (ptr (Tb i)) := by rw [hc2 i hlt]; simp [hlt]
              generalize Tb i = y at e1 e2
              have hneq := neq_ptr y
              have hiN : (i : Int) < (t : Int) := by omega
              clear hc1 hc2 hg2
              go_wp2
              go_quiet (fail)
              go_wp2
              refine ⟨⟨i + 1, _, congrArg _ (by omega), by omega, rfl⟩, ?_⟩
              show t - ((i : Int) + 1).toNat < t - ((i : Int)).toNat
              omega
            · have hdl : decide ((i : Int) < (t : Int)) = false := by simp; omega
              go_wp2
              go_ret
              exact ⟨rfl, HB.out.trans ⟨rfl, rfl, rfl, Nat.le_refl _, fun _ _ => rfl⟩⟩
end Go.Proofs.Ybulkcoeq
