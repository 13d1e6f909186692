import Derived.Test.YbulkcoeqTail
import Derived.Deep.CutBlock
namespace Go.Proofs.Ybulkcoeq
open Go.RowKit
set_option linter.unusedVariables false
set_option linter.unusedSimpArgs false

theorem asked_at (sh : Option Addr) (f : Nat → Int) (S Tb : Nat → Nat) (n t i : Nat) : ((List.range t).map Tb ++ (kept (hOf sh f) n (8 - t) i).map S).length ≤ t + i := by
  have := kept_len (hOf sh f) n (8 - t) i
  simp
  omega
theorem cnt_step (h : Nat → Int) (i j : Nat) : cnt (fun x => decide (bf h x i)) (j + 1) = cnt (fun x => decide (bf h x i)) j + (if decide (bf h j i) then 1 else 0) := rfl
theorem own_form {v : World} {base e n : Nat} {x : Value} {xs : List Value} (h : v.ownsRow base e 1 x n xs) : ∃ p cap, x = .slice p n cap ∧ n ≤ cap ∧ cap ≤ 9223372036854775807 := by
  rcases h.2 with ⟨rfl, rfl⟩ | ⟨g, cap, cur, rfl, _, _, h1, h2, _⟩
  · exact ⟨none, 0, rfl, Nat.le_refl _, by omega⟩
  · exact ⟨_, cap, rfl, h1, h2⟩

set_option maxRecDepth 100000 in
set_option maxHeartbeats 16000000 in
theorem ask_mid {pa pS pT pG : Option Addr} {n t capA cS cT cG sb tb rb : Nat} {tu : Int} {shb : Bool} {S Tb : Nat → Nat} {f : Nat → Int} {sh : Option Addr} {LG : List Nat} {w wd : World}
    {y3 y4 y5 y9 y11 y16 y17 y18 y19 y20 y21 y22 y23 y24 y25 y26 y27 y28 y29 y30 y31 y32 y33 y34 y35 y36 y37 y38 y39 y40 y41 y42 y43 y44 y45 y46 y47 y48 y49 y50 y51 y52 y53 y54 y55 y56 y57 y58 y59 y60 y61 y62 y63 y64 y65 y66 y67 y68 y69 y70 y71 y72 y73 y74 y75 y76 y77 y78 y79 y80 y81 y82 y83 y84 y85 y86 y87 y88 y89 y90 y91 y92 y93 y94 y95 y96 y97 y98 y99 y100 y101 y102 y103 y104 y105 y106 y107 y108 y109 y110 y111 y112 y113 y114 y115 y116 y117 y118 y119 y120 y121 y122 y123 y124 y125 y126 y127 y128 y129 y130 y131 y132 y133 y134 y135 y136 y137 y138 y139 y140 y141 y142 y143 y144 y145 y146 y147 y148 y149 y150 y151 y152 y153 y154 y155 y156 y157 y158 y159 y160 y161 y162 y163 y164 y165 y166 y167 y168 y169 y170 y171 y172 y173 y174 y175 y176 y177 y178 y179 y180 y181 y182 y183 y184 y185 y186 y187 y188 y189 y190 y191 y192 y193 y194 y195 y196 y197 y198 y199 y200 y201 y202 y203 y204 y205 y206 y207 y208 y209 y210 y211 y212 y213 y214 y215 y216 y217 y218 y219 y220 y221 : Value}
    (ht : t ≤ 8) (hn : n ≤ 1024) (hLG : LG.length ≤ 2000) (hsh : sh.isSome = shb) (hLA : LG = asked sh f S Tb n t) (hbw : Below w.heap.size w wd) (hP : Hp n t S Tb f rb sb tb sh wd)
    (hA : 0 < n → ∃ A, pa = some A ∧ A.block < w.heap.size ∧ ∀ i, i < n → w.cell? (A.add i) = some (.int .i64 (f i)))
    (hS : wd.ownsRow 0 24 1 (.slice pS n cS) n ((List.range n).map fun k => ptr (S k))) (hT : wd.ownsRow 0 24 1 (.slice pT t cT) t ((List.range t).map fun k => ptr (Tb k))) (hG : wd.ownsRow 0 24 1 (.slice pG LG.length cG) LG.length (LG.map ptr)) :
    Code.wp Yba.prog (rights 12 (Yba.f3.body.getD .skip)) (bodyPost Yba.prog Yba.f3 fun e w' => e = .returned (.bool true) ∧ Below w.heap.size w w')
      { tmps := #[.slice pa n capA, .int .u8 tu, .bool shb, y3, y4, y5, .bool false, .int .i64 (t : Int), .slice (some ⟨sb, 0, none⟩) n n, y9, .slice (some ⟨tb, 0, none⟩) t t, y11, ptr rb, .slice pS n cS, .slice pT t cT, .slice pG LG.length cG, y16, y17, y18, y19, y20, y21, y22, y23, y24, y25, y26, y27, y28, y29, y30, y31, y32, y33, y34, y35, y36, y37, y38, y39, y40, y41, y42, y43, y44, y45, y46, y47, y48, y49, y50, y51, y52, y53, y54, y55, y56, y57, y58, y59, y60, y61, y62, y63, y64, y65, y66, y67, y68, y69, y70, y71, y72, y73, y74, y75, y76, y77, y78, y79, y80, y81, y82, y83, y84, y85, y86, y87, y88, y89, y90, y91, y92, y93, y94, y95, y96, y97, y98, y99, y100, y101, y102, y103, y104, y105, y106, y107, y108, y109, y110, y111, y112, y113, y114, y115, y116, y117, y118, y119, y120, y121, y122, y123, y124, y125, y126, y127, y128, y129, y130, y131, y132, y133, y134, y135, y136, y137, y138, y139, y140, y141, y142, y143, y144, y145, y146, y147, y148, y149, y150, y151, y152, y153, y154, y155, y156, y157, y158, y159, y160, y161, y162, y163, y164, y165, y166, y167, y168, y169, y170, y171, y172, y173, y174, y175, y176, y177, y178, y179, y180, y181, y182, y183, y184, y185, y186, y187, y188, y189, y190, y191, y192, y193, y194, y195, y196, y197, y198, y199, y200, y201, y202, y203, y204, y205, y206, y207, y208, y209, y210, y211, y212, y213, y214, y215, y216, y217, y218, y219, y220, y221], defers := [] } wd := by
  conv => arg 2; dsimp only [rights, Yba.f3, Option.getD]
  obtain ⟨i0, hii, hz0, hz1, hz2⟩ := info_parts info24
  obtain ⟨m, hm⟩ : ∃ m : Nat, m = 8 - t := ⟨_, rfl⟩
  have hmI : (8 : Int) - (t : Int) = (m : Int) := by omega
  have HHO : Hid (∀ v, Below w.heap.size w v → ∀ i, i < n → Calls Yba.prog 5 #[.slice pa n capA, .int .i64 (i : Int), .bool shb] v fun e w' => e = .returned (.int .i64 (hOf sh f i)) ∧ w' = v) := hid (fun v hv i hi => by
    have hh : hOf sh f i = if shb then f i else 0 := by unfold hOf; rw [hsh]
    rw [hh]
    refine hold_any pa n capA f shb v (fun h0 => ?_) i hi hn
    obtain ⟨A, h1, h2, h3⟩ := hA h0
    exact ⟨A, h1, fun k hk => (hv.cell (p := A.add k) (by rw [show (A.add k).block = A.block by unfold Addr.add; split <;> rfl]; exact h2)).trans (h3 k hk)⟩)
  have HP := hid hP
  have HB := hid hbw
  have HRT := hid hP.rowT
  have HLA : Hid (LG = (List.range t).map Tb ++ (kept (hOf sh f) n m n).map S) := hid (by rw [hLA]; unfold asked; rw [← hm])
  have HLEN : Hid (∀ i, ((List.range t).map Tb ++ (kept (hOf sh f) n m i).map S).length ≤ t + i) := hid (fun i => by rw [hm]; exact asked_at sh f S Tb n t i)
  have HALL := hid (And.intro hLA (And.intro hA (And.intro hS (And.intro hT (And.intro hG (And.intro hP hbw))))))
  clear hP hA hS hT hG hbw hLA hm
  go_upto_block 4 with (first
    | (at_builtin; go_must (refine wpList_append_own _ rfl _ (.tmp 84) 23 rfl wd.heap.size 24 i0 (.pointer none) 1 8 Yba.underlying23 hii hz0 hz1 hz2 rfl (by decide) _ 0 [] rfl (World.ownsRow_nil _ _ _ _) ⟨tb, 0, none⟩ t t ((List.range t).map fun k => ptr (Tb k)) rfl (by simp) (HRT.out.cells (g := tb) rfl) (fun u hu => by obtain ⟨b, _, rfl⟩ := List.mem_map.1 hu; rfl) (by unfold maxLen; omega) (by omega) (Nat.le_refl _) ?_); go_must (intro v1 w3 hown1 hg1 hnil1); go_must (have hb3 : Below wd.heap.size wd w3 := (Below.refl _ _).grown hg1 (Nat.le_refl _) (fun k hk => by cases hk)); go_must (obtain ⟨p1, c1, rfl, _, _⟩ := own_form hown1); have HO1 := hid hown1; have HB3 := hid hb3; clear hown1 hg1 hnil1 hb3))
  go_cut [17] (fun s17 v => ∃ p c, s17 = .slice p LG.length c ∧ v.ownsRow 0 24 1 (.slice p LG.length c) LG.length (LG.map ptr) ∧ Below wd.heap.size wd v)
  case first =>
    go_wp2_with fail
    go_loopw [17, 88] (fun s17 s88 v => ∃ (i : Nat) (p : Option Addr) (c : Nat), s17 = .slice p ((List.range t).map Tb ++ (kept (hOf sh f) n m i).map S).length c ∧ s88 = .int .i64 (i : Int) ∧ i ≤ n ∧ v.ownsRow wd.heap.size 24 1 (.slice p ((List.range t).map Tb ++ (kept (hOf sh f) n m i).map S).length c) ((List.range t).map Tb ++ (kept (hOf sh f) n m i).map S).length (((List.range t).map Tb ++ (kept (hOf sh f) n m i).map S).map ptr) ∧ Below wd.heap.size wd v) (fun _ s88 _ => n - (intOf s88).toNat)
    case atStart =>
      refine ⟨0, p1, c1, ?_, rfl, Nat.zero_le _, ?_, HB3.out⟩
      · simp [kept]
      · have := HO1.out
        simpa [kept, Function.comp_def] using this
    case round =>
      obtain ⟨i, p, c, rfl, rfl, hi, hown, hbr⟩ := hrel
      have hli := HLEN.out i
      have HOWN := hid hown
      have HBR := hid hbr
      have HBW := hid (HB.out.trans (hbr.mono HB.out.size))
      have hzr := hbr.size
      clear hown hbr
      by_cases hlt : i < n
      · have hdl : decide ((i : Int) < (n : Int)) = true := by simp; omega
        have HCi := hid (HHO.out wr HBW.out i hlt)
        have HPr := hid (HP.out.below HBR.out (Nat.le_refl _))
        have HKS := hid (kept_succ (hOf sh f) n m i)
        obtain ⟨L, hL⟩ : ∃ L, L = (List.range t).map Tb ++ (kept (hOf sh f) n m i).map S := ⟨_, rfl⟩
        rw [← hL] at HOWN hli ⊢
        have HL := hid hL
        clear hL
        go_wp2_with (first | (go_at_call 5; with_reducible (refine Calls.mono HCi.out ?_); rintro e w5 ⟨rfl, rfl⟩))
        obtain ⟨hv, hhv⟩ : ∃ hv, hv = hOf sh f i := ⟨_, rfl⟩
        rw [← hhv]
        have HHV := hid hhv
        clear hhv HCi
        go_loopw [20, 97] (fun s20 s97 v => ∃ (j rk : Nat), s20 = .int .i64 (rk : Int) ∧ s97 = .int .i64 (j : Int) ∧ j ≤ n ∧ rk ≤ j ∧ rk = cnt (fun x => decide (bf (hOf sh f) x i)) j ∧ v = w5) (fun _ s97 _ => n - (intOf s97).toNat)
        case atStart => exact ⟨0, 0, rfl, rfl, Nat.zero_le _, Nat.le_refl _, rfl, rfl⟩
        case round =>
          obtain ⟨j, rk, rfl, rfl, hj, hrj, hrk, rfl⟩ := hrel
          by_cases hjn : j < n
          · have hdj : decide ((j : Int) < (n : Int)) = true := by simp; omega
            have HCj := HHO.out wr HBW.out j hjn
            have hst := cnt_step (hOf sh f) i j
            rw [← hrk] at hst
            have hvi := HHV.out
            obtain ⟨hu, hhu⟩ : ∃ hu, hu = hOf sh f j := ⟨_, rfl⟩
            rw [← hhu] at HCj
            have HCJ := hid HCj
            clear HCj
            by_cases q1 : hv < hu
            · have d1 : decide (hv < hu) = true := by simp; omega
              rw [decide_eq_true (show bf (hOf sh f) j i by unfold bf; rw [← hvi, ← hhu]; exact Or.inl q1), if_pos rfl] at hst
              have HST := hid hst
              clear hst hrk hvi hhu q1
              go_wp2_with (first | (go_at_call 5; with_reducible (refine Calls.mono HCJ.out ?_); rintro e w6 ⟨rfl, rfl⟩))
              refine ⟨⟨j + 1, rk + 1, congrArg _ (by omega), congrArg _ (by omega), by omega, by omega, HST.out.symm, by trivial⟩, ?_⟩
              show n - ((j : Int) + 1).toNat < n - ((j : Int)).toNat
              omega
            · have d1 : decide (hv < hu) = false := by simp; omega
              by_cases q2 : hu = hv
              · have d2 : decide (hu = hv) = true := by simp; exact q2
                have d3 : (hu == hv) = true := by simp; exact q2
                by_cases q3 : j < i
                · have d4 : decide ((j : Int) < (i : Int)) = true := by simp; omega
                  rw [decide_eq_true (show bf (hOf sh f) j i by unfold bf; rw [← hvi, ← hhu]; exact Or.inr ⟨q2, q3⟩), if_pos rfl] at hst
                  have HST := hid hst
                  clear hst hrk hvi hhu q1 q2
                  go_wp2_with (first | (go_at_call 5; with_reducible (refine Calls.mono HCJ.out ?_); rintro e w6 ⟨rfl, rfl⟩))
                  refine ⟨⟨j + 1, rk + 1, congrArg _ (by omega), congrArg _ (by omega), by omega, by omega, HST.out.symm, by trivial⟩, ?_⟩
                  show n - ((j : Int) + 1).toNat < n - ((j : Int)).toNat
                  omega
                · have d4 : decide ((j : Int) < (i : Int)) = false := by simp; omega
                  rw [decide_eq_false (show ¬ bf (hOf sh f) j i by unfold bf; rw [← hvi, ← hhu]; omega), if_neg (by simp)] at hst
                  have HST := hid hst
                  clear hst hrk hvi hhu q1 q2
                  go_wp2_with (first | (go_at_call 5; with_reducible (refine Calls.mono HCJ.out ?_); rintro e w6 ⟨rfl, rfl⟩))
                  refine ⟨⟨j + 1, rk, rfl, congrArg _ (by omega), by omega, by omega, HST.out.symm, by trivial⟩, ?_⟩
                  show n - ((j : Int) + 1).toNat < n - ((j : Int)).toNat
                  omega
              · have d2 : decide (hu = hv) = false := by simp; exact q2
                have d3 : (hu == hv) = false := by simp; exact q2
                rw [decide_eq_false (show ¬ bf (hOf sh f) j i by unfold bf; rw [← hvi, ← hhu]; omega), if_neg (by simp)] at hst
                have HST := hid hst
                clear hst hrk hvi hhu q1 q2
                go_wp2_with (first | (go_at_call 5; with_reducible (refine Calls.mono HCJ.out ?_); rintro e w6 ⟨rfl, rfl⟩))
                refine ⟨⟨j + 1, rk, rfl, congrArg _ (by omega), by omega, by omega, HST.out.symm, by trivial⟩, ?_⟩
                show n - ((j : Int) + 1).toNat < n - ((j : Int)).toNat
                omega
          · have hdj : decide ((j : Int) < (n : Int)) = false := by simp; omega
            obtain rfl : j = n := by omega
            have hdj2 : decide ((j : Int) < (j : Int)) = false := by simp
            have hrk2 : rk = rank (hOf sh f) j i := hrk
            have HRK := hid hrk2
            clear hrk hrk2
            by_cases hkp : rk < m
            · have hdp : decide ((rk : Int) < (m : Int)) = true := by simp; omega
              obtain ⟨g2, hg2, _, hc2⟩ := own_addr HPr.out.rowS (by omega)
              have hg2' : g2 = sb := by cases hg2; rfl
              subst hg2'
              have e2 : wr.cell? ⟨g2, i, none⟩ = some (ptr (S i)) := by rw [hc2 i hlt]; simp [hlt]
              obtain ⟨y, hy⟩ : ∃ y, y = S i := ⟨_, rfl⟩
              rw [← hy] at e2
              have HY := hid hy
              have hiN : (i : Int) < (j : Int) := by omega
              clear hy hc2 hg2
              go_wp2_with (first
                | (at_builtin; go_must (refine wpList_append_own _ rfl _ _ 23 rfl wd.heap.size 24 i0 (.pointer none) 1 8 Yba.underlying23 hii hz0 hz1 hz2 rfl (by decide) _ _ _ rfl (HOWN.out.alloc _) ⟨wr.heap.size, 0, none⟩ 1 1 [ptr y] rfl rfl (one_ptr _ _ _) (fun u hu => by simp at hu; subst hu; rfl) (by unfold maxLen; omega) (by omega) (by simp; omega) ?_); go_must (intro v' w7 hown7 hg7 hnil7); go_must (obtain ⟨p7, c7, rfl, _, _⟩ := own_form hown7); go_must (have hb7 := hid (((HBR.out.alloc hzr _).grown hg7 (by simp; omega) (fun q hq => (HOWN.out.lt q hq).1)))); have HO7 := hid hown7; clear hown7 hg7 hnil7))
              have hks := HKS.out
              rw [if_pos (by rw [← HRK.out]; exact hkp)] at hks
              have hLL : (List.range t).map Tb ++ (kept (hOf sh f) j m (i + 1)).map S = L ++ [y] := by rw [hks, List.map_append, ← List.append_assoc, ← HL.out, HY.out]; rfl
              refine ⟨⟨i + 1, p7, c7, ?_, congrArg _ (by omega), by omega, ?_, hb7.out⟩, ?_⟩
              · rw [hLL]; simp
              · rw [hLL]
                have := HO7.out
                simpa using this
              · show j - ((i : Int) + 1).toNat < j - ((i : Int)).toNat
                omega
            · have hdp : decide ((rk : Int) < (m : Int)) = false := by simp; omega
              go_wp2
              have hks := HKS.out
              rw [if_neg (by rw [← HRK.out]; exact hkp), List.append_nil] at hks
              have hLL : (List.range t).map Tb ++ (kept (hOf sh f) j m (i + 1)).map S = L := by rw [hks, ← HL.out]
              refine ⟨⟨i + 1, p, c, by rw [hLL], congrArg _ (by omega), by omega, by rw [hLL]; exact HOWN.out, HBR.out⟩, ?_⟩
              show j - ((i : Int) + 1).toNat < j - ((i : Int)).toNat
              omega
      · have hdl : decide ((i : Int) < (n : Int)) = false := by simp; omega
        obtain rfl : i = n := by omega
        go_wp2
        go_meet
        rw [HLA.out]
        exact ⟨p, c, rfl, own_base HOWN.out, HBR.out⟩
  case rest =>
    generalize wc = wx at *
    obtain ⟨pW, cW, rfl, hW, hbx⟩ := hcut
    obtain ⟨hLA, hA, hS, hT, hG, hP, hbw⟩ := HALL.out
    rename ∀ (a : Act) (w : World), Code.wp Yba.prog _ _ a w → _ => hK
    refine hK _ _ ?_
    exact ask_tail ht hn hLG hsh hLA (hbw.trans (hbx.mono hbw.size)) (hP.below hbx (Nat.le_refl _)) hA (own_below hS hbx (Nat.le_refl _)) (own_below hT hbx (Nat.le_refl _)) (own_below hG hbx (Nat.le_refl _)) hW
end Go.Proofs.Ybulkcoeq
