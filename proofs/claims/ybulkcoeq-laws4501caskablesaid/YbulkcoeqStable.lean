import Derived.Test.YbulkcoeqSym
namespace Go.Proofs.Ybulkcoeq
open Go.RowKit
set_option linter.unusedVariables false
set_option linter.unusedSimpArgs false

/-- The block of T places from A holds its own senders, in order. -/
def Blk (h : Nat → Int) (n A T : Nat) (d : Nat → Nat) : Prop := (∀ k, A ≤ k → k < A + T → k < n → A ≤ d k ∧ d k < A + T ∧ d k < n) ∧ Srt h A (min (A + T) n) d
/-- A row of the n senders, in some order. -/
def Per (n : Nat) (d : Nat → Nat) : Prop := Sws 0 n (fun k => k) d
theorem Per.sws {n a b : Nat} {d d' : Nat → Nat} (h : Per n d) (hs : Sws a b d d') (hb : b ≤ n) : Per n d' := Sws.trans h (hs.mono (Nat.zero_le _) hb)
def BS (h : Nat → Int) (n s : Nat) (d : Nat → Nat) : Prop := Per n d ∧ ∀ c, Blk h n (c * s) s d

theorem Blk.congr {h : Nat → Int} {n A T : Nat} {d d' : Nat → Nat} (hb : Blk h n A T d) (he : ∀ k, A ≤ k → k < A + T → k < n → d' k = d k) : Blk h n A T d' :=
  ⟨fun k q1 q2 q3 => by rw [he k q1 q2 q3]; exact hb.1 k q1 q2 q3, hb.2.congr fun k q1 q2 => he k q1 (by omega) (by omega)⟩
theorem Blk.beyond {h : Nat → Int} {n A T : Nat} {d : Nat → Nat} (hn : n ≤ A) : Blk h n A T d := ⟨fun k q1 q2 q3 => by omega, fun i j q1 q2 q3 => by omega⟩
theorem ins_step {h : Nat → Int} {n A T B : Nat} {d d' : Nat → Nat} (hB : B = min (A + T) n) (hid : ∀ k, A ≤ k → k < n → d k = k) (hs : Sws A B d d') (ht : Srt h A B d') : Blk h n A T d' := by
  refine ⟨fun k q1 q2 q3 => ?_, by rw [← hB]; exact ht⟩
  obtain ⟨k', e1, e2, e3⟩ := hs.from k q1 (by omega)
  rw [e3, hid k' e1 (by omega)]
  omega
theorem mrg_step {h : Nat → Int} {n A s B : Nat} {d d' : Nat → Nat} (hB : B = min (A + 2 * s) n) (h1 : Blk h n A s d) (h2 : Blk h n (A + s) s d) (hs : Sws A B d d') (ht : Srt h A B d') : Blk h n A (2 * s) d' := by
  refine ⟨fun k q1 q2 q3 => ?_, by rw [← hB]; exact ht⟩
  obtain ⟨k', e1, e2, e3⟩ := hs.from k q1 (by omega)
  rw [e3]
  by_cases c : k' < A + s
  · have := h1.1 k' e1 c (by omega); omega
  · have := h2.1 k' (by omega) (by omega) (by omega); omega
theorem mrg_crs {h : Nat → Int} {n A s B : Nat} {d : Nat → Nat} (hB : B = min (A + 2 * s) n) (h1 : Blk h n A s d) (h2 : Blk h n (A + s) s d) : Crs A (A + s) B d := by
  intro i j q1 q2 q3 q4
  have a1 := h1.1 i q1 q2 (by omega)
  have a2 := h2.1 j q3 (by omega) (by omega)
  omega
theorem mrg_alone {h : Nat → Int} {n A s : Nat} {d : Nat → Nat} (hn : n ≤ A + s) (h1 : Blk h n A s d) : Blk h n A (2 * s) d :=
  ⟨fun k q1 q2 q3 => by have := h1.1 k q1 (by omega) q3; omega, fun i j q1 q2 q3 => h1.2 i j q1 q2 (by omega)⟩
theorem two_mul_s (c s : Nat) : (2 * c) * s = c * (2 * s) := by rw [Nat.mul_comm 2 c, Nat.mul_assoc]
theorem two_mul_s1 (c s : Nat) : (2 * c + 1) * s = c * (2 * s) + s := by rw [Nat.add_mul, two_mul_s, Nat.one_mul]

set_option maxRecDepth 100000 in
set_option maxHeartbeats 8000000 in
theorem stable_any {w0 : World} {blk n : Nat} {enc : Nat → Value} {h : Nat → Int} {sf : Nat} {l0 l1 s0 s1 : Value} (E : Env w0 blk n enc h sf l0 l1 s0 s1) (W : World) (hR : Row w0 blk n enc (fun k => k) W) :
    Calls Yba.prog 12 #[dat sf l0 l1 s0 s1, .int .i64 (n : Int)] W fun e w' => e = .returned (.tuple #[]) ∧ (∃ d', Per n d' ∧ (∀ k, k < n → d' k < n) ∧ Srt h 0 n d' ∧ Row w0 blk n enc d' w') ∧ Only blk W w' := by
  have hblt := hR.ic.lt
  have HE := hid E
  have hsm := E.small
  have HR := hid hR
  clear E hR
  go_enter Yba.func12, Yba.ntmps12
  go_wp2_with fail
  go_loopw [5, 6] (fun s5 s6 v => ∃ (c A B : Nat) (dd : Nat → Nat), s5 = .int .i64 (A : Int) ∧ s6 = .int .i64 (B : Int) ∧ (A = c * 20 ∧ B = A + 20) ∧ A ≤ n ∧ Row w0 blk n enc dd v ∧ Only blk (W.alloc (boxed sf l0 l1 s0 s1)) v ∧ Per n dd ∧ (∀ k, A ≤ k → k < n → dd k = k) ∧ ∀ e, e < c → Blk h n (e * 20) 20 dd) (fun s5 s6 _ => n - (intOf s5).toNat + (n + 20 - (intOf s6).toNat))
  case atStart => exact ⟨0, 0, 20, fun k => k, rfl, rfl, ⟨rfl, rfl⟩, Nat.zero_le _, HR.out.alloc _, Only.refl _ _, Sws.refl, fun _ _ _ => rfl, fun e he => by omega⟩
  case round =>
    obtain ⟨c, A, B, dd, rfl, rfl, hAB, hAn, hRow, hOn, hInj, hId, hBl⟩ := hrel
    obtain ⟨b0, b1⟩ := box_cells sf l0 l1 s0 s1 W wr blk hblt hOn
    have HRow := hid hRow
    have HOn := hid hOn
    have HInj := hid hInj
    have HId := hid hId
    have HBl := hid hBl
    have HAB := hid hAB
    clear hRow hOn hInj hId hBl hAB
    by_cases hle : B ≤ n
    · have hdl : decide ((B : Int) ≤ (n : Int)) = true := by simp; omega
      have HC := hid (insertionSort_any HE.out A B (by have := HAB.out; omega) hle dd (fun p q q1 q2 q3 => by have := HAB.out; rw [HId.out p (by omega) (by omega), HId.out q (by omega) (by omega)]; exact q2) wr HRow.out)
      go_wp2_with (first | (go_at_call 24; with_reducible (refine Calls.mono HC.out ?_); rintro e w2 ⟨rfl, ⟨d', g1, g2, g3⟩, ho2⟩))
      obtain ⟨hA, hB⟩ := HAB.out
      refine ⟨⟨c + 1, B, B + 20, d', rfl, congrArg _ (by omega), ⟨by omega, rfl⟩, hle, g3, HOn.out.trans ho2, Per.sws HInj.out g1 hle, fun k q1 q2 => by rw [g1.out k (by omega)]; exact HId.out k (by omega) q2, fun e he => ?_⟩, ?_⟩
      · rcases Nat.lt_or_ge e c with q | q
        · exact (HBl.out e q).congr fun k q1 q2 q3 => g1.out k (by omega)
        · have he' : e = c := by omega
          subst he'
          rw [← hA]
          exact ins_step (by omega) HId.out g1 g2
      · show n - ((B : Int)).toNat + (n + 20 - ((B : Int) + 20).toNat) < n - ((A : Int)).toNat + (n + 20 - ((B : Int)).toNat)
        omega
    · have hdl : decide ((B : Int) ≤ (n : Int)) = false := by simp; omega
      have HC := hid (insertionSort_any HE.out A n hAn (Nat.le_refl _) dd (fun p q q1 q2 q3 => by rw [HId.out p (by omega) (by omega), HId.out q (by omega) (by omega)]; exact q2) wr HRow.out)
      have HBSF : Hid (∀ d', Sws A n dd d' → Srt h A n d' → BS h n 20 d') := hid (fun d' g1 g2 => ⟨Per.sws HInj.out g1 (Nat.le_refl _), fun e => by
          obtain ⟨hA, hB⟩ := HAB.out
          rcases Nat.lt_trichotomy e c with q | q | q
          · exact (HBl.out e q).congr fun k q1 q2 q3 => g1.out k (by omega)
          · subst q
            rw [← hA]
            exact ins_step (by omega) HId.out g1 g2
          · exact Blk.beyond (by omega)⟩)
      go_wp2_with (first | (go_at_call 24; with_reducible (refine Calls.mono HC.out ?_); rintro e w2 ⟨rfl, ⟨d', g1, g2, g3⟩, ho2⟩; have HBS := hid (HBSF.out d' g1 g2); have HR2 := hid g3; have HO2 := hid (HOn.out.trans ho2); clear g1 g2 g3 ho2))
      clear b0 b1
      go_loopw [4] (fun s4 v => ∃ (s : Nat) (d : Nat → Nat), s4 = .int .i64 (s : Int) ∧ 20 ≤ s ∧ s ≤ 4000 ∧ BS h n s d ∧ Row w0 blk n enc d v ∧ Only blk (W.alloc (boxed sf l0 l1 s0 s1)) v) (fun s4 _ => n - (intOf s4).toNat)
      case atStart => exact ⟨20, d', rfl, by omega, by omega, HBS.out, HR2.out, HO2.out⟩
      case round =>
        clear HBS HR2 HO2 HRow HOn HInj HId HBl HAB HC HBSF
        obtain ⟨s, d, rfl, hs20, hs4, hBS, hRow, hOn⟩ := hrel
        have HBS := hid hBS
        have HRow := hid hRow
        have HOn := hid hOn
        clear hBS hRow hOn
        by_cases hsn : s < n
        · have hds : decide ((s : Int) < (n : Int)) = true := by simp; omega
          obtain ⟨T, hT⟩ : ∃ T, T = 2 * s := ⟨_, rfl⟩
          have hTI : 2 * (s : Int) = (T : Int) := by omega
          have hTI2 : (s : Int) * 2 = (T : Int) := by omega
          have HT := hid hT
          have hTb : T ≤ 8000 := by omega
          clear hT
          go_wp2_with fail
          go_loopw [5, 6] (fun s5 s6 v => ∃ (c A B : Nat) (dd : Nat → Nat), s5 = .int .i64 (A : Int) ∧ s6 = .int .i64 (B : Int) ∧ (A = c * T ∧ B = A + T) ∧ A ≤ n ∧ Row w0 blk n enc dd v ∧ Only blk (W.alloc (boxed sf l0 l1 s0 s1)) v ∧ Per n dd ∧ (∀ k, A ≤ k → k < n → dd k = d k) ∧ ∀ e, e < c → Blk h n (e * T) T dd) (fun s5 s6 _ => n - (intOf s5).toNat + (n + T - (intOf s6).toNat))
          case atStart => exact ⟨0, 0, T, d, rfl, rfl, ⟨by rw [Nat.zero_mul], by rw [Nat.zero_add]⟩, Nat.zero_le _, HRow.out, HOn.out, HBS.out.1, fun _ _ _ => rfl, fun e he => by omega⟩
          case round =>
            obtain ⟨c, A, B, dd, rfl, rfl, hAB, hAn, hRr, hOr, hIr, hEr, hBr⟩ := hrel
            obtain ⟨b0, b1⟩ := box_cells sf l0 l1 s0 s1 W wr blk hblt hOr
            have HRr := hid hRr
            have HOr := hid hOr
            have HIr := hid hIr
            have HEr := hid hEr
            have HBr := hid hBr
            have HAB := hid hAB
            have HLB : Hid (Blk h n A s dd ∧ Blk h n (A + s) s dd) := hid (by
              have e1 := HBS.out.2 (2 * c)
              have e2 := HBS.out.2 (2 * c + 1)
              rw [two_mul_s, ← HT.out, ← hAB.1] at e1
              rw [two_mul_s1, ← HT.out, ← hAB.1] at e2
              exact ⟨e1.congr fun k q1 q2 q3 => hEr k q1 q3, e2.congr fun k q1 q2 q3 => hEr k (by omega) q3⟩)
            have hm : ∃ m : Nat, m = A + s := ⟨_, rfl⟩
            obtain ⟨m, hm⟩ := hm
            have hmI : (A : Int) + (s : Int) = (m : Int) := by omega
            have HM := hid hm
            clear hRr hOr hIr hEr hBr hAB hm
            by_cases hle2 : B ≤ n
            · have hdl2 : decide ((B : Int) ≤ (n : Int)) = true := by simp; omega
              have HC := hid (by
                have := HAB.out; have := HT.out; have := HM.out
                refine symMerge_any HE.out (B - A) A m B (Nat.le_refl _) (by omega) (by omega) hle2 dd ?_ ?_ ?_ wr HRr.out
                · intro i j q1 q2 q3; exact HLB.out.1.2 i j q1 q2 (by omega)
                · intro i j q1 q2 q3; exact HLB.out.2.2 i j (by omega) q2 (by omega)
                · rw [HM.out]; exact mrg_crs (by omega) HLB.out.1 HLB.out.2)
              go_wp2_with (first | (go_at_call 25; go_must (with_reducible (refine Calls.mono HC.out ?_)); go_must (intro e w2 hM); go_must (obtain ⟨he, ⟨d2, g1, g2, g3⟩, ho2⟩ := hM); subst he))
              obtain ⟨hA, hB⟩ := HAB.out
              have hT := HT.out
              refine ⟨⟨c + 1, B, B + T, d2, rfl, congrArg _ (by omega), ⟨by rw [Nat.add_mul, Nat.one_mul]; omega, rfl⟩, hle2, g3, HOr.out.trans ho2, Per.sws HIr.out g1 hle2, fun k q1 q2 => by rw [g1.out k (by omega)]; exact HEr.out k (by omega) q2, fun e he => ?_⟩, ?_⟩
              · rcases Nat.lt_or_ge e c with q | q
                · have hle3 : e * T + T ≤ A := by
                    rw [hA, show e * T + T = (e + 1) * T by rw [Nat.add_mul, Nat.one_mul]]
                    exact Nat.mul_le_mul_right _ (by omega)
                  exact (HBr.out e q).congr fun k q1 q2 q3 => g1.out k (by omega)
                · have he' : e = c := by omega
                  subst he'
                  rw [← hA, hT]
                  exact mrg_step (by omega) HLB.out.1 HLB.out.2 g1 g2
              · show n - ((B : Int)).toNat + (n + T - ((B : Int) + (T : Int)).toNat) < n - ((A : Int)).toNat + (n + T - ((B : Int)).toNat)
                omega
            · have hdl2 : decide ((B : Int) ≤ (n : Int)) = false := by simp; omega
              have HBT : Hid (∀ d2, Per n d2 → (∀ k, k < A → d2 k = dd k) → Blk h n A (2 * s) d2 → BS h n T d2) := hid (fun d2 i1 i2 i3 => ⟨i1, fun e => by
                obtain ⟨hA, hB⟩ := HAB.out
                have hT := HT.out
                rcases Nat.lt_trichotomy e c with q | q | q
                · have hle3 : e * T + T ≤ A := by
                    rw [hA, show e * T + T = (e + 1) * T by rw [Nat.add_mul, Nat.one_mul]]
                    exact Nat.mul_le_mul_right _ (by omega)
                  exact (HBr.out e q).congr fun k q1 q2 q3 => i2 k (by omega)
                · subst q
                  rw [← hA, hT]
                  exact i3
                · have hle3 : A + T ≤ e * T := by
                    rw [hA, show c * T + T = (c + 1) * T by rw [Nat.add_mul, Nat.one_mul]]
                    exact Nat.mul_le_mul_right _ (by omega)
                  exact Blk.beyond (by omega)⟩)
              by_cases hmn : m < n
              · have hdm : decide ((m : Int) < (n : Int)) = true := by simp; omega
                have HC := hid (by
                  have := HAB.out; have := HT.out; have := HM.out
                  refine symMerge_any HE.out (n - A) A m n (Nat.le_refl _) (by omega) hmn (Nat.le_refl _) dd ?_ ?_ ?_ wr HRr.out
                  · intro i j q1 q2 q3; exact HLB.out.1.2 i j q1 q2 (by omega)
                  · intro i j q1 q2 q3; exact HLB.out.2.2 i j (by omega) q2 (by omega)
                  · rw [HM.out]; exact mrg_crs (by omega) HLB.out.1 HLB.out.2)
                go_wp2_with (first | (go_at_call 25; go_must (with_reducible (refine Calls.mono HC.out ?_)); go_must (intro e w2 hM); go_must (obtain ⟨he, ⟨d2, g1, g2, g3⟩, ho2⟩ := hM); subst he))
                obtain ⟨hA, hB⟩ := HAB.out
                have hT := HT.out
                refine ⟨⟨T, d2, rfl, by omega, by omega, HBT.out d2 (Per.sws HIr.out g1 (Nat.le_refl _)) (fun k q => g1.out k (by omega)) (mrg_step (by omega) HLB.out.1 HLB.out.2 g1 g2), g3, HOr.out.trans ho2⟩, ?_⟩
                show n - ((T : Int)).toNat < n - ((s : Int)).toNat
                omega
              · have hdm : decide ((m : Int) < (n : Int)) = false := by simp; omega
                go_wp2
                have hT := HT.out
                refine ⟨⟨T, dd, rfl, by omega, by omega, HBT.out dd HIr.out (fun k q => rfl) (mrg_alone (by have := HM.out; omega) HLB.out.1), HRr.out, HOr.out⟩, ?_⟩
                show n - ((T : Int)).toNat < n - ((s : Int)).toNat
                omega
        · have hds : decide ((s : Int) < (n : Int)) = false := by simp; omega
          go_wp2
          go_end0
          have e0 := HBS.out.2 0
          rw [Nat.zero_mul] at e0
          refine ⟨rfl, ⟨d, HBS.out.1, fun k hk => (e0.1 k (by omega) (by omega) hk).2.2, fun i j q1 q2 q3 => e0.2 i j q1 q2 (by omega), HRow.out⟩, ((Only.refl _ _).alloc _).trans HOn.out⟩
end Go.Proofs.Ybulkcoeq
