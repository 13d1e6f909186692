import Derived.Test.YbulkcntiFreeMid
import Derived.Deep.CutBlock
import Derived.Deep.DeepCutAuto
import Derived.Deep.Cut
namespace Go.Proofs.Ybulkcnti
open Go.RowKit
set_option linter.unusedVariables false
set_option linter.unusedSimpArgs false

set_option maxRecDepth 100000 in
set_option maxHeartbeats 16000000 in
theorem free_walk (a0 : Option Addr) (len0 cap0 k : Nat) (x : Nat → Nat) (a1 : Bool) (a2 a3 : Int) (w : World) (hk8 : k ≤ 8) (hkl : (k = len0 ∧ len0 ≤ 8) ∨ (k = 8 ∧ 8 < len0)) (hlm : len0 ≤ 9223372036854775807)
    (hrow : 0 < k → ∃ A, a0 = some A ∧ A.block < w.heap.size ∧ ∀ i, i < k → w.cell? (A.add i) = some (.int .u8 (x i : Int)) ∧ x i ≤ 255)
    (h20 : 0 ≤ a2) (h21 : a2 ≤ 65535) (h30 : 0 ≤ a3) (h31 : a3 ≤ 65535) :
    Calls Yba.prog 4 #[.slice a0 len0 cap0, .bool a1, .int .u16 a2, .int .u16 a3] w fun e w' => e = .returned (.bool true) ∧ Below w.heap.size w w' := by
  obtain ⟨i0, hi, hz0, hz1, hz2⟩ := info_parts info5
  have hby : i0.bytes * 2048 ≤ 281474976710656 := by rw [hz2]; omega
  have HROW := hid hrow
  clear hrow
  have HKL := hid hkl
  clear hkl
  go_enter Yba.func4, Yba.ntmps4
  go_upto_if 39 with fail
  go_cut [9] (fun s9 wx => s9 = .int .i64 (k : Int) ∧ wx = w)
  case first =>
    rcases HKL.out with ⟨rfl, h1⟩ | ⟨rfl, h1⟩
    · have hd : decide ((8 : Int) < (k : Int)) = false := by simp; omega
      go_wp2
      go_meet
      exact ⟨rfl, rfl⟩
    · have hd : decide ((8 : Int) < (len0 : Int)) = true := by simp; omega
      go_wp2
      go_meet
      exact ⟨rfl, rfl⟩
  case rest =>
  obtain ⟨rfl, hw⟩ := hcut
  obtain rfl := hw.symm
  clear hw
  go_upto_if 41 with (first | (at_make; refine wpList_make_full _ rfl (.const (.int .i64 2048)) (.const (.int .i64 2048)) 23 rfl w.heap.size 5 i0 (.int .u8 0) 1 Yba.underlying23 hi hz0 hz1 .i64 .i64 _ _ 2048 rfl rfl rfl rfl hby (by unfold maxLen; omega) (Nat.le_refl _) ?_; intro w1 ho1 hg1; obtain ⟨hp1, hb1⟩ := made_pg ho1 hg1 (by omega) (by omega); clear ho1 hg1))
  go_cut [12] (fun s12 wx => ∃ (ko : Nat) (kind : Int) (P : List Int), s12 = .int .i64 (ko : Int) ∧ (ko = 9 ∨ ko = 17) ∧ (if kind = 1 then 17 else 9 : Int) = (ko : Int) ∧ P.getD 0 0 = kind ∧ get2 P 12 = 2 ∧ get2 P 8 = 0 ∧ TS w w.heap.size w1.heap.size 2048 P wx)
  case first =>
    cases a1
    · have HNEW := hid (fun W (h : Pg W w.heap.size 2048 2048 (List.replicate 2048 0)) => NewLeaf_any w.heap.size 2048 2048 _ W h)
      obtain ⟨f6, f4, f12, f8, f10, f0⟩ := page0_facts 2048 (List.replicate 2048 0) 1 0 (by omega) (by simp)
      have H0 := hid f0
      have H12 := hid f12
      have H8 := hid f8
      clear f6 f4 f12 f8 f10 f0
      go_wp2_with (first | (go_at_call 6; with_reducible (refine Calls.mono (made_ts hp1 hb1 (Nat.le_refl _) HNEW.out) ?_); rintro e w3 ⟨rfl, hc3, hz3, hl3, hT3⟩))
      go_meet
      exact ⟨17, 1, _, rfl, Or.inr rfl, rfl, H0.out, H12.out, H8.out, hT3⟩
    · have HNEW := hid (fun W (h : Pg W w.heap.size 2048 2048 (List.replicate 2048 0)) => NewBranch_any w.heap.size 2048 2048 _ W h)
      obtain ⟨f6, f4, f12, f8, f10, f0⟩ := page0_facts 2048 (List.replicate 2048 0) 2 1 (by omega) (by simp)
      have H0 := hid f0
      have H12 := hid f12
      have H8 := hid f8
      clear f6 f4 f12 f8 f10 f0
      go_wp2_with (first | (go_at_call 5; with_reducible (refine Calls.mono (made_ts hp1 hb1 (Nat.le_refl _) HNEW.out) ?_); rintro e w3 ⟨rfl, hc3, hz3, hl3, hT3⟩))
      go_meet
      exact ⟨9, 2, _, rfl, Or.inl rfl, rfl, H0.out, H12.out, H8.out, hT3⟩
  case rest =>
  generalize wc = wa at *
  obtain ⟨ko, kind, P, rfl, hko, hkind, hP0, hP12, hP8, hT⟩ := hcut
  have hFA := FA.start (n := 0) hT
  have hko0 : 9 ≤ ko := by omega
  have hko1 : ko ≤ 17 := by omega
  have hst : Rec ko x 0 kind (fun _ => 0) (fun _ => 0) P := ⟨hP0, hP12, hP8, fun j h => by omega, fun j h => by omega, fun j h => by omega, fun j h => by omega, fun j h => by omega⟩
  have HFA := hid hFA
  have HST := hid hst
  have HKIND := hid hkind
  have hP := hT.pg.len
  clear hFA hst hT hkind hP0 hP12 hP8 hp1 hb1 hP
  go_upto_block 0 with fail
  go_cut [15, 16, 17] (fun s15 s16 s17 v => ∃ (f g : Nat → Int) (l : List Int), s15 = .int .i64 (atOf ko x k : Int) ∧ s16 = .int .i64 ((atOf ko x k : Int) - 32) ∧ FA w w.heap.size w1.heap.size wa.heap.size (wa.heap.size + 1) f g l v ∧ Rec ko x k kind f g l)
  case first =>
    go_wp2_with fail
    go_loopw [15, 16, 17] (fun s15 s16 s17 wr => ∃ (i : Nat) (f g : Nat → Int) (l : List Int), i ≤ k ∧ s15 = .int .i64 (atOf ko x i : Int) ∧ s16 = .int .i64 ((atOf ko x i : Int) - 32) ∧ s17 = .int .i64 (i : Int) ∧ FA w w.heap.size w1.heap.size wa.heap.size (wa.heap.size + 1) f g l wr ∧ Rec ko x i kind f g l) (fun _ _ s17 _ => k - (intOf s17).toNat)
    case atStart => exact ⟨0, _, _, P, Nat.zero_le _, rfl, rfl, rfl, HFA.out, HST.out⟩
    case round =>
      obtain ⟨i, f, g, l, hik, rfl, rfl, rfl, hFA, hRec⟩ := hrel
      have hat0 := atOf_lo ko x i
      have hat1 := atOf_hi hko x i
      have hl2048 := hFA.ts.pg.len
      by_cases hlt : i < k
      · obtain ⟨A, rfl, hAb, hA⟩ := HROW.out (by omega)
        obtain ⟨p0, hx255⟩ := hA i hlt
        have p1 := (hFA.ts.below.cell (p := A.add i) (by rw [show (A.add i).block = A.block by unfold Addr.add; split <;> rfl]; exact hAb)).trans p0
        obtain ⟨xv, hxv⟩ : ∃ xv, xv = x i := ⟨_, rfl⟩
        rw [← hxv] at p1 hx255
        obtain ⟨kl, hkl⟩ : ∃ kl, kl = xv % 32 := ⟨_, rfl⟩
        obtain ⟨vl, hvl⟩ : ∃ vl, vl = xv / 8 % 32 := ⟨_, rfl⟩
        have hkl' : (xv : Int) % 32 = (kl : Int) := by omega
        have hvl' : (xv : Int) / 8 % 32 = (vl : Int) := by omega
        have hszv : szOf ko (x i) = ko + kl + vl := by rw [← hxv, hkl, hvl]; rfl
        have hkl31 : kl ≤ 31 := by omega
        have hvl31 : vl ≤ 31 := by omega
        have hx1 : (xv : Int) ≤ 255 := by omega
        have hdl : decide ((i : Int) < (k : Int)) = true := by simp; omega
        have hi8 : i < 8 := by omega
        have hF3 := ((hFA.setO i hi8 (atOf ko x i : Int)).setS i hi8 ((ko : Int) + (kl : Int) + (vl : Int))).setB (atOf ko x i) (by omega) 90 (by omega)
        have hRn := fun l' => hRec.next (f' := fun j => if j = i then (atOf ko x i : Int) else f j) (g' := fun j => if j = i then (szOf ko (x i) : Int) else g j) (l' := l') hko hi8 hl2048.symm rfl rfl
        have hhead : headed ko x i l = put (put (put (l.set (atOf ko x i) 90) (atOf ko x i + 1) (2 + (i : Int))) (atOf ko x i + 5) (kl : Int)) (atOf ko x i + 7) (vl : Int) := by unfold headed; rw [← hxv, ← hkl, ← hvl]
        have hgs : ((ko : Int) + (kl : Int) + (vl : Int)) = (szOf ko (x i) : Int) := by rw [hszv]; omega
        have hatn : atOf ko x (i + 1) = atOf ko x i + (ko + kl + vl) := by rw [atOf, hszv]
        have HF3 := hid hF3
        have HRN := hid hRn
        have HHEAD := hid hhead
        have HGS := hid hgs
        have HATN := hid hatn
        have HX := hid hxv
        have zo := hFA.io.frozen
        have zs := hFA.is.frozen
        have zb := hFA.ts.pg.buf.ic.frozen
        have co := hFA.oc i hi8
        have cs := hFA.sc i hi8
        have cb := hFA.ts.pg.buf.cell (atOf ko x i) (by omega)
        generalize f i = fi at co
        generalize g i = gi at cs
        generalize l[atOf ko x i]'(by omega) = li at cb
        have n1 := hFA.ob_b
        have n2 := hFA.sb_b
        have n3 := hFA.ob_sb
        have bl1 := hFA.io.lt
        have bl2 := hFA.is.lt
        have bl3 := hFA.ts.pg.buf.ic.lt
        have hiN : (i : Int) < 8 := by omega
        have hiL : (i : Int) < (len0 : Int) := by rcases HKL.out with h | h <;> omega
        have hatN : (atOf ko x i : Int) < 2048 := by omega
        have hatP : (0 : Int) ≤ (atOf ko x i : Int) := by omega
        have hat664 : atOf ko x i ≤ 664 := by omega
        clear hF3 hRn hhead hgs hatn hszv hxv hkl hvl hA p0 hFA hRec hko hl2048 hat1
        generalize atOf ko x i = t at *
        have HZ1 := hid (fun W m (h : Pg W w.heap.size 2048 2048 m) => zzput16_any w.heap.size 2048 2048 (t + 1) ((t : Int) + 1) (2 + (i : Int)) m W (by omega) h (by omega) (by omega) (by omega))
        have HZ5 := hid (fun W m (h : Pg W w.heap.size 2048 2048 m) => zzput16_any w.heap.size 2048 2048 (t + 5) ((t : Int) + 5) (kl : Int) m W (by omega) h (by omega) (by omega) (by omega))
        have HZ7 := hid (fun W m (h : Pg W w.heap.size 2048 2048 m) => zzput16_any w.heap.size 2048 2048 (t + 7) ((t : Int) + 7) (vl : Int) m W (by omega) h (by omega) (by omega) (by omega))
        go_wp2_with (first | (go_at_call 10; with_reducible (refine Calls.mono (HZ1.out _ _ HF3.out.ts.pg) ?_); rintro e v1 ⟨rfl, ho1, hp1⟩; have hG1 := HF3.out.wrote ho1 hp1) | (go_at_call 10; with_reducible (refine Calls.mono (HZ5.out _ _ hp1) ?_); rintro e v2 ⟨rfl, ho2, hp2⟩; have hG2 := hG1.wrote ho2 hp2) | (go_at_call 10; with_reducible (refine Calls.mono (HZ7.out _ _ hp2) ?_); rintro e v3 ⟨rfl, ho3, hp3⟩; have hG3 := hG2.wrote ho3 hp3))
        go_loopw [21] (fun s21 v => ∃ (j : Nat) (l2 : List Int), s21 = .int .i64 (j : Int) ∧ t + ko ≤ j ∧ j ≤ t + ko + kl + vl ∧ FA w w.heap.size w1.heap.size wa.heap.size (wa.heap.size + 1) (fun j => if j = i then (t : Int) else f j) (fun j => if j = i then ((ko : Int) + (kl : Int) + (vl : Int)) else g j) l2 v ∧ ∀ q, q < t + ko → l2.getD q 0 = (put (put (put (l.set t 90) (t + 1) (2 + (i : Int))) (t + 5) (kl : Int)) (t + 7) (vl : Int)).getD q 0) (fun s21 _ => t + ko + kl + vl - (intOf s21).toNat)
        case atStart => exact ⟨t + ko, _, congrArg _ (by omega), Nat.le_refl _, by omega, hG3, fun _ _ => rfl⟩
        case round =>
          obtain ⟨j, l2, rfl, hj0, hj1, hF, hag⟩ := hrel
          by_cases hjl : j < t + ko + kl + vl
          · have hdj : decide ((j : Int) < (t : Int) + ((ko : Int) + (kl : Int) + (vl : Int))) = true := by simp; omega
            have hl2 := hF.ts.pg.len
            have cb2 := hF.ts.pg.buf.cell j (by omega)
            generalize l2[j]'(by omega) = lj at cb2
            have zb2 := hF.ts.pg.buf.ic.frozen
            have bl5 := hF.ts.pg.buf.ic.lt
            have hjN : (j : Int) < 2048 := by omega
            have HF5 := hid (hF.setB j (by omega) 171 (by omega))
            clear hl2
            go_wp2
            refine ⟨⟨j + 1, _, congrArg _ (by omega), by omega, by omega, HF5.out, fun q hq => ?_⟩, ?_⟩
            · rw [getD_set_ne _ _ _ _ (by omega)]; exact hag q hq
            · show t + ko + kl + vl - ((j : Int) + 1).toNat < t + ko + kl + vl - ((j : Int)).toNat
              omega
          · have hdj : decide ((j : Int) < (t : Int) + ((ko : Int) + (kl : Int) + (vl : Int))) = false := by simp; omega
            have HFj := hid hF
            have HAG := hid hag
            clear hF hag
            go_wp2
            have hF := HFj.out
            rw [HGS.out] at hF
            refine ⟨⟨i + 1, _, _, l2, by omega, congrArg _ (by rw [HATN.out]; omega), congrArg _ (by rw [HATN.out]; omega), congrArg _ (by omega), hF, HRN.out l2 (by rw [HHEAD.out]; exact HAG.out)⟩, ?_⟩
            show k - ((i : Int) + 1).toNat < k - ((i : Int)).toNat
            omega
      · obtain rfl : k = i := by omega
        have hdk : decide ((k : Int) < (k : Int)) = false := by simp
        have HREC := hid hRec
        have HFA0 := hid hFA
        clear hFA hRec hl2048 hat1 hlt hik
        go_wp2
        go_meet
        exact ⟨f, g, l, rfl, rfl, HFA0.out, HREC.out⟩
  case rest =>
    obtain ⟨f, g, l, rfl, rfl, hFA0, hRec⟩ := hcut
    have hat1 := atOf_hi hko x k
    rename ∀ (a : Act) (w : World), Code.wp Yba.prog _ _ a w → _ => hK
    refine hK _ _ ?_
    exact free_mid hk8 h20 h21 h30 h31 hko HKIND.out (by omega) (atOf_lo ko x k) hFA0 ⟨hRec, fun j h => by omega⟩
end Go.Proofs.Ybulkcnti
