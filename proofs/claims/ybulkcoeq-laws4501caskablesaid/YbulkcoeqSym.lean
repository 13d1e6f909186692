import Derived.Test.YbulkcoeqMerge
namespace Go.Proofs.Ybulkcoeq
open Go.RowKit
set_option linter.unusedVariables false
set_option linter.unusedSimpArgs false

theorem rot_id (d : Nat → Nat) {s m t : Nat} (hs : s ≤ m) (ht : m ≤ t) (h : s = m ∨ t = m) : (fun k => d (rotI s m t k)) = d := by
  funext k
  congr 1
  unfold rotI
  split
  · rfl
  · split <;> omega
theorem Srt.congr {h : Nat → Int} {a b : Nat} {d d' : Nat → Nat} (hs : Srt h a b d) (he : ∀ k, a ≤ k → k < b → d' k = d k) : Srt h a b d' := by
  intro i j q1 q2 q3
  rw [he i q1 (by omega), he j (by omega) q3]
  exact hs i j q1 q2 q3
theorem Crs.congr {a m b : Nat} {d d' : Nat → Nat} (hs : Crs a m b d) (he : ∀ k, a ≤ k → k < b → d' k = d k) (ham : a ≤ m) (hmb : m ≤ b) : Crs a m b d' := by
  intro i j q1 q2 q3 q4
  rw [he i q1 (by omega), he j (by omega) q4]
  exact hs i j q1 q2 q3 q4

set_option maxRecDepth 100000 in
set_option maxHeartbeats 16000000 in
theorem merge_gen {w0 : World} {blk n : Nat} {enc : Nat → Value} {h : Nat → Int} {sf : Nat} {l0 l1 s0 s1 : Value} (E : Env w0 blk n enc h sf l0 l1 s0 s1) (N a m b : Nat) (hN : b - a ≤ N + 1)
    (IH : ∀ a m b, b - a ≤ N → a < m → m < b → b ≤ n → ∀ d, Srt h a m d → Srt h m b d → Crs a m b d → ∀ W, Row w0 blk n enc d W → Calls Yba.prog 25 #[dat sf l0 l1 s0 s1, .int .i64 (a : Int), .int .i64 (m : Int), .int .i64 (b : Int)] W (MEnd w0 blk n enc h a b d W))
    (ham : a + 1 < m) (hmb : m + 1 < b) (hb : b ≤ n) (d : Nat → Nat) (h1 : Srt h a m d) (h2 : Srt h m b d) (h3 : Crs a m b d) (W : World) (hR : Row w0 blk n enc d W) :
    Calls Yba.prog 25 #[dat sf l0 l1 s0 s1, .int .i64 (a : Int), .int .i64 (m : Int), .int .i64 (b : Int)] W (MEnd w0 blk n enc h a b d W) := by
  have hblt := hR.ic.lt
  have HE := hid E
  have hsm := E.small
  have HR := hid hR
  have H1 := hid h1
  have H2 := hid h2
  have H3 := hid h3
  have HIH := hid IH
  obtain ⟨ma, hma0⟩ : ∃ ma : Nat, ma = m - a := ⟨_, rfl⟩
  have hma : (m : Int) - (a : Int) = (ma : Int) := by omega
  have hn1 : decide ((ma : Int) = 1) = false := by simp; omega
  have hn2 : decide (ma = 1) = false := by simp; omega
  have hn3 : ((ma : Int) == 1) = false := by simp; omega
  have hn4 : (ma == 1) = false := by simp; omega
  obtain ⟨bm, hbm0⟩ : ∃ bm : Nat, bm = b - m := ⟨_, rfl⟩
  have hbm : (b : Int) - (m : Int) = (bm : Int) := by omega
  have hm1 : decide ((bm : Int) = 1) = false := by simp; omega
  have hm2 : decide (bm = 1) = false := by simp; omega
  have hm3 : ((bm : Int) == 1) = false := by simp; omega
  have hm4 : (bm == 1) = false := by simp; omega
  obtain ⟨mid, hmid⟩ : ∃ mid : Nat, mid = (a + b) / 2 := ⟨_, rfl⟩
  have hmidI : ((a : Int) + (b : Int)) / 2 = (mid : Int) := by omega
  obtain ⟨nn, hnn⟩ : ∃ nn : Nat, nn = mid + m := ⟨_, rfl⟩
  have hnnI : (mid : Int) + (m : Int) = (nn : Int) := by omega
  obtain ⟨p, hp⟩ : ∃ p : Nat, p = nn - 1 := ⟨_, rfl⟩
  have hpI : (nn : Int) - 1 = (p : Int) := by omega
  have hmid1 : a < mid := by omega
  have hmid2 : mid < b := by omega
  have HN : Hid (nn = mid + m ∧ p = mid + m - 1 ∧ (mid = (a + b) / 2)) := hid (by omega)
  clear E hR h1 h2 h3 hma0 hbm0 hmid hnn hp IH
  go_enter Yba.func25, Yba.ntmps25
  go_upto_if 106 with fail
  go_cut [18, 19] (fun s18 s19 v => ∃ (s0' r0 : Nat), s18 = .int .i64 (s0' : Int) ∧ s19 = .int .i64 (r0 : Int) ∧ ((mid < m ∧ s0' + b = nn ∧ r0 = mid) ∨ (m ≤ mid ∧ s0' = a ∧ r0 = m)) ∧ v = W.alloc (boxed sf l0 l1 s0 s1))
  case first =>
    by_cases hc : mid < m
    · have hd : decide ((mid : Int) < (m : Int)) = true := by simp; omega
      obtain ⟨q, hq⟩ : ∃ q : Nat, q = nn - b := ⟨_, rfl⟩
      have hqI : (nn : Int) - (b : Int) = (q : Int) := by have := HN.out; omega
      have HQ : Hid (q + b = nn) := hid (by have := HN.out; omega)
      clear hq
      go_wp2
      go_meet
      exact ⟨q, mid, rfl, rfl, Or.inl ⟨hc, HQ.out, rfl⟩, rfl⟩
    · have hd : decide ((mid : Int) < (m : Int)) = false := by simp; omega
      go_wp2
      go_meet
      exact ⟨a, m, rfl, rfl, Or.inr ⟨by omega, rfl, rfl⟩, rfl⟩
  case rest =>
  obtain ⟨q0, r0, rfl, rfl, hcase, rfl⟩ := hcut
  have HCASE := hid hcase
  have hq0 : a ≤ q0 ∧ q0 ≤ r0 ∧ r0 ≤ m := by have := HN.out; omega
  clear hcase
  go_wp2_with fail
  go_loopw [18, 19] (fun s18 s19 v => ∃ (s r : Nat), s18 = .int .i64 (s : Int) ∧ s19 = .int .i64 (r : Int) ∧ q0 ≤ s ∧ s ≤ r ∧ r ≤ r0 ∧ Row w0 blk n enc d v ∧ Only blk (W.alloc (boxed sf l0 l1 s0 s1)) v ∧ (q0 < s → bf h (d (s - 1)) (d (p - (s - 1)))) ∧ (r < r0 → bf h (d (p - r)) (d r))) (fun s18 s19 _ => (intOf s19).toNat - (intOf s18).toNat)
  case atStart => exact ⟨q0, r0, rfl, rfl, Nat.le_refl _, hq0.2.1, Nat.le_refl _, HR.out.alloc _, Only.refl _ _, fun h => by omega, fun h => by omega⟩
  case round =>
    obtain ⟨s, r, rfl, rfl, hqs, hsr, hrr, hRow, hOn, hlo, hhi⟩ := hrel
    obtain ⟨b0, b1⟩ := box_cells sf l0 l1 s0 s1 W wr blk hblt hOn
    have HRow := hid hRow
    have HOn := hid hOn
    have HLO := hid hlo
    have HHI := hid hhi
    clear hRow hOn hlo hhi
    by_cases hlt : s < r
    · have hdl : decide ((s : Int) < (r : Int)) = true := by simp; omega
      obtain ⟨c, hc⟩ : ∃ c : Nat, c = (s + r) / 2 := ⟨_, rfl⟩
      have hcI : ((s : Int) + (r : Int)) / 2 = (c : Int) := by omega
      have hc1 : s ≤ c := by omega
      have hc2 : c < r := by omega
      have hpc : m ≤ p - c ∧ p - c < b ∧ c ≤ p := by
        have := HN.out
        rcases HCASE.out with q | q <;> omega
      have hxy : d c < d (p - c) := H3.out c (p - c) (by omega) (by omega) hpc.1 hpc.2.1
      have HL := HE.out.less d wr ((p : Int) - (c : Int)) (c : Int) (p - c) c (by omega) rfl HRow.out (by omega) (by omega)
      clear hc hpc
      by_cases hles : h (d c) < h (d (p - c))
      · rw [decide_eq_true hles] at HL
        have HL1 := hid HL
        have HBF := hid ((bf_less hxy).1 hles)
        clear HL hles hxy
        go_wp2_with (first | (go_at_call 8; with_reducible (refine Calls.mono HL1.out ?_); rintro e w2 ⟨rfl, hb2⟩))
        refine ⟨⟨s, c, rfl, rfl, hqs, by omega, by omega, HRow.out.read hb2, HOn.out.trans (Only.of_below hb2), HLO.out, fun _ => HBF.out⟩, ?_⟩
        show ((c : Int)).toNat - ((s : Int)).toNat < ((r : Int)).toNat - ((s : Int)).toNat
        omega
      · rw [decide_eq_false hles] at HL
        have HL1 := hid HL
        have HBF := hid (bf_not_less hxy hles)
        clear HL hles hxy
        go_wp2_with (first | (go_at_call 8; with_reducible (refine Calls.mono HL1.out ?_); rintro e w2 ⟨rfl, hb2⟩))
        refine ⟨⟨c + 1, r, congrArg _ (by omega), rfl, by omega, by omega, hrr, HRow.out.read hb2, HOn.out.trans (Only.of_below hb2), fun _ => HBF.out, HHI.out⟩, ?_⟩
        show ((r : Int)).toNat - ((c : Int) + 1).toNat < ((r : Int)).toNat - ((s : Int)).toNat
        omega
    · have hdl : decide ((s : Int) < (r : Int)) = false := by simp; omega
      obtain rfl : s = r := by omega
      have hdl2 : decide ((s : Int) < (s : Int)) = false := by simp
      obtain ⟨t, ht⟩ : ∃ t : Nat, t = nn - s := ⟨_, rfl⟩
      have htI : (nn : Int) - (s : Int) = (t : Int) := by have := HN.out; omega
      have hst : s + t = mid + m ∧ a ≤ s ∧ s ≤ m ∧ m ≤ t ∧ t ≤ b := by
        have := HN.out
        rcases HCASE.out with q | q <;> omega
      have hP : Parts h a s mid t b (fun k => d (rotI s m t k)) := by
        have hN1 := HN.out
        refine parts H1.out H2.out H3.out hst.2.1 hst.2.2.1 hst.2.2.2.1 hst.2.2.2.2 hst.1 (fun q1 q2 => ?_) (fun q1 q2 => ?_)
        · have := HLO.out (by rcases HCASE.out with q | q <;> omega)
          rw [show p - (s - 1) = t by omega] at this
          exact this
        · have := HHI.out (by rcases HCASE.out with q | q <;> omega)
          rw [show p - s = t - 1 by omega] at this
          exact this
      obtain ⟨d1, hd1⟩ : ∃ d1, d1 = fun k => d (rotI s m t k) := ⟨_, rfl⟩
      rw [← hd1] at hP
      have HD1 := hid hd1
      have HP := hid hP
      have HST := hid hst
      clear hd1 hP hst ht
      go_upto_region 40 with fail
      obtain ⟨bb145, hbb145⟩ : ∃ bb : Bool, bb = decide (s < m ∧ m < t) := ⟨_, rfl⟩
      have HBB145 := hid hbb145
      clear hbb145
      go_cut [145] (fun sx v => sx = .bool bb145 ∧ v = wr)
      case first =>
        by_cases t1 : s < m
        · have k1 : decide ((s : Int) < (m : Int)) = true := by simp; omega
          by_cases t2 : m < t
          · have k2 : decide ((m : Int) < (t : Int)) = true := by simp; omega
            go_wp2
            go_meet
            exact ⟨by rw [HBB145.out, decide_eq_true ⟨t1, t2⟩], rfl⟩
          · have k2 : decide ((m : Int) < (t : Int)) = false := by simp; omega
            go_wp2
            go_meet
            exact ⟨by rw [HBB145.out, decide_eq_false (fun q => by omega)], rfl⟩
        · have k1 : decide ((s : Int) < (m : Int)) = false := by simp; omega
          go_wp2
          go_meet
          exact ⟨by rw [HBB145.out, decide_eq_false (fun q => by omega)], rfl⟩
      case rest =>
      obtain ⟨rfl, hvx⟩ := hcut
      rw [hvx]
      clear hvx
      go_upto_if 145 with fail
      go_cut [] (fun v => Row w0 blk n enc d1 v ∧ Only blk (W.alloc (boxed sf l0 l1 s0 s1)) v ∧ Sws a b d d1)
      case first =>
        obtain ⟨e1, e2, e3, e4, e5⟩ := HST.out
        cases bb145 with
        | true =>
          have hc := of_decide_eq_true HBB145.out.symm
          have HC := hid (rotate_any HE.out s m t hc.1 hc.2 (by omega) d wr HRow.out)
          have HSWS := hid (rot_sws' d hc.1 hc.2)
          clear hc e1 e2 e3 e4 e5
          go_wp2_with (first | (go_at_call 26; with_reducible (refine Calls.mono HC.out ?_); rintro e w2 ⟨rfl, hr2, ho2⟩))
          go_meet
          rw [HD1.out]
          exact ⟨hr2, HOn.out.trans ho2, HSWS.out.mono (by have := HST.out; omega) (by have := HST.out; omega)⟩
        | false =>
          have hc := of_decide_eq_false HBB145.out.symm
          have HID := hid (rot_id d e3 e4 (by omega))
          clear hc e1 e2 e3 e4 e5
          go_wp2
          go_meet
          rw [HD1.out, HID.out]
          exact ⟨HRow.out, HOn.out, .refl⟩
      case rest =>
      generalize wc = wx at *
      obtain ⟨hRx, hOx, hSx⟩ := hcut
      have HRx := hid hRx
      have HOx := hid hOx
      have HSx := hid hSx
      obtain ⟨c0, c1⟩ := box_cells sf l0 l1 s0 s1 W wx blk hblt hOx
      clear hRx hOx hSx b0 b1
      go_upto_region 42 with fail
      obtain ⟨bb158, hbb158⟩ : ∃ bb : Bool, bb = decide (a < s ∧ s < mid) := ⟨_, rfl⟩
      have HBB158 := hid hbb158
      clear hbb158
      go_cut [158] (fun sx v => sx = .bool bb158 ∧ v = wx)
      case first =>
        by_cases t1 : a < s
        · have k1 : decide ((a : Int) < (s : Int)) = true := by simp; omega
          by_cases t2 : s < mid
          · have k2 : decide ((s : Int) < (mid : Int)) = true := by simp; omega
            go_wp2
            go_meet
            exact ⟨by rw [HBB158.out, decide_eq_true ⟨t1, t2⟩], rfl⟩
          · have k2 : decide ((s : Int) < (mid : Int)) = false := by simp; omega
            go_wp2
            go_meet
            exact ⟨by rw [HBB158.out, decide_eq_false (fun q => by omega)], rfl⟩
        · have k1 : decide ((a : Int) < (s : Int)) = false := by simp; omega
          go_wp2
          go_meet
          exact ⟨by rw [HBB158.out, decide_eq_false (fun q => by omega)], rfl⟩
      case rest =>
      obtain ⟨rfl, hvx⟩ := hcut
      rw [hvx]
      clear hvx
      go_upto_if 158 with fail
      go_cut [] (fun v => ∃ d2, Row w0 blk n enc d2 v ∧ Only blk (W.alloc (boxed sf l0 l1 s0 s1)) v ∧ Sws a mid d1 d2 ∧ Srt h a mid d2)
      case first =>
        cases bb158 with
        | true =>
          have hc := of_decide_eq_true HBB158.out.symm
          have HC := hid (HIH.out a s mid (by omega) hc.1 hc.2 (by omega) d1 HP.out.p1 HP.out.p2 HP.out.p3 wx HRx.out)
          clear hc
          go_wp2_with (first | (go_at_call 25; go_must (with_reducible (refine Calls.mono HC.out ?_)); go_must (intro e w2 hM); go_must (obtain ⟨he, ⟨d2, g1, g2, g3⟩, ho2⟩ := hM); subst he))
          go_meet
          exact ⟨d2, g3, HOx.out.trans ho2, g1, g2⟩
        | false =>
          have hc := of_decide_eq_false HBB158.out.symm
          have HSS : Hid (Srt h a mid d1) := hid (by
            by_cases q : a < s
            · intro i j q1 q2 q3
              exact HP.out.p1 i j q1 q2 (by omega)
            · intro i j q1 q2 q3
              exact HP.out.p2 i j (by omega) q2 q3)
          clear hc
          go_wp2
          go_meet
          exact ⟨d1, HRx.out, HOx.out, .refl, HSS.out⟩
      case rest =>
      generalize wc = wy at *
      obtain ⟨d2, hRy, hOy, hSy, hTy⟩ := hcut
      have HRy := hid hRy
      have HOy := hid hOy
      have HSy := hid hSy
      have HTy := hid hTy
      obtain ⟨e0, e1⟩ := box_cells sf l0 l1 s0 s1 W wy blk hblt hOy
      clear hRy hOy hSy hTy c0 c1
      go_upto_region 44 with fail
      obtain ⟨bb171, hbb171⟩ : ∃ bb : Bool, bb = decide (mid < t ∧ t < b) := ⟨_, rfl⟩
      have HBB171 := hid hbb171
      clear hbb171
      go_cut [171] (fun sx v => sx = .bool bb171 ∧ v = wy)
      case first =>
        by_cases t1 : mid < t
        · have k1 : decide ((mid : Int) < (t : Int)) = true := by simp; omega
          by_cases t2 : t < b
          · have k2 : decide ((t : Int) < (b : Int)) = true := by simp; omega
            go_wp2
            go_meet
            exact ⟨by rw [HBB171.out, decide_eq_true ⟨t1, t2⟩], rfl⟩
          · have k2 : decide ((t : Int) < (b : Int)) = false := by simp; omega
            go_wp2
            go_meet
            exact ⟨by rw [HBB171.out, decide_eq_false (fun q => by omega)], rfl⟩
        · have k1 : decide ((mid : Int) < (t : Int)) = false := by simp; omega
          go_wp2
          go_meet
          exact ⟨by rw [HBB171.out, decide_eq_false (fun q => by omega)], rfl⟩
      case rest =>
      obtain ⟨rfl, hvx⟩ := hcut
      rw [hvx]
      clear hvx
      cases bb171 with
      | true =>
        have hc := of_decide_eq_true HBB171.out.symm
        have HC := hid (HIH.out mid t b (by omega) hc.1 hc.2 (by omega) d2 (HP.out.p4.congr fun k q1 q2 => HSy.out.out k (by omega)) (HP.out.p5.congr fun k q1 q2 => HSy.out.out k (by omega)) (HP.out.p6.congr (fun k q1 q2 => HSy.out.out k (by omega)) (by omega) (by omega)) wy HRy.out)
        clear hc
        go_wp2_with (first | (go_at_call 25; go_must (with_reducible (refine Calls.mono HC.out ?_)); go_must (intro e w2 hM); go_must (obtain ⟨he, ⟨d3, g1, g2, g3⟩, ho2⟩ := hM); subst he))
        go_end0
        exact ⟨rfl, ⟨d3, HSx.out.trans ((HSy.out.mono (Nat.le_refl _) (by omega)).trans (g1.mono (by omega) (Nat.le_refl _))), merged HP.out.p7 (by omega) (by omega) HSy.out HTy.out g1 g2, g3⟩, ((Only.refl _ _).alloc _).trans (HOy.out.trans ho2)⟩
      | false =>
        have hc := of_decide_eq_false HBB171.out.symm
        have HSS : Hid (Srt h mid b d2) := hid (by
          refine Srt.congr (d := d1) ?_ (fun k q1 q2 => HSy.out.out k (by omega))
          by_cases q : mid < t
          · intro i j q1 q2 q3
            exact HP.out.p4 i j q1 q2 (by omega)
          · intro i j q1 q2 q3
            exact HP.out.p5 i j (by omega) q2 q3)
        clear hc
        go_wp2
        go_end0
        exact ⟨rfl, ⟨d2, HSx.out.trans (HSy.out.mono (Nat.le_refl _) (by omega)), merged HP.out.p7 (by omega) (by omega) HSy.out HTy.out .refl HSS.out, HRy.out⟩, ((Only.refl _ _).alloc _).trans HOy.out⟩

theorem symMerge_any {w0 : World} {blk n : Nat} {enc : Nat → Value} {h : Nat → Int} {sf : Nat} {l0 l1 s0 s1 : Value} (E : Env w0 blk n enc h sf l0 l1 s0 s1) : ∀ (N a m b : Nat), b - a ≤ N → a < m → m < b → b ≤ n → ∀ d, Srt h a m d → Srt h m b d → Crs a m b d → ∀ W, Row w0 blk n enc d W →
    Calls Yba.prog 25 #[dat sf l0 l1 s0 s1, .int .i64 (a : Int), .int .i64 (m : Int), .int .i64 (b : Int)] W (MEnd w0 blk n enc h a b d W)
  | 0, a, m, b, h1, h2, h3, h4, d, q1, q2, q3, W, hR => by omega
  | N + 1, a, m, b, h1, h2, h3, h4, d, q1, q2, q3, W, hR => by
    by_cases c1 : m = a + 1
    · exact merge_left E a m b c1 h3 h4 d q2 q3 W hR
    · by_cases c2 : b = m + 1
      · exact merge_right E a m b (by omega) c2 h4 d q1 q3 W hR
      · exact merge_gen E N a m b h1 (symMerge_any E N) (by omega) (by omega) h4 d q1 q2 q3 W hR
end Go.Proofs.Ybulkcoeq
