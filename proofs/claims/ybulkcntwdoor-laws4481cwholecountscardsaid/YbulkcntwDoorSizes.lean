import Derived.Test.YbulkcntwDoorPeers
import Derived.Test.YbulkcntwDoorShares
namespace Go.Proofs.YbulkcntwDoor
open Go.RowKit Go.Sort
set_option linter.unusedVariables false
set_option linter.unusedSimpArgs false

/-- A branch. -/
structure Br where
  hi : Nat
  lo : Nat
  dg : Nat
instance : Inhabited Br := ⟨⟨0, 0, 0⟩⟩
abbrev Br.enc (b : Br) : List Value := [.int .u64 0, .int .u64 0, .string ⟨#[]⟩, .int .u64 (b.hi : Int), .int .u64 (b.lo : Int), .int .i64 (b.dg : Int)]
def Br.ok (b : Br) : Prop := b.hi < M ∧ b.lo < M ∧ b.dg < 20
def Br.eh (b : Br) (wd : Nat) : Nat := endH b.hi (min (b.dg * wd) 128)
def Br.el (b : Br) (wd : Nat) : Nat := endL b.lo (min (b.dg * wd) 128)
/-- How many of the ring lie in the branch and have not stopped. -/
def cnt (wd : Nat) (L : List (Nat × Nat)) (r : List C) (b : Br) : Nat := ((r.filter (fun c => holdsV b.hi b.lo (b.eh wd) (b.el wd) c.hi c.lo)).filter (fun c => !decide (c.id ∈ L))).length
theorem info51 : (Ybad.prog.info? 51).map (fun i => (i.zero, i.size, i.bytes)) = some (some (.float .f64 0), 1, 8) := by kernel_rfl
section
variable {rb sh sl wd mb : Nat} {L : List (Nat × Nat)} {g1 n1 c1 g2 n2 c2 : Nat} {d1 d2 : List C} {w w' : World}
theorem Kn.set51 (h : Kn rb sh sl wd mb L g1 n1 c1 g2 n2 c2 d1 d2 w) (q i : Nat) (v : Value) (cur : Array Value) (hs : w.heap[q]? = some (.cells cur 51 (0, 0))) (q0 : ¬ 0 = q) (q1 : ¬ rb = q) (q2 : ¬ g1 = q) (q3 : ¬ g2 = q) : Kn rb sh sl wd mb L g1 n1 c1 g2 n2 c2 d1 d2 (w.setCell ⟨q, i, none⟩ v) := by
  have ho : Only q w (w.setCell ⟨q, i, none⟩ v) := (Only.refl q w).setCell i v
  have hc : ∀ j, (w.setCell ⟨q, i, none⟩ v).cell? ⟨rb, j, none⟩ = w.cell? ⟨rb, j, none⟩ := fun j => sc_ne _ _ _ _ _ _ (fun e => q1 e.symm)
  have hm : ¬ mb = q := h.rts.mp.not_isC ⟨cur, 51, hs⟩
  have T := h.rts
  refine ⟨⟨(hc 0).trans T.hi, (hc 1).trans T.lo, (hc 2).trans T.wid, (hc 4).trans T.cw, (hc 5).trans T.ccw, (hc 6).trans T.stp, (hc 7).trans T.mks, T.mp.only ho hm, T.r1.only ho q2, T.r2.only ho q3, T.l1, T.l2, T.b1, T.b2⟩, ⟨(sc_ne _ _ _ _ _ _ (fun e => q0 e.symm)).trans h.one.hi, (sc_ne _ _ _ _ _ _ (fun e => q0 e.symm)).trans h.one.lo⟩, h.rb0, h.ng1, h.ng2, h.ic.setCell _ _, h.ok, h.wdb, ?_⟩
  rcases h.knw with k | ⟨ka, sg, sc, shs, r, k1, k2, k3, k4⟩
  · exact .inl ((hc 10).trans k)
  · have e1 : ¬ ka = q := fun e => by
      unfold Bx at k3; rw [e, hs] at k3; simp at k3
    have e2 : ¬ sg = q := fun e => by
      rcases k4.own.2 with ⟨h0, _⟩ | ⟨g', cap', cur', h0, _, h1, _⟩
      · cases h0
      · cases h0; rw [e, hs] at h1; simp at h1
    exact .inr ⟨ka, sg, sc, shs, r, (hc 10).trans k1, k2, k3.other _ _ _ e1, k4.only ho e2⟩
end

set_option maxRecDepth 4000 in
set_option maxHeartbeats 2000000 in
theorem branchSizes_any (HSO : SharesOk) (rb sh sl wd mb : Nat) (L : List (Nat × Nat)) (g1 n1 c1 g2 n2 c2 : Nat) (d1 d2 : List C) (p : Option Addr) (n cap : Nat) (bl : List Br) (hn : n = bl.length) (hok : ∀ b ∈ bl, b.ok) (hc : n ≤ cap) (hn2 : n ≤ 1024) (w : World) (hK : Kn rb sh sl wd mb L g1 n1 c1 g2 n2 c2 d1 d2 w)
    (hbs : 0 < n → ∃ b, p = some ⟨b, 0, none⟩ ∧ ¬ b = rb ∧ b < w.heap.size ∧ ∀ k, k < n → ∀ i, i < 6 → w.cell? ⟨b, k * 6 + i, none⟩ = (Br.enc bl[k]!)[i]?) :
    Calls Ybad.prog 6 #[.pointer (some ⟨rb, 0, none⟩), .slice p n cap] w fun e w' => ∃ g, e = .returned (.slice (some ⟨g, 0, none⟩) n n) ∧ w.heap.size ≤ g ∧ g < w'.heap.size ∧ (∀ k, k < n → ∃ r, RingOf sh sl ([⟨sh, sl, ⟨#[]⟩⟩] ++ d1 ++ d2) r ∧ w'.cell? ⟨g, k, none⟩ = some (.float .f64 (floatOfInt .f64 (cnt wd L r bl[k]! : Int)))) ∧ Kn rb sh sl wd mb L g1 n1 c1 g2 n2 c2 d1 d2 w' ∧ Only rb w w' := by
  obtain ⟨i0, hii, hiz, his, hib⟩ := info_parts info51
  have HK := hid hK
  have HL : Hid (rb < w.heap.size ∧ g1 < w.heap.size ∧ g2 < w.heap.size) := hid ⟨hK.ic.lt, hK.rts.r1.ic.lt, hK.rts.r2.ic.lt⟩
  have HPC := hid (peerCount_any rb sh sl wd mb L g1 n1 c1 g2 n2 c2 d1 d2 w hK)
  have HBS := hid hbs
  have HN := hid hn
  have HOK := hid hok
  clear hK hbs hn hok
  go_enter Ybad.func6, Ybad.ntmps6
  go_wp2_with (first | (go_at_call 8; with_reducible (refine Calls.mono HPC.out ?_); rintro e w1 ⟨⟨cv, rfl⟩, hb1⟩) | (at_make; go_must (refine wpList_make_full _ rfl (.tmp 14) (.tmp 14) 46 rfl w.heap.size 51 i0 (.float .f64 0) 1 Ybad.underlying46 hii hiz his .i64 .i64 _ _ n rfl rfl rfl rfl (by rw [hib]; omega) (by unfold maxLen; omega) hb1.size ?_); go_must (intro w2 ho2 hg2); go_must (have HB2 : Hid (Below w.heap.size w w2) := hid (hb1.grown hg2 hb1.size (fun k hk => by cases hk))); have HO2 := hid ho2; have HZ1 := hid hb1.size; clear ho2 hg2 hb1) | fail)
  obtain ⟨sg, hsg⟩ : ∃ sg, sg = w1.heap.size := ⟨_, rfl⟩
  rw [← hsg] at HO2
  rw [← hsg]
  have HSG : Hid (w.heap.size ≤ sg) := hid (by rw [hsg]; exact HZ1.out)
  clear hsg
  go_loopw [18] (fun s18 v => ∃ (k : Nat) (fl : List Value), s18 = .int .i64 (k : Int) ∧ k ≤ n ∧ Hid (Kn rb sh sl wd mb L g1 n1 c1 g2 n2 c2 d1 d2 v) ∧ Hid (Only rb w v) ∧ Hid (v.ownsRow w.heap.size 51 1 (.slice (some ⟨sg, 0, none⟩) n n) n fl) ∧ Hid (∀ j, j < k → ∃ r, RingOf sh sl ([⟨sh, sl, ⟨#[]⟩⟩] ++ d1 ++ d2) r ∧ fl[j]? = some (.float .f64 (floatOfInt .f64 (cnt wd L r bl[j]! : Int))))) (fun s18 _ => n - (intOf s18).toNat)
  case atStart => exact ⟨0, _, rfl, Nat.zero_le _, hid (HK.out.below HB2.out), hid (Only.of_below HB2.out), HO2, hid (fun j hj => by omega)⟩
  case round =>
    obtain ⟨k, fl, rfl, hkn, HKv, HON, HOW, HFL⟩ := hrel
    by_cases hlt : k < n
    · have hdl : decide ((k : Int) < (n : Int)) = true := by simp; omega
      have hdl2 : (k : Int) < (n : Int) := by omega
      obtain ⟨b, rfl, hb1, hb2, hcell0⟩ := HBS.out (by omega)
      obtain ⟨q, hq⟩ : ∃ q, bl[k]! = q := ⟨_, rfl⟩
      have hcell : ∀ i, i < 6 → wr.cell? ⟨b, k * 6 + i, none⟩ = (Br.enc q)[i]? := fun i hi => by
        rw [HON.out.cell hb2 hb1, hcell0 k hlt i hi, hq]
      have f0 := hcell 0 (by omega)
      have f1 := hcell 1 (by omega)
      have f2 := hcell 2 (by omega)
      have f3 := hcell 3 (by omega)
      have f4 := hcell 4 (by omega)
      have f5 := hcell 5 (by omega)
      clear hcell hcell0
      have HQ : Hid (q.ok ∧ bl[k]! = q) := hid ⟨by
        have hkl : k < bl.length := by rw [← HN.out]; exact hlt
        rw [← hq, getElem!_pos bl k hkl]
        exact HOK.out _ (List.getElem_mem hkl), hq⟩
      clear hq
      obtain ⟨kh, kl, dg⟩ := q
      simp at f0 f1 f2 f3 f4 f5
      obtain ⟨wa, hwa⟩ : ∃ wa, wa = wr.alloc (.cells #[.int .u64 0, .int .u64 0, .string ⟨#[]⟩, .int .u64 (kh : Int), .int .u64 (kl : Int), .int .i64 (dg : Int)] 45) := ⟨_, rfl⟩
      have HBA : Hid (Below wr.heap.size wr wa) := hid (hwa ▸ (Below.refl _ _).alloc (Nat.le_refl _) _)
      have HKa : Hid (Kn rb sh sl wd mb L g1 n1 c1 g2 n2 c2 d1 d2 wa) := hid (HKv.out.below HBA.out)
      have HOa := hid (own_below HOW.out HBA.out)
      have a0 : wa.cell? ⟨wr.heap.size, 0, none⟩ = some (.int .u64 0) := by simp [hwa]
      have a1 : wa.cell? ⟨wr.heap.size, 1, none⟩ = some (.int .u64 0) := by simp [hwa]
      have a2 : wa.cell? ⟨wr.heap.size, 2, none⟩ = some (.string ⟨#[]⟩) := by simp [hwa]
      have a3 : wa.cell? ⟨wr.heap.size, 3, none⟩ = some (.int .u64 (kh : Int)) := by simp [hwa]
      have a4 : wa.cell? ⟨wr.heap.size, 4, none⟩ = some (.int .u64 (kl : Int)) := by simp [hwa]
      have a5 : wa.cell? ⟨wr.heap.size, 5, none⟩ = some (.int .i64 (dg : Int)) := by simp [hwa]
      have HKP := hid (knownPeers_any HSO rb sh sl wd mb L g1 n1 c1 g2 n2 c2 d1 d2 kh kl dg (Br.eh ⟨kh, kl, dg⟩ wd) (Br.el ⟨kh, kl, dg⟩ wd) HQ.out.1.1 HQ.out.1.2.1 HQ.out.1.2.2 rfl rfl wa HKa.out)
      dsimp only [bhv] at HKP
      go_upto_region 6 with fail
      rw [← hwa]
      clear hwa f0 f1 f2 f3 f4 f5
      have hrs : ¬ sg = rb := by have := HSG.out; have := HL.out; omega
      go_wp2_with fail
      with_reducible (refine Calls.mono HKP.out ?_)
      rintro e w3 ⟨pp, pc, ps, r, rfl, hring, hp31, hps, hk3, ho3⟩
      have HRG := hid hring
      have HPS := hid hps
      have HK3 := hid hk3
      have HN3 := hid ho3
      have HO3 := hid (own_only HOa.out ho3 (fun j hj => by cases hj; exact hrs))
      obtain ⟨su, s0⟩ : ∃ u, w3.cell? ⟨sg, k, none⟩ = some u := ⟨_, (HO3.out.cellAt k (by omega)).trans (List.getElem?_eq_getElem (by rw [HO3.out.1]; omega))⟩
      have s1 := HO3.out.frozenAt k
      clear hring hps hk3 ho3
      have hst : (store ⟨sg, k, none⟩ (.float .f64 (floatOfInt .f64 (ps.length : Int)))).run Ybad.prog w3 = .ok () (w3.setCell ⟨sg, k, none⟩ (.float .f64 (floatOfInt .f64 (ps.length : Int)))) := by
        rw [run_store Ybad.prog w3 _ _ _ rfl]
        simp [s0, s1]
      go_wp2
      have HST := hid (HO3.out.stored k (.float .f64 (floatOfInt .f64 (ps.length : Int)))).1
      obtain ⟨cur, hcur⟩ : ∃ cur, w3.heap[sg]? = some (.cells cur 51 (0, 0)) := by
        rcases HO3.out.2 with ⟨h0, _⟩ | ⟨g', cap', cur', h0, _, h1, _⟩
        · cases h0
        · cases h0; exact ⟨_, h1⟩
      refine ⟨⟨k + 1, fl.set k (.float .f64 (floatOfInt .f64 (ps.length : Int))), congrArg _ (by omega), by omega, hid (HK3.out.set51 sg k _ cur hcur (by have := HSG.out; have := HL.out; omega) (by have := HSG.out; have := HL.out; omega) (by have := HSG.out; have := HL.out; omega) (by have := HSG.out; have := HL.out; omega)), hid (((HON.out.trans (Only.of_below HBA.out)).trans HN3.out).setNew _ _ HSG.out), HST, hid (fun j hj => ?_)⟩, ?_⟩
      · have hfl : fl.length = n := by have := HOW.out.1; omega
        by_cases e : j = k
        · subst e
          refine ⟨r, HRG.out, ?_⟩
          rw [List.getElem?_set_self (by omega), HQ.out.2, cnt, ← HPS.out]
        · obtain ⟨r', h1, h2⟩ := HFL.out j (by omega)
          exact ⟨r', h1, by rw [List.getElem?_set_ne (fun h => e h.symm)]; exact h2⟩
      · show n - ((k : Int) + 1).toNat < n - ((k : Int)).toNat
        omega
    · have hdl : decide ((k : Int) < (n : Int)) = false := by simp; omega
      have hkn2 : k = n := by omega
      go_wp2
      go_ret
      refine ⟨sg, rfl, HSG.out, (HOW.out.lt sg rfl).2, fun j hj => ?_, HKv.out, HON.out⟩
      obtain ⟨r, h1, h2⟩ := HFL.out j (by omega)
      exact ⟨r, h1, (HOW.out.cellAt j (by omega)).trans h2⟩
end Go.Proofs.YbulkcntwDoor
