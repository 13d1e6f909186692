import Derived.Test.YbulkcntwDoorBranch
import Derived.Test.YbulkcntwDoorContacts
import Derived.Laws.Cover2
namespace Go.Proofs.YbulkcntwDoor
open Go.RowKit Go.Sort
set_option linter.unusedVariables false
set_option linter.unusedSimpArgs false

set_option maxRecDepth 4000 in
set_option maxHeartbeats 2000000 in
theorem knownPeers_any (HSO : SharesOk) (rb sh sl wd mb : Nat) (L : List (Nat × Nat)) (g1 n1 c1 g2 n2 c2 : Nat) (d1 d2 : List C) (kh kl dg eh el : Nat) (hkh : kh < M) (hkl : kl < M) (hdg : dg < 20) (heh : eh = endH kh (min (dg * wd) 128)) (hel : el = endL kl (min (dg * wd) 128)) (w : World) (hK : Kn rb sh sl wd mb L g1 n1 c1 g2 n2 c2 d1 d2 w) :
    Calls Ybad.prog 9 #[.pointer (some ⟨rb, 0, none⟩), bhv kh kl dg] w fun e w' => ∃ p c, ∃ ps r : List C, e = .returned (.tuple #[.slice p ps.length c, .bool true]) ∧ RingOf sh sl ([⟨sh, sl, ⟨#[]⟩⟩] ++ d1 ++ d2) r ∧ ps.length ≤ 31 ∧ ps = (r.filter (fun c => holdsV kh kl eh el c.hi c.lo)).filter (fun c => !decide (c.id ∈ L)) ∧ Kn rb sh sl wd mb L g1 n1 c1 g2 n2 c2 d1 d2 w' ∧ Only rb w w' := by
  obtain ⟨i0, hii, hiz, his, hib⟩ := info_parts info43
  have HK := hid hK
  have HL : Hid (rb < w.heap.size) := hid hK.ic.lt
  clear hK
  obtain ⟨w1, hw1⟩ : ∃ w1, w1 = w.alloc (.cells #[.int .u64 0, .int .u64 0, .string ⟨#[]⟩, .int .u64 (kh : Int), .int .u64 (kl : Int), .int .i64 (dg : Int)] 45) := ⟨_, rfl⟩
  have HB1 : Hid (Below w.heap.size w w1) := hid (hw1 ▸ (Below.refl _ _).alloc (Nat.le_refl _) _)
  have HK1 : Hid (Kn rb sh sl wd mb L g1 n1 c1 g2 n2 c2 d1 d2 w1) := hid (HK.out.below HB1.out)
  have kc0 : w1.cell? ⟨w.heap.size, 0, none⟩ = some (.int .u64 0) := by simp [hw1]
  have kc1 : w1.cell? ⟨w.heap.size, 1, none⟩ = some (.int .u64 0) := by simp [hw1]
  have kc2 : w1.cell? ⟨w.heap.size, 2, none⟩ = some (.string ⟨#[]⟩) := by simp [hw1]
  have kc3 : w1.cell? ⟨w.heap.size, 3, none⟩ = some (.int .u64 (kh : Int)) := by simp [hw1]
  have kc4 : w1.cell? ⟨w.heap.size, 4, none⟩ = some (.int .u64 (kl : Int)) := by simp [hw1]
  have kc5 : w1.cell? ⟨w.heap.size, 5, none⟩ = some (.int .i64 (dg : Int)) := by simp [hw1]
  have HBS := hid (branchShares_any HSO rb sh sl wd mb L g1 n1 c1 g2 n2 c2 d1 d2 kh kl dg eh el hkh hkl hdg heh hel w1 HK1.out)
  dsimp only [bhv] at HBS
  clear heh hel
  have mixed : Ybad.prog.follows .mixedOrders = true := by kernel_rfl
  go_enter Ybad.func9, Ybad.ntmps9
  go_upto_region 1 with fail
  rw [← hw1]
  clear hw1
  go_upto_region 2 with (first | (go_at_call 15; with_reducible (refine Calls.mono HBS.out ?_); rintro e w2 ⟨sv, shs2, r, rfl, hring, hr31, hown, hmap, hk2, ho2⟩) | fail)
  have HOWS := hid hown
  have HMAP := hid hmap
  have HK2 := hid hk2
  have HO2 : Hid (Only rb w w2) := hid ((Only.of_below HB1.out).trans ho2)
  have HRG := hid hring
  obtain ⟨n, hn⟩ : ∃ n, n = shs2.length := ⟨_, rfl⟩
  have h31 : n ≤ 31 := by
    have e := congrArg List.length hmap
    rw [List.length_map] at e
    have := List.length_filter_le (fun c : C => holdsV kh kl eh el c.hi c.lo) r
    omega
  obtain ⟨sp, sc, rfl, _, _, hsp⟩ := own_form hown
  rw [← hn]
  have HN := hid hn
  have HSP := hid hsp
  clear hown hmap hk2 ho2 hring hn hsp kc0 kc1 kc2 kc3 kc4 kc5
  go_wp2_with fail
  go_loopw [8, 21] (fun s8 s21 v => ∃ (k : Nat) (pv : Value) (ps : List C), s8 = pv ∧ s21 = .int .i64 (k : Int) ∧ k ≤ n ∧ Hid (Below w2.heap.size w2 v) ∧ Hid (ps = ((shs2.take k).map Sh.c).filter (fun c => !decide (c.id ∈ L))) ∧ Hid (ps.length ≤ k) ∧ Hid (v.ownsRow w2.heap.size 43 3 pv ps.length (encs ps))) (fun s8 s21 _ => n - (intOf s21).toNat)
  case atStart => exact ⟨0, _, [], rfl, rfl, Nat.zero_le _, hid (Below.refl _ _), hid rfl, hid (Nat.le_refl _), hid (World.ownsRow_nil _ _ _ _)⟩
  case round =>
    obtain ⟨k, _, ps, rfl, rfl, hkn, HB, HPS, HLE, HOW⟩ := hrel
    have hle := HLE.out
    by_cases hlt : k < n
    · have hdl : decide ((k : Int) < (n : Int)) = true := by simp; omega
      have hdl2 : (k : Int) < (n : Int) := by omega
      obtain ⟨sg, rfl, hsg⟩ := HSP.out (by rw [← HN.out]; omega)
      obtain ⟨s, hs⟩ : ∃ s, shs2[k]! = s := ⟨_, rfl⟩
      have hsl : sg < w2.heap.size := (HOWS.out.lt sg rfl).2
      have hcell : ∀ i, i < 7 → wr.cell? ⟨sg, k * 7 + i, none⟩ = (Sh.enc s)[i]? := fun i hi => by
        have hnn := HN.out
        rw [HB.out.cell (p := ⟨sg, k * 7 + i, none⟩) hsl, HOWS.out.cellAt _ (by omega), encsS_get shs2 k i (by omega) hi, hs]
      have f0 := hcell 0 (by omega)
      have f1 := hcell 1 (by omega)
      have f2 := hcell 2 (by omega)
      have f3 := hcell 3 (by omega)
      have f4 := hcell 4 (by omega)
      have f5 := hcell 5 (by omega)
      have f6 := hcell 6 (by omega)
      clear hcell hsl hsg
      have HTK : Hid ((shs2.take (k + 1)).map Sh.c = (shs2.take k).map Sh.c ++ [s.c]) := hid (by
        have hkl : k < shs2.length := by rw [← HN.out]; exact hlt
        rw [List.take_add_one, List.getElem?_eq_getElem hkl, List.map_append, ← hs, getElem!_pos shs2 k hkl]; rfl)
      clear hs
      obtain ⟨⟨ch, cl, ca⟩, sfh, sfl, slh, sll⟩ := s
      simp at f0 f1 f2 f3 f4 f5 f6
      obtain ⟨wa, hwa⟩ : ∃ wa, wa = wr.alloc (.cells #[.int .u64 (ch : Int), .int .u64 (cl : Int), .string ca, .int .u64 (sfh : Int), .int .u64 (sfl : Int), .int .u64 (slh : Int), .int .u64 (sll : Int)] 65) := ⟨_, rfl⟩
      have hba : Below wr.heap.size wr wa := hwa ▸ (Below.refl _ _).alloc (Nat.le_refl _) _
      have HXA : Hid (Bx wr.heap.size 65 #[.int .u64 (ch : Int), .int .u64 (cl : Int), .string ca, .int .u64 (sfh : Int), .int .u64 (sfl : Int), .int .u64 (slh : Int), .int .u64 (sll : Int)] wa) := hid (by rw [hwa]; exact heap_alloc_new _ _)
      have HBA : Hid (Below w2.heap.size w2 wa) := hid (HB.out.trans (hba.mono HB.out.size))
      have HOA : Hid (wa.ownsRow w2.heap.size 43 3 u8 ps.length (encs ps)) := hid (own_below HOW.out hba)
      have HKa : Hid (Kn rb sh sl wd mb L g1 n1 c1 g2 n2 c2 d1 d2 wa) := hid (HK2.out.below HBA.out)
      clear hba
      have e0 := grownB HXA.out 0 _ rfl
      have e1 := grownB HXA.out 1 _ rfl
      have e6 := fun m os => cell_grown (w := wa) (a := ⟨rb, 6, none⟩) HKa.out.ic.lt HKa.out.rts.stp m os
      have elk := fun m os => (HKa.out.rts.mp.below (gr_below (w := wa) (w' := grow (wa.drewN m) os) ⟨m, os, rfl⟩)).look (ch, cl)
      dsimp only [kv] at elk
      obtain ⟨hv, hhv⟩ : ∃ hv, hv = decide ((ch, cl) ∈ L) := ⟨_, rfl⟩
      rw [← hhv] at elk
      have HHV := hid hhv
      clear hhv
      go_upto_region 8 with fail
      rw [← hwa]
      clear hwa f0 f1 f2 f3 f4 f5 f6
      go_quiet_grown (fail)
      have hbq : Below wa.heap.size wa (grow (wa.drewN nq) osq) := gr_below ⟨nq, osq, rfl⟩
      obtain ⟨wq, hwq⟩ : ∃ wq, wq = grow (wa.drewN nq) osq := ⟨_, rfl⟩
      rw [← hwq] at hbq
      rw [← hwq]
      have HBQ : Hid (Below w2.heap.size w2 wq) := hid (HBA.out.trans (hbq.mono HBA.out.size))
      have HXQ := hid (HXA.out.read hbq)
      have HOQ := hid (own_below HOA.out hbq)
      have HZQ := hid HBQ.out.size
      obtain ⟨⟨q0, q1, q2, q3, q4, q5, q6⟩, _⟩ := HXQ.out.seven
      clear hwq hbq e0 e1 e6 elk
      cases hv with
      | false =>
        go_wp2_with (first | (at_builtin; go_must (refine wpList_append_own _ rfl _ _ 31 rfl w2.heap.size 43 i0 z43 3 32 Ybad.underlying31 hii hiz his hib rfl (by decide) _ ps.length (encs ps) rfl (HOQ.out.alloc _) ⟨wq.heap.size, 0, none⟩ 1 1 [.int .u64 (ch : Int), .int .u64 (cl : Int), .string ca] rfl rfl (news3 _ _ _ _ _ _ rfl) (fun u hu => by simp at hu; rcases hu with rfl | rfl | rfl <;> rfl) (by unfold maxLen; omega) (by omega) (by simp; have := HZQ.out; omega) ?_); go_must (intro v' w5 ho5 hg5 hnil5)) | fail)
        refine ⟨⟨k + 1, _, ps ++ [⟨ch, cl, ca⟩], rfl, congrArg _ (by omega), by omega, hid ((HBQ.out.alloc HZQ.out _).grown hg5 (by simp; have := HZQ.out; omega) (fun j hj => (HOQ.out.lt j hj).1)), hid ?_, hid (by simp; omega), hid (by rw [List.length_append, encs_append]; exact ho5)⟩, ?_⟩
        · rw [HTK.out, List.filter_append, ← HPS.out]
          simp [← HHV.out]
        · show n - ((k : Int) + 1).toNat < n - ((k : Int)).toNat
          omega
      | true =>
        go_wp2
        refine ⟨⟨k + 1, _, ps, rfl, congrArg _ (by omega), by omega, HBQ, hid ?_, hid (by omega), HOQ⟩, ?_⟩
        · rw [HTK.out, List.filter_append, ← HPS.out]
          simp [← HHV.out]
        · show n - ((k : Int) + 1).toNat < n - ((k : Int)).toNat
          omega
    · have hdl : decide ((k : Int) < (n : Int)) = false := by simp; omega
      have hkn2 : k = n := by omega
      subst hkn2
      have HTF : Hid (shs2.take k = shs2) := hid (by rw [HN.out, List.take_length])
      obtain ⟨pp, pc, rfl, _⟩ := own_form HOW.out
      go_wp2
      refine bodyPost_ret (v := .tuple #[.slice pp ps.length pc, .bool true]) (by simp [results, Ybad.results9, go_sem]) rfl ?_
      exact ⟨pp, pc, ps, r, rfl, HRG.out, by omega, by rw [HPS.out, HTF.out, HMAP.out], HK2.out.below HB.out, HO2.out.trans (Only.of_below HB.out)⟩

set_option maxHeartbeats 1000000 in
theorem peerCount_any (rb sh sl wd mb : Nat) (L : List (Nat × Nat)) (g1 n1 c1 g2 n2 c2 : Nat) (d1 d2 : List C) (w : World) (hK : Kn rb sh sl wd mb L g1 n1 c1 g2 n2 c2 d1 d2 w) :
    Calls Ybad.prog 8 #[.pointer (some ⟨rb, 0, none⟩)] w fun e w' => (∃ v, e = .returned v) ∧ Below w.heap.size w w' := by
  have HAR := hid (around_any true rb sh sl wd mb L g1 n1 c1 g2 n2 c2 d1 d2 w hK.rts)
  clear hK
  go_enter Ybad.func8, Ybad.ntmps8
  go_upto_region 3 with (first | (go_at_call 14; with_reducible (refine Calls.mono HAR.out ?_); rintro e w2 ⟨g, cap, d', rfl, hg, hcap1, h31, hcap2, hr2, hb2, hring⟩) | fail)
  generalize d'.length = n
  go_wp2
  go_ret
  exact ⟨⟨_, rfl⟩, hb2⟩
end Go.Proofs.YbulkcntwDoor
