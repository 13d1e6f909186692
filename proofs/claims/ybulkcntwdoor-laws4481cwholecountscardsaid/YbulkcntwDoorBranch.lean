import Derived.Test.YbulkcntwDoorKnown
namespace Go.Proofs.YbulkcntwDoor
open Go.RowKit Go.Sort
set_option linter.unusedVariables false
set_option linter.unusedSimpArgs false

theorem Bx.seven {b : Nat} {t : TypeId} {u0 u1 u2 u3 u4 u5 u6 : Value} {w : World} (h : Bx b t #[u0, u1, u2, u3, u4, u5, u6] w) : (w.cell? ⟨b, 0, none⟩ = some u0 ∧ w.cell? ⟨b, 1, none⟩ = some u1 ∧ w.cell? ⟨b, 2, none⟩ = some u2 ∧ w.cell? ⟨b, 3, none⟩ = some u3 ∧ w.cell? ⟨b, 4, none⟩ = some u4 ∧ w.cell? ⟨b, 5, none⟩ = some u5 ∧ w.cell? ⟨b, 6, none⟩ = some u6) ∧ ∀ i, w.frozen? ⟨b, i, none⟩ = false := ⟨⟨h.cell 0, h.cell 1, h.cell 2, h.cell 3, h.cell 4, h.cell 5, h.cell 6⟩, fun i => h.isC.frozen _⟩
theorem Bx.seven_set {b : Nat} {x0 x1 x2 x3 x4 x5 x6 : Value} {w : World} (h : Bx b 65 #[.int .u64 0, .int .u64 0, .string ⟨#[]⟩, .int .u64 0, .int .u64 0, .int .u64 0, .int .u64 0] w) : Bx b 65 #[x0, x1, x2, x3, x4, x5, x6] (((((((w.setCell ⟨b, 0, none⟩ x0).setCell ⟨b, 1, none⟩ x1).setCell ⟨b, 2, none⟩ x2).setCell ⟨b, 3, none⟩ x3).setCell ⟨b, 4, none⟩ x4).setCell ⟨b, 5, none⟩ x5).setCell ⟨b, 6, none⟩ x6) := ((((((h.set 0 x0).set 1 x1).set 2 x2).set 3 x3).set 4 x4).set 5 x5).set 6 x6
theorem below7 {a w : World} {b : Nat} {x0 x1 x2 x3 x4 x5 x6 : Value} (h : Below a.heap.size a w) (hb : a.heap.size ≤ b) : Below a.heap.size a (((((((w.setCell ⟨b, 0, none⟩ x0).setCell ⟨b, 1, none⟩ x1).setCell ⟨b, 2, none⟩ x2).setCell ⟨b, 3, none⟩ x3).setCell ⟨b, 4, none⟩ x4).setCell ⟨b, 5, none⟩ x5).setCell ⟨b, 6, none⟩ x6) := ((((((h.setCell hb _).setCell hb _).setCell hb _).setCell hb _).setCell hb _).setCell hb _).setCell hb _
abbrev bhv (kh kl dg : Nat) : Value := .agg #[.int .u64 0, .int .u64 0, .string ⟨#[]⟩, .int .u64 (kh : Int), .int .u64 (kl : Int), .int .i64 (dg : Int)]
theorem grownB {b : Nat} {t : TypeId} {cs : Array Value} {v : World} (h : Bx b t cs v) (i : Nat) (u : Value) (hu : cs[i]? = some u) : ∀ n os, (grow (v.drewN n) os).cell? ⟨b, i, none⟩ = some u := fun n os => cell_grown (a := ⟨b, i, none⟩) h.lt ((h.cell i).trans hu) n os

set_option maxHeartbeats 4000000 in
theorem branchShares_any (HSO : SharesOk) (rb sh sl wd mb : Nat) (L : List (Nat × Nat)) (g1 n1 c1 g2 n2 c2 : Nat) (d1 d2 : List C) (kh kl dg eh el : Nat) (hkh : kh < M) (hkl : kl < M) (hdg : dg < 20) (heh : eh = endH kh (min (dg * wd) 128)) (hel : el = endL kl (min (dg * wd) 128)) (w : World) (hK : Kn rb sh sl wd mb L g1 n1 c1 g2 n2 c2 d1 d2 w) :
    Calls Ybad.prog 15 #[.pointer (some ⟨rb, 0, none⟩), bhv kh kl dg] w fun e w' => ∃ sv, ∃ shs2 : List Sh, ∃ r : List C, e = .returned (.tuple #[sv, .bool true]) ∧ RingOf sh sl ([⟨sh, sl, ⟨#[]⟩⟩] ++ d1 ++ d2) r ∧ r.length ≤ 31 ∧ w'.ownsRow w.heap.size 65 7 sv shs2.length (encsS shs2) ∧ shs2.map Sh.c = r.filter (fun c => holdsV kh kl eh el c.hi c.lo) ∧ Kn rb sh sl wd mb L g1 n1 c1 g2 n2 c2 d1 d2 w' ∧ Only rb w w' := by
  obtain ⟨i0, hii, hiz, his, hib⟩ := info_parts info65
  have HK := hid hK
  have HL : Hid (rb < w.heap.size) := hid hK.ic.lt
  clear hK
  obtain ⟨w1, hw1⟩ : ∃ w1, w1 = w.alloc (.cells #[.int .u64 0, .int .u64 0, .string ⟨#[]⟩, .int .u64 (kh : Int), .int .u64 (kl : Int), .int .i64 (dg : Int)] 45) := ⟨_, rfl⟩
  have HB1 : Hid (Below w.heap.size w w1) := hid (hw1 ▸ (Below.refl _ _).alloc (Nat.le_refl _) _)
  have HX1 : Hid (Bx w.heap.size 45 #[.int .u64 0, .int .u64 0, .string ⟨#[]⟩, .int .u64 (kh : Int), .int .u64 (kl : Int), .int .i64 (dg : Int)] w1) := hid (by rw [hw1]; exact heap_alloc_new _ _)
  have HK1 : Hid (Kn rb sh sl wd mb L g1 n1 c1 g2 n2 c2 d1 d2 w1) := hid (HK.out.below HB1.out)
  have HKA := hid (knownArc_any HSO rb sh sl wd mb L g1 n1 c1 g2 n2 c2 d1 d2 w1 HK1.out)
  have HPE := hid (fun W => prefixEnd_any kh kl dg wd hkh hkl hdg HK.out.wdb W)
  rw [← heh, ← hel] at HPE
  clear heh hel
  have mixed : Ybad.prog.follows .mixedOrders = true := by kernel_rfl
  go_enter Ybad.func15, Ybad.ntmps15
  go_upto_region 1 with fail
  rw [← hw1]
  clear hw1
  go_upto_region 2 with (first | (go_at_call 34; with_reducible (refine Calls.mono HKA.out ?_); rintro e w2 ⟨sg, sc, shs, r, rfl, harc, hk2, ho2⟩) | fail)
  obtain ⟨n, hn⟩ : ∃ n, n = r.length := ⟨_, rfl⟩
  rw [← hn]
  obtain ⟨w3, hw3⟩ : ∃ w3, w3 = w2.alloc (.cells #[.slice (some ⟨sg, 0, none⟩) n sc, .bool true] 82) := ⟨_, rfl⟩
  rw [← hw3]
  have hb3 : Below w2.heap.size w2 w3 := hw3 ▸ (Below.refl _ _).alloc (Nat.le_refl _) _
  have HX3 : Hid (Bx w2.heap.size 82 #[.slice (some ⟨sg, 0, none⟩) n sc, .bool true] w3) := hid (by rw [hw3]; exact heap_alloc_new _ _)
  have HK3 : Hid (Kn rb sh sl wd mb L g1 n1 c1 g2 n2 c2 d1 d2 w3) := hid (hk2.below hb3)
  have HO3 : Hid (Only rb w w3) := hid (((Only.of_below HB1.out).trans ho2).trans (Only.of_below hb3))
  have HXB3 : Hid (Bx w.heap.size 45 #[.int .u64 0, .int .u64 0, .string ⟨#[]⟩, .int .u64 (kh : Int), .int .u64 (kl : Int), .int .i64 (dg : Int)] w3) := hid (Bx.read ((ho2.block _ HX1.out.lt (by have := HL.out; omega)).trans HX1.out) hb3)
  have HA3 : Hid (Arc rb sh sl ([⟨sh, sl, ⟨#[]⟩⟩] ++ d1 ++ d2) sg sc shs r w3) := hid ⟨harc.ring, harc.eq, harc.len, own_below harc.own hb3, harc.ne⟩
  have HN := hid hn
  have HSB : Hid (w.heap.size < w3.heap.size) := hid HXB3.out.lt
  clear hw3 hb3 ho2 hk2 harc hn
  have KQ : ∀ {W : World}, Below w3.heap.size w3 W → ((W.cell? ⟨w.heap.size, 3, none⟩ = some (.int .u64 (kh : Int)) ∧ W.cell? ⟨w.heap.size, 4, none⟩ = some (.int .u64 (kl : Int))) ∧ W.cell? ⟨w.heap.size, 5, none⟩ = some (.int .i64 (dg : Int))) ∧ W.cell? ⟨rb, 2, none⟩ = some (.int .i64 (wd : Int)) := fun {W} X => ⟨⟨⟨(HXB3.out.read X).cell 3, (HXB3.out.read X).cell 4⟩, (HXB3.out.read X).cell 5⟩, (HK3.out.rts.below X).wid⟩
  go_cut [7] from 14 to 25 (fun s7 wc => ∃ b7 : Nat, s7 = .pointer (some ⟨b7, 0, none⟩) ∧ Hid (Below w3.heap.size w3 wc) ∧ Hid (Bx b7 65 #[.int .u64 0, .int .u64 0, .string ⟨#[]⟩, .int .u64 (kh : Int), .int .u64 (kl : Int), .int .u64 (eh : Int), .int .u64 (el : Int)] wc))
  case first =>
    go_region_held3 (fun W => ((W.cell? ⟨w.heap.size, 3, none⟩ = some (.int .u64 (kh : Int)) ∧ W.cell? ⟨w.heap.size, 4, none⟩ = some (.int .u64 (kl : Int))) ∧ W.cell? ⟨w.heap.size, 5, none⟩ = some (.int .i64 (dg : Int))) ∧ W.cell? ⟨rb, 2, none⟩ = some (.int .i64 (wd : Int))) (exact KQ (by repeat (first | with_reducible assumption | with_reducible exact Below.refl _ _ | with_reducible refine bl_alloc ?_ _ | with_reducible refine bl_drew ?_ | with_reducible refine Below.setCell ?_ (by dsimp only; omega) _ | fail))) (first | (go_at_call 11; with_reducible (refine Calls.mono (HPE.out _) ?_); rintro e wA ⟨rfl, bA⟩; have XA : Below w3.heap.size w3 wA := ch0 (by repeat (first | with_reducible assumption | with_reducible exact Below.refl _ _ | with_reducible refine bl_alloc ?_ _ | with_reducible refine bl_drew ?_ | fail)) bA; have sA := XA.size; (first | (have Z1 := bxal_drew bA) | (have Z1 := bxal bA) | skip); (try (obtain ⟨⟨y0, y1, y2, y3, y4, y5, y6⟩, y7⟩ := Z1.seven; have f0 := y7 0; have f1 := y7 1; have f2 := y7 2; have f3 := y7 3; have f4 := y7 4; have f5 := y7 5; have f6 := y7 6))) | fail)
    all_goals (go_wp2_with fail)
    all_goals (go_meet)
    all_goals (first | with_reducible exact ⟨_, rfl, hid (bl_alloc XA _), hid (bx_new _ _ _)⟩ | with_reducible exact ⟨_, rfl, hid (below7 XA (Nat.le_refl _)), hid (Bx.seven_set Z1)⟩ | exact ⟨_, rfl, hid (bl_alloc XA _), hid (bx_new _ _ _)⟩)
  case rest =>
  obtain ⟨b7, rfl, HBC, HX7⟩ := hcut
  have HX6 : Hid (Bx w2.heap.size 82 #[.slice (some ⟨sg, 0, none⟩) n sc, .bool true] wc) := hid (HX3.out.read HBC.out)
  obtain ⟨⟨x0, x1⟩, _⟩ := HX6.out.two
  obtain ⟨⟨y0, y1, y2, y3, y4, y5, y6⟩, _⟩ := HX7.out.seven
  have HSP := hid (spans_any (.slice (some ⟨sg, 0, none⟩) n sc) kh kl eh el wc rfl)
  rename ∀ (a : Act) (w : World), Code.wp Ybad.prog _ _ a w → _ => hKK
  refine hKK _ _ ?_
  clear hKK KQ
  go_upto_region 6 with (first | (go_at_call 35; with_reducible (refine Calls.mono HSP.out ?_); rintro e w4 ⟨rfl, hg4⟩) | fail)
  have hb4 := gr_below hg4
  have HX64 : Hid (Bx w2.heap.size 82 #[.slice (some ⟨sg, 0, none⟩) n sc, .bool true] w4) := hid (HX6.out.read hb4)
  have HX74 : Hid (Bx b7 65 #[.int .u64 0, .int .u64 0, .string ⟨#[]⟩, .int .u64 (kh : Int), .int .u64 (kl : Int), .int .u64 (eh : Int), .int .u64 (el : Int)] w4) := hid (HX7.out.read hb4)
  have HB34 : Hid (Below w3.heap.size w3 w4) := hid (HBC.out.trans (hb4.mono HBC.out.size))
  clear hg4 hb4 x0 x1 y0 y1 y2 y3 y4 y5 y6
  obtain ⟨⟨x0, x1⟩, _⟩ := HX64.out.two
  have HA4 : Hid (Arc rb sh sl ([⟨sh, sl, ⟨#[]⟩⟩] ++ d1 ++ d2) sg sc shs r w4) := hid ⟨HA3.out.ring, HA3.out.eq, HA3.out.len, own_below HA3.out.own HB34.out, HA3.out.ne⟩
  have h31 : n ≤ 31 := by rw [HN.out]; exact HA3.out.len
  have HSL : Hid (shs.length = n) := hid (by have := congrArg List.length HA3.out.eq; rw [List.length_map] at this; rw [this, HN.out])
  go_wp2_with fail
  go_loopw [9, 45] (fun s9 s45 v => ∃ (k : Nat) (sv2 : Value) (shs2 : List Sh), s9 = sv2 ∧ s45 = .int .i64 (k : Int) ∧ k ≤ n ∧ Hid (Below w4.heap.size w4 v) ∧ Hid (shs2.map Sh.c = (r.take k).filter (fun c => holdsV kh kl eh el c.hi c.lo)) ∧ Hid (shs2.length ≤ k) ∧ Hid (v.ownsRow w4.heap.size 65 7 sv2 shs2.length (encsS shs2))) (fun s9 s45 _ => n - (intOf s45).toNat)
  case atStart => exact ⟨0, _, [], rfl, rfl, Nat.zero_le _, hid (Below.refl _ _), hid rfl, hid (Nat.le_refl _), hid (World.ownsRow_nil _ _ _ _)⟩
  case round =>
    obtain ⟨k, _, shs2, rfl, rfl, hkn, HB, HMP, HLE, HOW⟩ := hrel
    have hle := HLE.out
    by_cases hlt : k < n
    · have hdl : decide ((k : Int) < (n : Int)) = true := by simp; omega
      have hdl2 : (k : Int) < (n : Int) := by omega
      obtain ⟨s, hs⟩ : ∃ s, shs[k]! = s := ⟨_, rfl⟩
      have hcell : ∀ i, i < 7 → wr.cell? ⟨sg, k * 7 + i, none⟩ = (Sh.enc s)[i]? := fun i hi => by
        have hrl : r.length = n := HN.out.symm
        rw [HB.out.cell (p := ⟨sg, k * 7 + i, none⟩) HA4.out.lt, HA4.out.own.cellAt _ (by rw [hrl]; omega), encsS_get shs k i (by rw [HSL.out]; exact hlt) hi, hs]
      have f0 := hcell 0 (by omega)
      have f1 := hcell 1 (by omega)
      have f2 := hcell 2 (by omega)
      have f3 := hcell 3 (by omega)
      have f4 := hcell 4 (by omega)
      have f5 := hcell 5 (by omega)
      have f6 := hcell 6 (by omega)
      clear hcell
      have HTK : Hid (r.take (k + 1) = r.take k ++ [s.c]) := hid (by
        have hkl : k < shs.length := by rw [HSL.out]; exact hlt
        have hkr : k < r.length := by rw [← HN.out]; exact hlt
        rw [List.take_add_one, List.getElem?_eq_getElem hkr]
        have : r[k] = s.c := by
          rw [← hs, getElem!_pos shs k hkl]
          have e := HA4.out.eq
          subst e
          simp
        rw [this]; rfl)
      clear hs
      obtain ⟨⟨ch, cl, ca⟩, sfh, sfl, slh, sll⟩ := s
      simp at f0 f1 f2 f3 f4 f5 f6
      obtain ⟨wa, hwa⟩ : ∃ wa, wa = wr.alloc (.cells #[.int .u64 (ch : Int), .int .u64 (cl : Int), .string ca, .int .u64 (sfh : Int), .int .u64 (sfl : Int), .int .u64 (slh : Int), .int .u64 (sll : Int)] 65) := ⟨_, rfl⟩
      have hba : Below wr.heap.size wr wa := hwa ▸ (Below.refl _ _).alloc (Nat.le_refl _) _
      have HXA : Hid (Bx wr.heap.size 65 #[.int .u64 (ch : Int), .int .u64 (cl : Int), .string ca, .int .u64 (sfh : Int), .int .u64 (sfl : Int), .int .u64 (slh : Int), .int .u64 (sll : Int)] wa) := hid (by rw [hwa]; exact heap_alloc_new _ _)
      have HBA : Hid (Below w4.heap.size w4 wa) := hid (HB.out.trans (hba.mono HB.out.size))
      have HOA : Hid (wa.ownsRow w4.heap.size 65 7 u9 shs2.length (encsS shs2)) := hid (own_below HOW.out hba)
      have HX7a : Hid (Bx b7 65 #[.int .u64 0, .int .u64 0, .string ⟨#[]⟩, .int .u64 (kh : Int), .int .u64 (kl : Int), .int .u64 (eh : Int), .int .u64 (el : Int)] wa) := hid (HX74.out.read HBA.out)
      clear hba
      have HHO := hid (fun W => holds_g ⟨0, 0, ⟨#[]⟩⟩ kh kl eh el ch cl W)
      obtain ⟨hv, hhv⟩ : ∃ hv, hv = holdsV kh kl eh el ch cl := ⟨_, rfl⟩
      rw [← hhv] at HHO
      have HHV := hid hhv
      clear hhv
      dsimp only [shv] at HHO
      go_upto_region 10 with fail
      rw [← hwa]
      clear hwa f0 f1 f2 f3 f4 f5 f6
      have a0 := grownB HX7a.out 0 _ rfl
      have a1 := grownB HX7a.out 1 _ rfl
      have a2 := grownB HX7a.out 2 _ rfl
      have a3 := grownB HX7a.out 3 _ rfl
      have a4 := grownB HX7a.out 4 _ rfl
      have a5 := grownB HX7a.out 5 _ rfl
      have a6 := grownB HX7a.out 6 _ rfl
      have e0 := grownB HXA.out 0 _ rfl
      have e1 := grownB HXA.out 1 _ rfl
      cases hv with
      | true =>
        refine wp_region_quiet_grown (by assumption) (by kernel_rfl) ?_
        repeat (first | go_big_quiet_skip | quiet_step (first | (go_at_call 36; with_reducible (refine Calls.grown_of (HHO.out _))) | fail))
        refine wpQuiet_nil ?_
        intro _ hw'
        obtain ⟨⟨nq, osq⟩, hw''⟩ := hw'
        subst hw''
        have hbq : Below wa.heap.size wa (grow (wa.drewN nq) osq) := gr_below ⟨nq, osq, rfl⟩
        obtain ⟨wq, hwq⟩ : ∃ wq, wq = grow (wa.drewN nq) osq := ⟨_, rfl⟩
        rw [← hwq] at hbq
        rw [← hwq]
        have HBQ : Hid (Below w4.heap.size w4 wq) := hid (HBA.out.trans (hbq.mono HBA.out.size))
        have HXQ := hid (HXA.out.read hbq)
        have HOQ := hid (own_below HOA.out hbq)
        have HZQ := hid HBQ.out.size
        obtain ⟨⟨q0, q1, q2, q3, q4, q5, q6⟩, _⟩ := HXQ.out.seven
        clear hwq hbq a0 a1 a2 a3 a4 a5 a6 e0 e1
        go_wp2_with (first | (at_builtin; go_must (refine wpList_append_own _ rfl _ _ 61 rfl w4.heap.size 65 i0 z65 7 64 Ybad.underlying61 hii hiz his hib rfl (by decide) _ shs2.length (encsS shs2) rfl (HOQ.out.alloc _) ⟨wq.heap.size, 0, none⟩ 1 1 (Sh.enc ⟨⟨ch, cl, ca⟩, sfh, sfl, slh, sll⟩) rfl rfl (news7 _ _ _ _ rfl) (fun u hu => by simp [Sh.enc] at hu; rcases hu with rfl | rfl | rfl | rfl | rfl | rfl | rfl <;> rfl) (by unfold maxLen; omega) (by omega) (by simp; have := HZQ.out; omega) ?_); go_must (intro v' w5 ho5 hg5 hnil5)) | fail)
        refine ⟨⟨k + 1, _, shs2 ++ [⟨⟨ch, cl, ca⟩, sfh, sfl, slh, sll⟩], rfl, congrArg _ (by omega), by omega, hid ((HBQ.out.alloc HZQ.out _).grown hg5 (by simp; have := HZQ.out; omega) (fun j hj => (HOQ.out.lt j hj).1)), hid ?_, hid (by simp; omega), hid (by rw [List.length_append, encsS_append]; exact ho5)⟩, ?_⟩
        · rw [HTK.out, List.filter_append, List.map_append, HMP.out]
          simp [← HHV.out]
        · show n - ((k : Int) + 1).toNat < n - ((k : Int)).toNat
          omega
      | false =>
        refine wp_region_quiet_grown (by assumption) (by kernel_rfl) ?_
        repeat (first | go_big_quiet_skip | quiet_step (first | (go_at_call 36; with_reducible (refine Calls.grown_of (HHO.out _))) | fail))
        refine wpQuiet_nil ?_
        intro _ hw'
        obtain ⟨⟨nq, osq⟩, hw''⟩ := hw'
        subst hw''
        have hbq : Below wa.heap.size wa (grow (wa.drewN nq) osq) := gr_below ⟨nq, osq, rfl⟩
        obtain ⟨wq, hwq⟩ : ∃ wq, wq = grow (wa.drewN nq) osq := ⟨_, rfl⟩
        rw [← hwq] at hbq
        rw [← hwq]
        have HBQ : Hid (Below w4.heap.size w4 wq) := hid (HBA.out.trans (hbq.mono HBA.out.size))
        have HOQ := hid (own_below HOA.out hbq)
        clear hwq hbq a0 a1 a2 a3 a4 a5 a6 e0 e1
        go_wp2
        refine ⟨⟨k + 1, _, shs2, rfl, congrArg _ (by omega), by omega, HBQ, hid ?_, hid (by omega), HOQ⟩, ?_⟩
        · rw [HTK.out, List.filter_append, HMP.out]
          simp [← HHV.out]
        · show n - ((k : Int) + 1).toNat < n - ((k : Int)).toNat
          omega
    · have hdl : decide ((k : Int) < (n : Int)) = false := by simp; omega
      have hkn2 : k = n := by omega
      subst hkn2
      have HTF : Hid (r.take k = r) := hid (by rw [HN.out, List.take_length])
      go_wp2
      refine bodyPost_ret (v := .tuple #[u9, .bool true]) (by simp [results, Ybad.results15, go_sem]) rfl ?_
      refine ⟨u9, shs2, r, rfl, HA3.out.ring, HA3.out.len, own_base HOW.out ?_, by rw [HMP.out, HTF.out], (HK3.out.below HB34.out).below HB.out, (HO3.out.trans (Only.of_below HB34.out)).trans (Only.of_below HB.out)⟩
      have := HB34.out.size
      have := HSB.out
      omega
end Go.Proofs.YbulkcntwDoor
