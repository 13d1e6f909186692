import Derived.Test.YbulkcntwDoorKnown
namespace Go.Proofs.YbulkcntwDoor
open Go.RowKit Go.Sort
set_option linter.unusedVariables false
set_option linter.unusedSimpArgs false

theorem bx_after (w : World) (a a' : Addr) (x y : Value) (cs : Array Value) (t : TypeId) : Bx w.heap.size t cs (((w.setCell a x).setCell a' y).alloc (.cells cs t)) := by
  have h := heap_alloc_new ((w.setCell a x).setCell a' y) (.cells cs t)
  rwa [show ((w.setCell a x).setCell a' y).heap.size = w.heap.size by simp] at h
set_option maxRecDepth 8000 in
set_option maxHeartbeats 40000000 in
theorem sharesOf_any (g n cap : Nat) (d : List C) (w : World) (hO : One w) (hR : Row g d w) (hn : n = d.length) (h31 : n ≤ 100) (hc : n ≤ cap) (hc2 : cap ≤ 9223372036854775807) (hok : ∀ c ∈ d, c.ok) :
    Calls Ybad.prog 48 #[.slice (some ⟨g, 0, none⟩) n cap, .bool true] w fun e w' => ∃ sv shs, e = .returned (.agg #[sv, .bool true]) ∧ shs.map Sh.c = d ∧ w'.ownsRow w.heap.size 65 7 sv n (encsS shs) ∧ Below w.heap.size w w' := by
  obtain ⟨i0, hii, hiz, his, hib⟩ := info_parts info65
  have HN := hid hn
  have HR := hid hR
  have HO := hid hO
  have HK := hid hok
  clear hn hR hO hok
  obtain ⟨w1, hw1⟩ : ∃ w1, w1 = (w.alloc (.cells #[.slice none 0 0, .bool false] 82)).alloc (.cells #[.slice none 0 0, .bool true] 82) := ⟨_, rfl⟩
  have HB1 : Hid (Below w.heap.size w w1) := hid (hw1 ▸ gr_below (g2 _ _ _))
  have HX1 : Hid (Bx w.heap.size 82 #[.slice none 0 0, .bool false] w1 ∧ Bx (w.heap.size + 1) 82 #[.slice none 0 0, .bool true] w1) := hid (by rw [hw1]; exact ⟨al2a _ _ _, al2b _ _ _⟩)
  have HZ1 : Hid (w1.heap.size = w.heap.size + 2) := hid (by simp [hw1])
  go_enter Ybad.func48, Ybad.ntmps48
  go_wp2_with fail
  rw [← hw1]
  clear hw1
  go_loopw [16] (fun s16 v => ∃ (k : Nat) (sv : Value) (shs : List Sh), s16 = .int .i64 (k : Int) ∧ k ≤ n ∧ Hid (shs.map Sh.c = d.take k) ∧ Hid (Below w.heap.size w v) ∧ Hid (Bx w.heap.size 82 #[.slice none 0 0, .bool false] v ∧ Bx (w.heap.size + 1) 82 #[sv, .bool true] v) ∧ Hid (v.ownsRow (w.heap.size + 2) 65 7 sv k (encsS shs))) (fun s16 _ => n - (intOf s16).toNat)
  case atStart => exact ⟨0, .slice none 0 0, [], rfl, Nat.zero_le _, hid rfl, HB1, HX1, hid (World.ownsRow_nil _ _ _ _)⟩
  case round =>
    obtain ⟨k, sv, shs, rfl, hkn, HSC, HB, HX, HOW⟩ := hrel
    have HBS := hid HB.out.size
    by_cases hlt : k < n
    · have hdl : decide ((k : Int) < (n : Int)) = true := by simp; omega
      have hdl2 : (k : Int) < (n : Int) := by omega
      have HRv : Hid (Row g d wr) := hid (HR.out.below HB.out HR.out.ic.lt)
      obtain ⟨a, ha⟩ : ∃ a, d[k]! = a := ⟨_, rfl⟩
      obtain ⟨f1, f2, f3⟩ := HRv.out.at k (by rw [← HN.out]; exact hlt)
      have HA : Hid (a.ok ∧ d.take (k + 1) = d.take k ++ [a]) := hid (by
        have hkl : k < d.length := by rw [← HN.out]; exact hlt
        rw [getElem!_pos d k hkl] at ha
        exact ⟨HK.out a (ha ▸ List.getElem_mem hkl), by rw [List.take_add_one, List.getElem?_eq_getElem hkl, ha]; rfl⟩)
      rw [ha] at f1 f2 f3
      clear ha
      obtain ⟨wa, hwa⟩ : ∃ wa, wa = wr.alloc (.cells a.arr 43) := ⟨_, rfl⟩
      have HBA : Hid (Below wr.heap.size wr wa) := hid (hwa ▸ (Below.refl _ _).alloc (Nat.le_refl _) _)
      have HXA : Hid (Bx wr.heap.size 43 a.arr wa) := hid (by rw [hwa]; exact heap_alloc_new _ _)
      have HRa : Hid (Row g d wa) := hid (HRv.out.read HBA.out)
      have HOa : Hid (One wa) := hid ((HO.out.below HB.out).below HBA.out)
      obtain ⟨jb, hjb⟩ : ∃ jb, jb = (k + n - 1) % n := ⟨_, rfl⟩
      obtain ⟨ja, hja⟩ : ∃ ja, ja = (k + 1) % n := ⟨_, rfl⟩
      have hjbn : jb < n := hjb ▸ Nat.mod_lt _ (by omega)
      have hjan : ja < n := hja ▸ Nat.mod_lt _ (by omega)
      have e1 : IntKind.i64.wrap ((k : Int) + (n : Int)) = (k : Int) + (n : Int) := i64w _ (by omega)
      have e2 : IntKind.i64.wrap ((k : Int) + (n : Int) - 1) = (k : Int) + (n : Int) - 1 := i64w _ (by omega)
      have e3 : ((k : Int) + (n : Int) - 1).tmod (n : Int) = (jb : Int) := by
        rw [Int.tmod_eq_emod_of_nonneg (by omega), hjb, show (k : Int) + (n : Int) - 1 = ((k + n - 1 : Nat) : Int) by omega]; rfl
      have e4 : IntKind.i64.wrap ((k : Int) + 1) = (k : Int) + 1 := i64w _ (by omega)
      have e5 : ((k : Int) + 1).tmod (n : Int) = (ja : Int) := by
        rw [Int.tmod_eq_emod_of_nonneg (by omega), hja]; rfl
      obtain ⟨x, hx⟩ : ∃ x, d[jb]! = x := ⟨_, rfl⟩
      obtain ⟨y, hy⟩ : ∃ y, d[ja]! = y := ⟨_, rfl⟩
      have HXY : Hid (x.ok ∧ y.ok) := hid (by
        have h1 : jb < d.length := by rw [← HN.out]; exact hjbn
        have h2 : ja < d.length := by rw [← HN.out]; exact hjan
        rw [getElem!_pos d jb h1] at hx
        rw [getElem!_pos d ja h2] at hy
        exact ⟨HK.out x (hx ▸ List.getElem_mem h1), HK.out y (hy ▸ List.getElem_mem h2)⟩)
      have KR : ∀ {W : World}, Below wa.heap.size wa W → (W.cell? ⟨g, jb * 3, none⟩ = some (.int .u64 (x.hi : Int)) ∧ W.cell? ⟨g, jb * 3 + 1, none⟩ = some (.int .u64 (x.lo : Int)) ∧ W.cell? ⟨g, jb * 3 + 2, none⟩ = some (.string x.ad)) ∧ (W.cell? ⟨g, ja * 3, none⟩ = some (.int .u64 (y.hi : Int)) ∧ W.cell? ⟨g, ja * 3 + 1, none⟩ = some (.int .u64 (y.lo : Int)) ∧ W.cell? ⟨g, ja * 3 + 2, none⟩ = some (.string y.ad)) := fun {W} X => by
        have r1 := (HRa.out.read X).at jb (by rw [← HN.out]; exact hjbn)
        have r2 := (HRa.out.read X).at ja (by rw [← HN.out]; exact hjan)
        rw [hx] at r1
        rw [hy] at r2
        exact ⟨r1, r2⟩
      obtain ⟨ah, al, aa⟩ := a
      obtain ⟨xh, xl, xa⟩ := x
      obtain ⟨yh, yl, ya⟩ := y
      dsimp only at f1 f2 f3 KR
      dsimp only [C.arr] at hwa HXA
      have hn0 : ¬ (n : Int) = 0 := by omega
      have hn00 : ¬ n = 0 := by omega
      have e6 : IntKind.i64.wrap (jb : Int) = (jb : Int) := i64w _ (by omega)
      have e7 : IntKind.i64.wrap (ja : Int) = (ja : Int) := i64w _ (by omega)
      have hji1 : (jb : Int) < (n : Int) := by omega
      have hji2 : (ja : Int) < (n : Int) := by omega
      clear hx hy hjb hja
      go_upto_region 6 with fail
      rw [← hwa]
      clear hwa f1 f2 f3
      go_cut [8, 9] from 33 to 51 (fun s8 s9 wc => ∃ b8 b9 : Nat, s8 = .pointer (some ⟨b8, 0, none⟩) ∧ s9 = .pointer (some ⟨b9, 0, none⟩) ∧ Hid (Below wa.heap.size wa wc) ∧ Hid (Bx b8 43 #[.int .u64 (xh : Int), .int .u64 (xl : Int), .string xa] wc ∧ Bx b9 43 #[.int .u64 (yh : Int), .int .u64 (yl : Int), .string ya] wc))
      case first =>
        go_region_held3 (fun W => (W.cell? ⟨g, jb * 3, none⟩ = some (.int .u64 (xh : Int)) ∧ W.cell? ⟨g, jb * 3 + 1, none⟩ = some (.int .u64 (xl : Int)) ∧ W.cell? ⟨g, jb * 3 + 2, none⟩ = some (.string xa)) ∧ (W.cell? ⟨g, ja * 3, none⟩ = some (.int .u64 (yh : Int)) ∧ W.cell? ⟨g, ja * 3 + 1, none⟩ = some (.int .u64 (yl : Int)) ∧ W.cell? ⟨g, ja * 3 + 2, none⟩ = some (.string ya))) (exact KR (by repeat (first | exact Below.refl _ _ | refine bl_alloc ?_ _ | refine bl_drew ?_ | (refine Below.setCell ?_ ?_ _ ; rotate_left; (simp; done); skip)))) (fail)
        all_goals (go_wp2_with fail)
        all_goals (go_meet)
        all_goals (first | exact ⟨_, _, rfl, rfl, hid (bl_drew (bl_alloc (bl_alloc (Below.refl _ _) _) _)), hid ⟨al2a _ _ _, al2b _ _ _⟩⟩ | exact ⟨_, _, rfl, rfl, hid (bl_drew (bl_alloc (bl_alloc (Below.refl _ _) _) _)), hid ⟨al2b _ _ _, al2a _ _ _⟩⟩)
      case rest =>
      obtain ⟨b8, b9, rfl, rfl, HBC, HXC⟩ := hcut
      have OW : ∀ {W : World}, Below wc.heap.size wc W → One W := fun {W} X => ((HOa.out.below HBC.out).below X)
      have HX7 : Hid (Bx wr.heap.size 43 #[.int .u64 (ah : Int), .int .u64 (al : Int), .string aa] wc) := hid (HXA.out.read HBC.out)
      have KQ : ∀ {W : World}, Below wc.heap.size wc W → ((W.cell? ⟨wr.heap.size, 0, none⟩ = some (.int .u64 (ah : Int)) ∧ W.cell? ⟨wr.heap.size, 1, none⟩ = some (.int .u64 (al : Int))) ∧ (W.cell? ⟨b8, 0, none⟩ = some (.int .u64 (xh : Int)) ∧ W.cell? ⟨b8, 1, none⟩ = some (.int .u64 (xl : Int)))) ∧ (W.cell? ⟨b9, 0, none⟩ = some (.int .u64 (yh : Int)) ∧ W.cell? ⟨b9, 1, none⟩ = some (.int .u64 (yl : Int))) ∧ W.cell? ⟨0, 0, none⟩ = some (.int .u64 0) ∧ W.cell? ⟨0, 1, none⟩ = some (.int .u64 1) := fun {W} X => by
        have v7 := (HX7.out.read X).three
        have v8 := (HXC.out.1.read X).three
        have v9 := (HXC.out.2.read X).three
        exact ⟨⟨⟨v7.1.1, v7.1.2.1⟩, v8.1.1, v8.1.2.1⟩, ⟨v9.1.1, v9.1.2.1⟩, (OW X).hi, (OW X).lo⟩
      have HSA := hid (fun W (h : One W) => shareStart_w xh xl ah al HXY.out.1.1 HXY.out.1.2 HA.out.1.1 HA.out.1.2 W h)
      have HSB := hid (fun W (h : One W) => shareStart_w ah al yh yl HA.out.1.1 HA.out.1.2 HXY.out.2.1 HXY.out.2.2 W h)
      have HSC2 := hid (fun a b W => sub_w a b 0 1 W)
      rename ∀ (a : Act) (w : World), Code.wp Ybad.prog _ _ a w → _ => hK
      refine hK _ _ ?_
      clear hK
      go_upto_region 7 with fail
      go_cut [10, 11] from 52 to 63 (fun s10 s11 wd => ∃ b10 b11 p1 p2 p3 p4 : Nat, s10 = .pointer (some ⟨b10, 0, none⟩) ∧ s11 = .pointer (some ⟨b11, 0, none⟩) ∧ Hid (Below wc.heap.size wc wd) ∧ Hid (Bx b10 26 #[.int .u64 (p1 : Int), .int .u64 (p2 : Int)] wd ∧ Bx b11 26 #[.int .u64 (p3 : Int), .int .u64 (p4 : Int)] wd))
      case first =>
        go_region_held3 (fun W => ((W.cell? ⟨wr.heap.size, 0, none⟩ = some (.int .u64 (ah : Int)) ∧ W.cell? ⟨wr.heap.size, 1, none⟩ = some (.int .u64 (al : Int))) ∧ (W.cell? ⟨b8, 0, none⟩ = some (.int .u64 (xh : Int)) ∧ W.cell? ⟨b8, 1, none⟩ = some (.int .u64 (xl : Int)))) ∧ (W.cell? ⟨b9, 0, none⟩ = some (.int .u64 (yh : Int)) ∧ W.cell? ⟨b9, 1, none⟩ = some (.int .u64 (yl : Int))) ∧ W.cell? ⟨0, 0, none⟩ = some (.int .u64 0) ∧ W.cell? ⟨0, 1, none⟩ = some (.int .u64 1)) (exact KQ (by repeat (first | with_reducible assumption | exact Below.refl _ _ | refine bl_alloc ?_ _ | refine bl_drew ?_ | refine Below.setCell ?_ (by dsimp only; omega) _ | fail))) (first | (go_at_call 61; with_reducible (refine Calls.mono (HSA.out _ (OW (by repeat (first | with_reducible assumption | exact Below.refl _ _ | refine bl_alloc ?_ _ | refine bl_drew ?_ | fail)))) ?_); rintro e wA ⟨⟨ga, gb, ⟨qga, qgb⟩, rfl⟩, bA⟩; have XA : Below wc.heap.size wc wA := ch0 (by repeat (first | with_reducible assumption | exact Below.refl _ _ | refine bl_alloc ?_ _ | refine bl_drew ?_ | fail)) bA; have sA := XA.size; (try (replace Z1 := Bx.thru Z1 (by repeat (first | with_reducible assumption | exact Below.refl _ _ | refine bl_alloc ?_ _ | refine bl_drew ?_ | fail)) bA)); (try (replace Z2 := Bx.thru Z2 (by repeat (first | with_reducible assumption | exact Below.refl _ _ | refine bl_alloc ?_ _ | refine bl_drew ?_ | fail)) bA)); (first | (have Z1 := bxal2a bA; have Z2 := bxal2b bA) | (have Z1 := bxal2a_drew bA; have Z2 := bxal2b_drew bA) | (have _t := Z1.lt; have Z2 := bxal bA) | (have _t := Z1.lt; have Z2 := bxal_drew bA) | (have Z1 := bxal bA) | (have Z1 := bxal_drew bA) | skip); (try (have l1 := Z1.lt; obtain ⟨⟨y0, y1⟩, y2, y3⟩ := Z1.two)); (try (have l2 := Z2.lt; obtain ⟨⟨z0, z1⟩, z2, z3⟩ := Z2.two))) | (go_at_call 61; with_reducible (refine Calls.mono (HSB.out _ (OW (by repeat (first | with_reducible assumption | exact Below.refl _ _ | refine bl_alloc ?_ _ | refine bl_drew ?_ | fail)))) ?_); rintro e wB ⟨⟨ha, hb, ⟨qha, qhb⟩, rfl⟩, bB⟩; have XB : Below wc.heap.size wc wB := ch0 (by repeat (first | with_reducible assumption | exact Below.refl _ _ | refine bl_alloc ?_ _ | refine bl_drew ?_ | fail)) bB; have sB := XB.size; (try (replace Z1 := Bx.thru Z1 (by repeat (first | with_reducible assumption | exact Below.refl _ _ | refine bl_alloc ?_ _ | refine bl_drew ?_ | fail)) bB)); (try (replace Z2 := Bx.thru Z2 (by repeat (first | with_reducible assumption | exact Below.refl _ _ | refine bl_alloc ?_ _ | refine bl_drew ?_ | fail)) bB)); (first | (have Z1 := bxal2a bB; have Z2 := bxal2b bB) | (have Z1 := bxal2a_drew bB; have Z2 := bxal2b_drew bB) | (have _t := Z1.lt; have Z2 := bxal bB) | (have _t := Z1.lt; have Z2 := bxal_drew bB) | (have Z1 := bxal bB) | (have Z1 := bxal_drew bB) | skip); (try (have l1 := Z1.lt; obtain ⟨⟨y0, y1⟩, y2, y3⟩ := Z1.two)); (try (have l2 := Z2.lt; obtain ⟨⟨z0, z1⟩, z2, z3⟩ := Z2.two))) | (go_at_call 12; with_reducible (refine Calls.mono (HSC2.out ha hb _) ?_); rintro e wC ⟨⟨ia, ib, ⟨qia, qib⟩, rfl⟩, bC⟩; have XC : Below wc.heap.size wc wC := ch0 (by repeat (first | with_reducible assumption | exact Below.refl _ _ | refine bl_alloc ?_ _ | refine bl_drew ?_ | fail)) bC; have sC := XC.size; (try (replace Z1 := Bx.thru Z1 (by repeat (first | with_reducible assumption | exact Below.refl _ _ | refine bl_alloc ?_ _ | refine bl_drew ?_ | fail)) bC)); (try (replace Z2 := Bx.thru Z2 (by repeat (first | with_reducible assumption | exact Below.refl _ _ | refine bl_alloc ?_ _ | refine bl_drew ?_ | fail)) bC)); (first | (have Z1 := bxal2a bC; have Z2 := bxal2b bC) | (have Z1 := bxal2a_drew bC; have Z2 := bxal2b_drew bC) | (have _t := Z1.lt; have Z2 := bxal bC) | (have _t := Z1.lt; have Z2 := bxal_drew bC) | (have Z1 := bxal bC) | (have Z1 := bxal_drew bC) | skip); (try (have l1 := Z1.lt; obtain ⟨⟨y0, y1⟩, y2, y3⟩ := Z1.two)); (try (have l2 := Z2.lt; obtain ⟨⟨z0, z1⟩, z2, z3⟩ := Z2.two))) | fail)
        all_goals (go_wp2_with fail)
        all_goals (go_meet)
        all_goals (exact ⟨_, _, ga, gb, ia, ib, rfl, rfl, hid (by repeat (first | with_reducible assumption | with_reducible exact Below.refl _ _ | with_reducible refine bl_alloc ?_ _ | with_reducible refine bl_drew ?_ | with_reducible refine Below.setCell ?_ (by dsimp only; omega) _ | fail)), hid ⟨by repeat (first | with_reducible assumption | (with_reducible refine Bx.alloc ?_ _; with_reducible assumption) | (with_reducible refine Bx.alloc ?_ _; with_reducible refine Bx.alloc ?_ _; with_reducible assumption) | (with_reducible refine Bx.alloc ?_ _; with_reducible refine Bx.two_set26 ?_; with_reducible assumption) | with_reducible refine Bx.two_set26 ?_ | with_reducible refine Bx.two_other ?_ (by omega) | with_reducible refine Bx.drew ?_ | with_reducible exact bx_after _ _ _ _ _ _ _ | exact bx_new _ _ _ | exact bx_2a _ _ _ _ | exact bx_2b _ _ _ _ | fail), by repeat (first | with_reducible assumption | (with_reducible refine Bx.alloc ?_ _; with_reducible assumption) | (with_reducible refine Bx.alloc ?_ _; with_reducible refine Bx.alloc ?_ _; with_reducible assumption) | (with_reducible refine Bx.alloc ?_ _; with_reducible refine Bx.two_set26 ?_; with_reducible assumption) | with_reducible refine Bx.two_set26 ?_ | with_reducible refine Bx.two_other ?_ (by omega) | with_reducible refine Bx.drew ?_ | with_reducible exact bx_after _ _ _ _ _ _ _ | exact bx_new _ _ _ | exact bx_2a _ _ _ _ | exact bx_2b _ _ _ _ | fail)⟩⟩)
      case rest =>
      obtain ⟨b10, b11, p1, p2, p3, p4, rfl, rfl, HBD, HXD⟩ := hcut
      have HBB : Hid (Below w.heap.size w wc) := hid (((HB.out.trans (HBA.out.mono HB.out.size)).trans (HBC.out.mono (HB.out.trans (HBA.out.mono HB.out.size)).size)).trans (HBD.out.mono ((HB.out.trans (HBA.out.mono HB.out.size)).trans (HBC.out.mono (HB.out.trans (HBA.out.mono HB.out.size)).size)).size))
      have HRD : Hid (Below wr.heap.size wr wc) := hid ((HBA.out.trans (HBC.out.mono HBA.out.size)).trans (HBD.out.mono (HBA.out.trans (HBC.out.mono HBA.out.size)).size))
      have HXK : Hid (Bx w.heap.size 82 #[.slice none 0 0, .bool false] wc ∧ Bx (w.heap.size + 1) 82 #[sv, .bool true] wc) := hid ⟨HX.out.1.read HRD.out, HX.out.2.read HRD.out⟩
      have HOD : Hid (wc.ownsRow (w.heap.size + 2) 65 7 sv k (encsS shs)) := hid (own_below HOW.out HRD.out)
      obtain ⟨⟨k0, _⟩, k1, _⟩ := HXK.out.2.two
      obtain ⟨⟨q1, q2, q3⟩, _⟩ := (HX7.out.read HBD.out).three
      obtain ⟨⟨q4, q5⟩, _⟩ := HXD.out.1.two
      obtain ⟨⟨q6, q7⟩, _⟩ := HXD.out.2.two
      have HZD : Hid (w.heap.size + 2 ≤ wc.heap.size) := hid (by have := HXK.out.2.lt; omega)
      rename ∀ (a : Act) (w : World), Code.wp Ybad.prog _ _ a w → _ => hK
      refine hK _ _ ?_
      clear hK KQ KR OW HSA HSB HSC2
      go_wp2_with (first | (at_builtin; go_must (refine wpList_append_own _ rfl _ _ 61 rfl (w.heap.size + 2) 65 i0 z65 7 64 Ybad.underlying61 hii hiz his hib rfl (by decide) _ k (encsS shs) rfl (HOD.out.alloc _) ⟨wc.heap.size, 0, none⟩ 1 1 (Sh.enc ⟨⟨ah, al, aa⟩, p1, p2, p3, p4⟩) rfl rfl (news7 _ _ _ _ rfl) (fun u hu => by simp [Sh.enc] at hu; rcases hu with rfl | rfl | rfl | rfl | rfl | rfl | rfl <;> rfl) (by unfold maxLen; omega) (by omega) (by simp; have := HZD.out; omega) ?_); go_must (intro v' w3 ho3 hg3 hnil3); go_must (obtain ⟨vp, vc, rfl, _⟩ := own_form ho3); go_must (have HB3 : Hid (Below (w.heap.size + 2) wc w3) := hid (((Below.refl _ _).alloc HZD.out _).grown hg3 (by simp; have := HZD.out; omega) (fun j hj => (HOD.out.lt j hj).1))); have HX3 := hid (HXK.out.2.below HB3.out (by omega)); have HY3 := hid (HXK.out.1.below HB3.out (by omega)); obtain ⟨⟨m0, m1⟩, m2, m3⟩ := HX3.out.two; have HO3 := hid ho3; clear ho3 hg3) | fail)
      refine ⟨⟨k + 1, .slice vp (k + 1) vc, shs ++ [⟨⟨ah, al, aa⟩, p1, p2, p3, p4⟩], congrArg _ (by omega), by omega, hid (by rw [List.map_append, HSC.out, HA.out.2]; rfl), hid ?_, hid ⟨?_, ?_⟩, hid ?_⟩, ?_⟩
      · exact (HBB.out.trans (HB3.out.mono (by omega))).setCell (by dsimp only; omega) _
      · exact HY3.out.other _ _ _ (by omega)
      · exact HX3.out.set 0 _
      · rw [encsS_append]
        exact ownsRow_setCell_below HO3.out (by dsimp only; omega) _
      · show n - ((k : Int) + 1).toNat < n - ((k : Int)).toNat
        omega
    · have hdl : decide ((k : Int) < (n : Int)) = false := by simp; omega
      have hkn2 : k = n := by omega
      subst hkn2
      obtain ⟨sp, sc, rfl, _⟩ := own_form HOW.out
      obtain ⟨⟨k0, k1⟩, _⟩ := HX.out.2.two
      obtain ⟨⟨j0, j1⟩, j2, j3⟩ := HX.out.1.two
      have r0 : (wr.setCell ⟨w.heap.size, 0, none⟩ (.slice sp k sc)).cell? ⟨w.heap.size, 0, none⟩ = some (.slice sp k sc) := World.cell?_setCell_same _ _ _ j0
      have r1 : ((wr.setCell ⟨w.heap.size, 0, none⟩ (.slice sp k sc)).setCell ⟨w.heap.size, 1, none⟩ (.bool true)).cell? ⟨w.heap.size, 1, none⟩ = some (.bool true) := World.cell?_setCell_same _ _ _ ((sc_off _ _ _ _ _ _ (by omega)).trans j1)
      have HF : Hid (shs.map Sh.c = d) := hid (by rw [HSC.out, HN.out, List.take_length])
      go_wp2
      refine bodyPost_ret (v := .agg #[.slice sp k sc, .bool true]) (by simp [results, Ybad.results48, go_sem, r0, r1]) rfl ?_
      exact ⟨_, shs, rfl, HF.out, own_base (ownsRow_setCell_below (ownsRow_setCell_below HOW.out (by dsimp only; omega) _) (by dsimp only; omega) _) (by omega), (HB.out.setCell (by dsimp only; omega) _).setCell (by dsimp only; omega) _⟩
theorem shares_ok : SharesOk := sharesOf_any
end Go.Proofs.YbulkcntwDoor
