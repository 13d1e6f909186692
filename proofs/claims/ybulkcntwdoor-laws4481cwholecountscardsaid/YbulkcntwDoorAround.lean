import Derived.Test.YbulkcntwDoorGrow
import Derived.Test.YbulkcntwDoorSort
import Derived.Test.YbulkcntwDoorShDef
namespace Go.Proofs.YbulkcntwDoor
open Go.RowKit Go.Sort
set_option linter.unusedVariables false
set_option linter.unusedSimpArgs false


/-- Two boxes turned, all else as it was. -/
structure Two (b b' : Nat) (x y : Value) (W wt : World) : Prop where
  one : Bx b 31 #[x] wt
  two : Bx b' 31 #[y] wt
  blk : ∀ k, ¬ k = b → ¬ k = b' → wt.heap[k]? = W.heap[k]?
  size : wt.heap.size = W.heap.size
  os : wt.os = W.os
  tape : wt.tape = W.tape
  output : wt.output = W.output
theorem two_ab {b b' : Nat} {x y u v : Value} {W : World} (h1 : Bx b 31 #[u] W) (h2 : Bx b' 31 #[v] W) (hb : ¬ b = b') : Two b b' x y W ((W.setCell ⟨b, 0, none⟩ x).setCell ⟨b', 0, none⟩ y) :=
  ⟨(h1.set 0 x).other b' 0 y hb, (h2.other b 0 x (fun e => hb e.symm)).set 0 y, fun k k1 k2 => (Below.heap_setCell _ _ _ _ k2).trans (Below.heap_setCell _ _ _ _ k1), by simp, rfl, rfl, rfl⟩
theorem two_ba {b b' : Nat} {x y u v : Value} {W : World} (h1 : Bx b 31 #[u] W) (h2 : Bx b' 31 #[v] W) (hb : ¬ b = b') : Two b b' x y W ((W.setCell ⟨b', 0, none⟩ y).setCell ⟨b, 0, none⟩ x) :=
  ⟨(h1.other b' 0 y hb).set 0 x, (h2.set 0 y).other b 0 x (fun e => hb e.symm), fun k k1 k2 => (Below.heap_setCell _ _ _ _ k1).trans (Below.heap_setCell _ _ _ _ k2), by simp, rfl, rfl, rfl⟩

/-- The routes at rb: all that the walks read of them. -/
structure Rts (rb sh sl wd mb : Nat) (L : List (Nat × Nat)) (g1 n1 c1 g2 n2 c2 : Nat) (d1 d2 : List C) (w : World) : Prop where
  hi : w.cell? ⟨rb, 0, none⟩ = some (.int .u64 (sh : Int))
  lo : w.cell? ⟨rb, 1, none⟩ = some (.int .u64 (sl : Int))
  wid : w.cell? ⟨rb, 2, none⟩ = some (.int .i64 (wd : Int))
  cw : w.cell? ⟨rb, 4, none⟩ = some (.slice (some ⟨g1, 0, none⟩) n1 c1)
  ccw : w.cell? ⟨rb, 5, none⟩ = some (.slice (some ⟨g2, 0, none⟩) n2 c2)
  stp : w.cell? ⟨rb, 6, none⟩ = some (.map (some mb))
  mks : w.cell? ⟨rb, 7, none⟩ = some (.map none)
  mp : Mp w mb L
  r1 : Row g1 d1 w
  r2 : Row g2 d2 w
  l1 : n1 = d1.length
  l2 : n2 = d2.length
  b1 : n1 ≤ 15 ∧ n1 ≤ c1 ∧ c1 ≤ 9223372036854775807
  b2 : n2 ≤ 15 ∧ n2 ≤ c2 ∧ c2 ≤ 9223372036854775807
section
variable {rb sh sl wd mb : Nat} {L : List (Nat × Nat)} {g1 n1 c1 g2 n2 c2 : Nat} {d1 d2 : List C} {w w' : World}
theorem Rts.below (h : Rts rb sh sl wd mb L g1 n1 c1 g2 n2 c2 d1 d2 w) (hb : Below w.heap.size w w') : Rts rb sh sl wd mb L g1 n1 c1 g2 n2 c2 d1 d2 w' :=
  have hl := lt_of_cell h.hi
  have e : ∀ i, w'.cell? ⟨rb, i, none⟩ = w.cell? ⟨rb, i, none⟩ := fun i => hb.cell (p := ⟨rb, i, none⟩) hl
  ⟨(e 0).trans h.hi, (e 1).trans h.lo, (e 2).trans h.wid, (e 4).trans h.cw, (e 5).trans h.ccw, (e 6).trans h.stp, (e 7).trans h.mks, h.mp.below hb, h.r1.read hb, h.r2.read hb, h.l1, h.l2, h.b1, h.b2⟩
end

set_option maxHeartbeats 4000000 in
theorem around_any (lv : Bool) (rb sh sl wd mb : Nat) (L : List (Nat × Nat)) (g1 n1 c1 g2 n2 c2 : Nat) (d1 d2 : List C) (w : World) (hT : Rts rb sh sl wd mb L g1 n1 c1 g2 n2 c2 d1 d2 w) :
    Calls Ybad.prog 14 #[.pointer (some ⟨rb, 0, none⟩), .bool lv] w fun e w' => ∃ g cap, ∃ d' : List C, e = .returned (.tuple #[.slice (some ⟨g, 0, none⟩) d'.length cap, .bool true]) ∧ w.heap.size ≤ g ∧ d'.length ≤ cap ∧ d'.length ≤ 31 ∧ cap ≤ 9223372036854775807 ∧ Row g d' w' ∧ Below w.heap.size w w' ∧ (lv = false → ∃ ds : List C, ds.Perm ([⟨sh, sl, ⟨#[]⟩⟩] ++ d1 ++ d2) ∧ Sorted sh sl ds ∧ d' = comp ds ds.length) := by
  have HT0 := hid hT
  have HRB : Hid (rb < w.heap.size) := hid (lt_of_cell hT.hi)
  obtain ⟨w1, hw1⟩ : ∃ w1, w1 = (w.alloc (.cells #[.pointer (some ⟨rb, 0, none⟩)] 53)).alloc (.cells #[.int .u64 (sh : Int), .int .u64 (sl : Int), .string ⟨#[]⟩] 43) := ⟨_, rfl⟩
  have hb1 : Below w.heap.size w w1 := hw1 ▸ gr_below (YbulkcntwDoor.g2 _ _ _)
  have HX1 : Hid (Bx w.heap.size 53 #[.pointer (some ⟨rb, 0, none⟩)] w1 ∧ Bx (w.heap.size + 1) 43 #[.int .u64 (sh : Int), .int .u64 (sl : Int), .string ⟨#[]⟩] w1) := hid (by rw [hw1]; exact ⟨al2a _ _ _, al2b _ _ _⟩)
  have HT1 := hid (hT.below hb1)
  have HB1 := hid hb1
  have HZ1 : Hid (w1.heap.size = w.heap.size + 2) := hid (by simp [hw1])
  have a0 : (w.alloc (.cells #[.pointer (some ⟨rb, 0, none⟩)] 53)).cell? ⟨rb, 0, none⟩ = some (.int .u64 (sh : Int)) := (((Below.refl _ w).alloc (Nat.le_refl _) _).cell (p := ⟨rb, 0, none⟩) (lt_of_cell hT.hi)).trans hT.hi
  have a1 : (w.alloc (.cells #[.pointer (some ⟨rb, 0, none⟩)] 53)).cell? ⟨rb, 1, none⟩ = some (.int .u64 (sl : Int)) := (((Below.refl _ w).alloc (Nat.le_refl _) _).cell (p := ⟨rb, 1, none⟩) (lt_of_cell hT.hi)).trans hT.lo
  clear hT hb1
  have HP1 := hid (fun W h => placed_any rb g1 n1 c1 W h HT0.out.b1.1 HT0.out.b1.2.1 HT0.out.b1.2.2)
  have HP2 := hid (fun W h => placed_any rb g2 n2 c2 W h HT0.out.b2.1 HT0.out.b2.2.1 HT0.out.b2.2.2)
  have MK : ∀ {W : World}, Below w1.heap.size w1 W → W.cell? ⟨rb, 7, none⟩ = some (.map none) := fun {W} X => (HT1.out.below X).mks
  have KQ : ∀ {W : World}, Below w1.heap.size w1 W → (W.cell? ⟨w.heap.size, 0, none⟩ = some (.pointer (some ⟨rb, 0, none⟩)) ∧ W.cell? ⟨rb, 4, none⟩ = some (.slice (some ⟨g1, 0, none⟩) n1 c1)) ∧ W.cell? ⟨rb, 5, none⟩ = some (.slice (some ⟨g2, 0, none⟩) n2 c2) := fun {W} X => ⟨⟨(HX1.out.1.read X).cell 0, (HT1.out.below X).cw⟩, (HT1.out.below X).ccw⟩
  go_enter Ybad.func14, Ybad.ntmps14
  go_upto_region 2 with fail
  rw [← hw1]
  clear hw1
  go_cut [7, 8] from 17 to 28 (fun s7 s8 wc => ∃ b7 b8 : Nat, s7 = .pointer (some ⟨b7, 0, none⟩) ∧ s8 = .pointer (some ⟨b8, 0, none⟩) ∧ w1.heap.size ≤ b7 ∧ w1.heap.size ≤ b8 ∧ ¬ b7 = b8 ∧ Hid (Below w1.heap.size w1 wc) ∧ Hid (Bx b7 31 #[.slice (some ⟨g1, 0, none⟩) n1 c1] wc ∧ Bx b8 31 #[.slice (some ⟨g2, 0, none⟩) n2 c2] wc))
  case first =>
    go_region_held3 (fun W => (W.cell? ⟨w.heap.size, 0, none⟩ = some (.pointer (some ⟨rb, 0, none⟩)) ∧ W.cell? ⟨rb, 4, none⟩ = some (.slice (some ⟨g1, 0, none⟩) n1 c1)) ∧ W.cell? ⟨rb, 5, none⟩ = some (.slice (some ⟨g2, 0, none⟩) n2 c2)) (exact KQ (by repeat (first | assumption | exact Below.refl _ _ | refine bl_alloc ?_ _ | refine bl_drew ?_ | refine Below.setCell ?_ (by dsimp only; omega) _ | fail))) (first | (go_at_call 21; with_reducible (refine Calls.mono (HP1.out _ (MK (by repeat (first | assumption | exact Below.refl _ _ | refine bl_alloc ?_ _ | refine bl_drew ?_ | fail)))) ?_); rintro e wA ⟨rfl, hwA⟩; subst hwA) | (go_at_call 21; with_reducible (refine Calls.mono (HP2.out _ (MK (by repeat (first | assumption | exact Below.refl _ _ | refine bl_alloc ?_ _ | refine bl_drew ?_ | fail)))) ?_); rintro e wB ⟨rfl, hwB⟩; subst hwB) | fail)
    all_goals (go_wp2_with fail)
    all_goals (go_meet)
    all_goals (first | exact ⟨_, _, rfl, rfl, by omega, by omega, by omega, hid (bl_drew (bl_alloc (bl_alloc (Below.refl _ _) _) _)), hid ⟨al2a _ _ _, al2b _ _ _⟩⟩ | exact ⟨_, _, rfl, rfl, by omega, by omega, by omega, hid (bl_drew (bl_alloc (bl_alloc (Below.refl _ _) _) _)), hid ⟨al2b _ _ _, al2a _ _ _⟩⟩)
  case rest =>
  obtain ⟨b7, b8, rfl, rfl, hb7, hb8, hb78, HBC, HXC⟩ := hcut
  have HME := hid (meet_any b7 b8 w.heap.size _ n1 c1 wc (HXC.out.1.cell 0) HT0.out.b1.1)
  rename ∀ (a : Act) (w : World), Code.wp Ybad.prog _ _ a w → _ => hK
  refine hK _ _ ?_
  clear hK KQ MK HP1 HP2
  cases lv with
  | false =>
    go_upto_region 10 with (first | (go_at_call 22; with_reducible (refine Calls.mono HME.out ?_); rintro e wt ⟨rfl, hgt⟩) | fail)
    have hbt := gr_below hgt
    have HBT : Hid (Below w.heap.size w wt) := hid ((HB1.out.trans (HBC.out.mono HB1.out.size)).trans (hbt.mono (HB1.out.trans (HBC.out.mono HB1.out.size)).size))
    have HT : Hid (Bx (w.heap.size + 1) 43 #[.int .u64 (sh : Int), .int .u64 (sl : Int), .string ⟨#[]⟩] wt ∧ Bx b7 31 #[.slice (some ⟨g1, 0, none⟩) n1 c1] wt ∧ Bx b8 31 #[.slice (some ⟨g2, 0, none⟩) n2 c2] wt ∧ True) := hid ⟨(HX1.out.2.read HBC.out).read hbt, HXC.out.1.read hbt, HXC.out.2.read hbt, trivial⟩
    have HSL : Hid (Slf w.heap.size rb sh sl wt) := hid ⟨((HX1.out.1.read HBC.out).read hbt).cell 0, ((HT1.out.below HBC.out).below hbt).hi, ((HT1.out.below HBC.out).below hbt).lo⟩
    have HRA : Hid (Row g1 d1 wt ∧ Row g2 d2 wt) := hid ⟨((HT1.out.below HBC.out).below hbt).r1, ((HT1.out.below HBC.out).below hbt).r2⟩
    have HLN : Hid (n1 = d1.length ∧ n2 = d2.length ∧ n1 ≤ 15 ∧ n2 ≤ 15) := hid ⟨HT0.out.l1, HT0.out.l2, HT0.out.b1.1, HT0.out.b2.1⟩
    clear hgt hbt
    have c6 := HT.out.1.three
    have c7 := HT.out.2.1.cell 0
    have c8 := HT.out.2.2.1.cell 0
    simp at c7 c8
    obtain ⟨⟨c61, c62, c63⟩, _⟩ := c6
    have c7' : (wt.alloc (.cells #[.int .u64 (sh : Int), .int .u64 (sl : Int), .string ⟨#[]⟩] 43)).cell? ⟨b7, 0, none⟩ = _ := (((Below.refl _ wt).alloc (Nat.le_refl _) _).cell (p := ⟨b7, 0, none⟩) (lt_of_cell c7)).trans c7
    have c8' : (wt.alloc (.cells #[.int .u64 (sh : Int), .int .u64 (sl : Int), .string ⟨#[]⟩] 43)).cell? ⟨b8, 0, none⟩ = _ := (((Below.refl _ wt).alloc (Nat.le_refl _) _).cell (p := ⟨b8, 0, none⟩) (lt_of_cell c8)).trans c8
    obtain ⟨wz, hwz⟩ : ∃ wz, wz = (wt.alloc (.cells #[.int .u64 (sh : Int), .int .u64 (sl : Int), .string ⟨#[]⟩] 43)).alloc (.cells #[.slice (some ⟨wt.heap.size, 0, none⟩) 1 1, .slice (some ⟨g1, 0, none⟩) n1 c1, .slice (some ⟨g2, 0, none⟩) n2 c2] 31) := ⟨_, rfl⟩
    have hbz : Below wt.heap.size wt wz := hwz ▸ gr_below (YbulkcntwDoor.g2 _ _ _)
    have HZ : Hid (Bx (wt.heap.size + 1) 31 #[.slice (some ⟨wt.heap.size, 0, none⟩) 1 1, .slice (some ⟨g1, 0, none⟩) n1 c1, .slice (some ⟨g2, 0, none⟩) n2 c2] wz ∧ Row wt.heap.size [⟨sh, sl, ⟨#[]⟩⟩] wz) := hid (by
      rw [hwz]
      refine ⟨al2b _ _ _, ⟨_, _, al2a _ _ _⟩, fun k hk => ?_⟩
      have hk0 : k = 0 := by simp at hk; omega
      subst hk0
      have B : Bx wt.heap.size 43 #[.int .u64 (sh : Int), .int .u64 (sl : Int), .string ⟨#[]⟩] ((wt.alloc (.cells #[.int .u64 (sh : Int), .int .u64 (sl : Int), .string ⟨#[]⟩] 43)).alloc (.cells #[.slice (some ⟨wt.heap.size, 0, none⟩) 1 1, .slice (some ⟨g1, 0, none⟩) n1 c1, .slice (some ⟨g2, 0, none⟩) n2 c2] 31)) := al2a _ _ _
      exact ⟨B.cell 0, B.cell 1, B.cell 2⟩)
    have HCC := hid (concat_of grow_any (wt.heap.size + 1) 3 wt.heap.size 1 1 g1 n1 c1 g2 n2 c2 [⟨sh, sl, ⟨#[]⟩⟩] d1 d2 wz (HZ.out.1.cell 0) (HZ.out.1.cell 1) (HZ.out.1.cell 2) HZ.out.2 (HRA.out.1.read hbz) (HRA.out.2.read hbz) rfl HLN.out.1 HLN.out.2.1 (by omega) (by omega) (by have := HLN.out.2.2.1; omega) (by have := HLN.out.2.2.2; omega))
    have HBZ := hid hbz
    clear hbz
    have HLD : Hid (([⟨sh, sl, ⟨#[]⟩⟩] ++ d1 ++ d2 : List C).length = 1 + n1 + n2) := hid (by simp [HLN.out.1, HLN.out.2.1]; omega)
    go_upto_region 12 with fail
    go_wp2_with fail
    rw [← hwz]
    have HWZ : Hid (wz.heap.size = wt.heap.size + 2) := hid (by simp [hwz])
    clear hwz
    with_reducible (refine Calls.mono HCC.out ?_)
    rintro e w4 ⟨g, cap, rfl, hg, hcap1, hcap2, hr4, hb4⟩
    have HB4 := hid ((HBT.out.trans (HBZ.out.mono HBT.out.size)).trans (hb4.mono (HBT.out.trans (HBZ.out.mono HBT.out.size)).size))
    have HG : Hid (wt.heap.size + 2 ≤ g) := hid (by have := HWZ.out; omega)
    have HS4 : Hid (Slf w.heap.size rb sh sl w4) := hid ((HSL.out.below (B := 0) HBZ.out).below (B := 0) hb4)
    have HQ := hid (sort_any w.heap.size rb sh sl g cap ([⟨sh, sl, ⟨#[]⟩⟩] ++ d1 ++ d2) w4 HS4.out (by have := HG.out; have := HBT.out.size; omega) (by have := HG.out; have := HBT.out.size; have := HRB.out; omega) hr4 (by rw [HLD.out]; have := HLN.out.2.2; omega))
    rw [HLD.out] at HQ
    clear hb4 hr4
    go_wp2_with (first | (go_at_call 28; with_reducible (refine Calls.mono HQ.out ?_); rintro e w5 ⟨rfl, ds, hperm, hsrt, ho5, hr5⟩; have HDL : Hid (1 + n1 + n2 = ds.length) := hid (by rw [hperm.length_eq, HLD.out]); have HCM := hid (compact_any g (1 + n1 + n2) cap ds w5 hr5 HDL.out (by omega) hcap2); have HO5 := hid ho5; have HPS := hid (And.intro hperm hsrt); clear hr5 ho5 hperm hsrt) | (go_at_call 30; with_reducible (refine Calls.mono HCM.out ?_); rintro e w6 ⟨rfl, ho6, hr6⟩) | fail)
    refine bodyPost_ret (v := .tuple #[.slice (some ⟨g, 0, none⟩) (comp ds (1 + n1 + n2)).length cap, .bool true]) (by simp [results, Ybad.results14, go_sem]) rfl ?_
    have hcl := comp_len ds (1 + n1 + n2)
    refine ⟨g, cap, comp ds (1 + n1 + n2), rfl, by have := HG.out; have := HBT.out.size; omega, by omega, by have := HLN.out.2.2; omega, hcap2, hr6, (HO5.out.trans ho6).below HB4.out (by have := HB4.out.size; omega) (by have := HG.out; have := HBT.out.size; omega), by first | exact ⟨ds, HPS.out.1, HPS.out.2, by rw [HDL.out]⟩ | exact fun _ => ⟨ds, HPS.out.1, HPS.out.2, by rw [HDL.out]⟩⟩
  | true =>
    go_upto_region 6 with (first | (go_at_call 22; with_reducible (refine Calls.mono HME.out ?_); rintro e wm ⟨rfl, hgt⟩) | fail)
    have hbt := gr_below hgt
    have HBM : Hid (Below w.heap.size w wm) := hid ((HB1.out.trans (HBC.out.mono HB1.out.size)).trans (hbt.mono (HB1.out.trans (HBC.out.mono HB1.out.size)).size))
    have HXM : Hid (Bx b7 31 #[.slice (some ⟨g1, 0, none⟩) n1 c1] wm ∧ Bx b8 31 #[.slice (some ⟨g2, 0, none⟩) n2 c2] wm) := hid ⟨HXC.out.1.read hbt, HXC.out.2.read hbt⟩
    have HXS : Hid (Bx w.heap.size 53 #[.pointer (some ⟨rb, 0, none⟩)] wm ∧ Bx (w.heap.size + 1) 43 #[.int .u64 (sh : Int), .int .u64 (sl : Int), .string ⟨#[]⟩] wm) := hid ⟨(HX1.out.1.read HBC.out).read hbt, (HX1.out.2.read HBC.out).read hbt⟩
    have HTM := hid ((HT1.out.below HBC.out).below hbt)
    have HSM : Hid (w.heap.size + 2 ≤ b7 ∧ w.heap.size + 2 ≤ b8 ∧ b7 < wm.heap.size ∧ b8 < wm.heap.size) := hid (by have := HZ1.out; exact ⟨by omega, by omega, HXM.out.1.lt, HXM.out.2.lt⟩)
    clear hgt hbt
    have hsw := HSM.out
    have HL1 := hid (fun W (X : Below wm.heap.size wm W) => live_w rb mb L g1 n1 c1 d1 W (HTM.out.below X).stp (HTM.out.below X).mp (HTM.out.below X).r1 HT0.out.l1 (by have := HT0.out.b1.1; omega) HT0.out.b1.2.1 HT0.out.b1.2.2)
    have HL2 := hid (fun W (X : Below wm.heap.size wm W) => live_w rb mb L g2 n2 c2 d2 W (HTM.out.below X).stp (HTM.out.below X).mp (HTM.out.below X).r2 HT0.out.l2 (by have := HT0.out.b2.1; omega) HT0.out.b2.2.1 HT0.out.b2.2.2)
    have KL : ∀ {W : World}, Below wm.heap.size wm W → (W.cell? ⟨w.heap.size, 0, none⟩ = some (.pointer (some ⟨rb, 0, none⟩)) ∧ W.cell? ⟨rb, 4, none⟩ = some (.slice (some ⟨g1, 0, none⟩) n1 c1)) ∧ W.cell? ⟨rb, 5, none⟩ = some (.slice (some ⟨g2, 0, none⟩) n2 c2) := fun {W} X => ⟨⟨(HXS.out.1.read X).cell 0, (HTM.out.below X).cw⟩, (HTM.out.below X).ccw⟩
    have KS : ∀ {W : World} {a : Nat} {v : Value}, (a = b7 ∨ a = b8) → ((W.cell? ⟨w.heap.size, 0, none⟩ = some (.pointer (some ⟨rb, 0, none⟩)) ∧ W.cell? ⟨rb, 4, none⟩ = some (.slice (some ⟨g1, 0, none⟩) n1 c1)) ∧ W.cell? ⟨rb, 5, none⟩ = some (.slice (some ⟨g2, 0, none⟩) n2 c2)) → (((W.setCell ⟨a, 0, none⟩ v).cell? ⟨w.heap.size, 0, none⟩ = some (.pointer (some ⟨rb, 0, none⟩)) ∧ (W.setCell ⟨a, 0, none⟩ v).cell? ⟨rb, 4, none⟩ = some (.slice (some ⟨g1, 0, none⟩) n1 c1)) ∧ (W.setCell ⟨a, 0, none⟩ v).cell? ⟨rb, 5, none⟩ = some (.slice (some ⟨g2, 0, none⟩) n2 c2)) := fun {W a v} ha h => by
      have hr := HRB.out
      rw [sc_ne _ _ _ _ _ _ (by omega), sc_ne _ _ _ _ _ _ (by omega), sc_ne _ _ _ _ _ _ (by omega)]
      exact h
    have HGL : Hid (g1 < w.heap.size ∧ g2 < w.heap.size) := hid ⟨HT0.out.r1.ic.lt, HT0.out.r2.ic.lt⟩
    go_region_held3 (fun W => (W.cell? ⟨w.heap.size, 0, none⟩ = some (.pointer (some ⟨rb, 0, none⟩)) ∧ W.cell? ⟨rb, 4, none⟩ = some (.slice (some ⟨g1, 0, none⟩) n1 c1)) ∧ W.cell? ⟨rb, 5, none⟩ = some (.slice (some ⟨g2, 0, none⟩) n2 c2)) (first | (with_reducible (exact KS (.inl rfl) (KS (.inr rfl) (KL (by repeat (first | assumption | with_reducible exact Below.refl _ _ | with_reducible refine bl_alloc ?_ _ | with_reducible refine bl_drew ?_ | fail)))))) | (with_reducible (exact KS (.inr rfl) (KS (.inl rfl) (KL (by repeat (first | assumption | with_reducible exact Below.refl _ _ | with_reducible refine bl_alloc ?_ _ | with_reducible refine bl_drew ?_ | fail)))))) | (with_reducible (exact KS (.inl rfl) (KL (by repeat (first | assumption | with_reducible exact Below.refl _ _ | with_reducible refine bl_alloc ?_ _ | with_reducible refine bl_drew ?_ | fail))))) | (with_reducible (exact KS (.inr rfl) (KL (by repeat (first | assumption | with_reducible exact Below.refl _ _ | with_reducible refine bl_alloc ?_ _ | with_reducible refine bl_drew ?_ | fail))))) | (exact KL (by repeat (first | assumption | with_reducible exact Below.refl _ _ | with_reducible refine bl_alloc ?_ _ | with_reducible refine bl_drew ?_ | fail))) | fail) (first | (go_at_call 25; with_reducible (refine Calls.mono (HL1.out _ (by repeat (first | assumption | with_reducible exact Below.refl _ _ | with_reducible refine bl_alloc ?_ _ | with_reducible refine bl_drew ?_ | fail))) ?_); rintro e wA ⟨gA, nA, cA, dA, rfl, hgA, hlA, hnA, hcA, hmA, hrA, bA⟩; have XA : Below wm.heap.size wm wA := ch0 (by repeat (first | assumption | with_reducible exact Below.refl _ _ | with_reducible refine bl_alloc ?_ _ | with_reducible refine bl_drew ?_ | fail)) bA; have hggA : gA = g1 ∨ wm.heap.size ≤ gA := hgA.imp id (fun h => Nat.le_trans (show Below wm.heap.size wm _ from by repeat (first | assumption | with_reducible exact Below.refl _ _ | with_reducible refine bl_alloc ?_ _ | with_reducible refine bl_drew ?_ | fail)).size h); have sA := XA.size; (try (replace hrA := hrA.read bA)); (try (replace hrB := hrB.read bA)); obtain ⟨y0, y1⟩ := (HXM.out.1.read XA).one; obtain ⟨z0, z1⟩ := (HXM.out.2.read XA).one) | (go_at_call 25; with_reducible (refine Calls.mono (HL2.out _ (by repeat (first | assumption | with_reducible exact Below.refl _ _ | with_reducible refine bl_alloc ?_ _ | with_reducible refine bl_drew ?_ | fail))) ?_); rintro e wB ⟨gB, nB, cB, dB, rfl, hgB, hlB, hnB, hcB, hmB, hrB, bB⟩; have XB : Below wm.heap.size wm wB := ch0 (by repeat (first | assumption | with_reducible exact Below.refl _ _ | with_reducible refine bl_alloc ?_ _ | with_reducible refine bl_drew ?_ | fail)) bB; have hggB : gB = g2 ∨ wm.heap.size ≤ gB := hgB.imp id (fun h => Nat.le_trans (show Below wm.heap.size wm _ from by repeat (first | assumption | with_reducible exact Below.refl _ _ | with_reducible refine bl_alloc ?_ _ | with_reducible refine bl_drew ?_ | fail)).size h); have sB := XB.size; (try (replace hrA := hrA.read bB)); (try (replace hrB := hrB.read bB)); obtain ⟨y0, y1⟩ := (HXM.out.1.read XB).one; obtain ⟨z0, z1⟩ := (HXM.out.2.read XB).one) | fail)
    all_goals (first | (obtain ⟨wt, hwt⟩ : ∃ wt, wt = ((wB.setCell ⟨b7, 0, none⟩ (.slice (some ⟨gA, 0, none⟩) dA.length cA)).setCell ⟨b8, 0, none⟩ (.slice (some ⟨gB, 0, none⟩) dB.length cB)) := ⟨_, rfl⟩; rw [← hwt]; have HTW : Hid (Two b7 b8 (.slice (some ⟨gA, 0, none⟩) dA.length cA) (.slice (some ⟨gB, 0, none⟩) dB.length cB) wB wt) := hid (by rw [hwt]; exact two_ab (HXM.out.1.read XB) (HXM.out.2.read XB) hb78); clear hwt; have HXL : Hid (Below wm.heap.size wm wB) := hid XB; have HRL : Hid (Row gA dA wB ∧ Row gB dB wB) := hid ⟨hrA, hrB⟩; obtain ⟨wl, hwl⟩ : ∃ wl, wl = wB := ⟨_, rfl⟩; rw [← hwl] at HTW HXL HRL; clear hwl) | (obtain ⟨wt, hwt⟩ : ∃ wt, wt = ((wB.setCell ⟨b8, 0, none⟩ (.slice (some ⟨gB, 0, none⟩) dB.length cB)).setCell ⟨b7, 0, none⟩ (.slice (some ⟨gA, 0, none⟩) dA.length cA)) := ⟨_, rfl⟩; rw [← hwt]; have HTW : Hid (Two b7 b8 (.slice (some ⟨gA, 0, none⟩) dA.length cA) (.slice (some ⟨gB, 0, none⟩) dB.length cB) wB wt) := hid (by rw [hwt]; exact two_ba (HXM.out.1.read XB) (HXM.out.2.read XB) hb78); clear hwt; have HXL : Hid (Below wm.heap.size wm wB) := hid XB; have HRL : Hid (Row gA dA wB ∧ Row gB dB wB) := hid ⟨hrA, hrB⟩; obtain ⟨wl, hwl⟩ : ∃ wl, wl = wB := ⟨_, rfl⟩; rw [← hwl] at HTW HXL HRL; clear hwl) | (obtain ⟨wt, hwt⟩ : ∃ wt, wt = ((wA.setCell ⟨b7, 0, none⟩ (.slice (some ⟨gA, 0, none⟩) dA.length cA)).setCell ⟨b8, 0, none⟩ (.slice (some ⟨gB, 0, none⟩) dB.length cB)) := ⟨_, rfl⟩; rw [← hwt]; have HTW : Hid (Two b7 b8 (.slice (some ⟨gA, 0, none⟩) dA.length cA) (.slice (some ⟨gB, 0, none⟩) dB.length cB) wA wt) := hid (by rw [hwt]; exact two_ab (HXM.out.1.read XA) (HXM.out.2.read XA) hb78); clear hwt; have HXL : Hid (Below wm.heap.size wm wA) := hid XA; have HRL : Hid (Row gA dA wA ∧ Row gB dB wA) := hid ⟨hrA, hrB⟩; obtain ⟨wl, hwl⟩ : ∃ wl, wl = wA := ⟨_, rfl⟩; rw [← hwl] at HTW HXL HRL; clear hwl) | (obtain ⟨wt, hwt⟩ : ∃ wt, wt = ((wA.setCell ⟨b8, 0, none⟩ (.slice (some ⟨gB, 0, none⟩) dB.length cB)).setCell ⟨b7, 0, none⟩ (.slice (some ⟨gA, 0, none⟩) dA.length cA)) := ⟨_, rfl⟩; rw [← hwt]; have HTW : Hid (Two b7 b8 (.slice (some ⟨gA, 0, none⟩) dA.length cA) (.slice (some ⟨gB, 0, none⟩) dB.length cB) wA wt) := hid (by rw [hwt]; exact two_ba (HXM.out.1.read XA) (HXM.out.2.read XA) hb78); clear hwt; have HXL : Hid (Below wm.heap.size wm wA) := hid XA; have HRL : Hid (Row gA dA wA ∧ Row gB dB wA) := hid ⟨hrA, hrB⟩; obtain ⟨wl, hwl⟩ : ∃ wl, wl = wA := ⟨_, rfl⟩; rw [← hwl] at HTW HXL HRL; clear hwl))
    all_goals (have hgl := HGL.out; have hrb := HRB.out; have hne7 : ∀ k, k < w.heap.size + 2 → wt.heap[k]? = wl.heap[k]? := fun k hk => HTW.out.blk k (by omega) (by omega))
    all_goals (have HBT : Hid (Below w.heap.size w wt) := hid (HBM.out.trans ⟨HTW.out.os.trans HXL.out.os, HTW.out.tape.trans HXL.out.tape, HTW.out.output.trans HXL.out.output, by rw [HTW.out.size]; exact HXL.out.size, fun k hk => (hne7 k (by omega)).trans (HXL.out.block k (by omega))⟩))
    all_goals (have HT : Hid (Bx (w.heap.size + 1) 43 #[.int .u64 (sh : Int), .int .u64 (sl : Int), .string ⟨#[]⟩] wt ∧ Bx b7 31 #[.slice (some ⟨gA, 0, none⟩) dA.length cA] wt ∧ Bx b8 31 #[.slice (some ⟨gB, 0, none⟩) dB.length cB] wt ∧ True) := hid ⟨(hne7 _ (by omega)).trans (HXS.out.2.read HXL.out), HTW.out.one, HTW.out.two, trivial⟩)
    all_goals (have HSL : Hid (Slf w.heap.size rb sh sl wt) := hid ⟨(cell_heap (hne7 _ (by omega))).trans ((HXS.out.1.read HXL.out).cell 0), (cell_heap (hne7 _ (by omega))).trans (HTM.out.below HXL.out).hi, (cell_heap (hne7 _ (by omega))).trans (HTM.out.below HXL.out).lo⟩)
    all_goals (have HRA : Hid (Row gA dA wt ∧ Row gB dB wt) := hid ⟨HRL.out.1.of_heap (HTW.out.blk _ (by omega) (by omega)), HRL.out.2.of_heap (HTW.out.blk _ (by omega) (by omega))⟩)
    all_goals (have HLN : Hid (dA.length = dA.length ∧ dB.length = dB.length ∧ dA.length ≤ 15 ∧ dB.length ≤ 15) := hid ⟨rfl, rfl, by have := HT0.out.b1.1; omega, by have := HT0.out.b2.1; omega⟩)
    all_goals (clear hne7 HTW HRL HXL HTM HXM HXS hgl hrb KL KS HL1 HL2)
    all_goals
      have c6 := HT.out.1.three
      have c7 := HT.out.2.1.cell 0
      have c8 := HT.out.2.2.1.cell 0
      simp at c7 c8
      obtain ⟨⟨c61, c62, c63⟩, _⟩ := c6
      have c7' : (wt.alloc (.cells #[.int .u64 (sh : Int), .int .u64 (sl : Int), .string ⟨#[]⟩] 43)).cell? ⟨b7, 0, none⟩ = _ := (((Below.refl _ wt).alloc (Nat.le_refl _) _).cell (p := ⟨b7, 0, none⟩) (lt_of_cell c7)).trans c7
      have c8' : (wt.alloc (.cells #[.int .u64 (sh : Int), .int .u64 (sl : Int), .string ⟨#[]⟩] 43)).cell? ⟨b8, 0, none⟩ = _ := (((Below.refl _ wt).alloc (Nat.le_refl _) _).cell (p := ⟨b8, 0, none⟩) (lt_of_cell c8)).trans c8
      obtain ⟨wz, hwz⟩ : ∃ wz, wz = (wt.alloc (.cells #[.int .u64 (sh : Int), .int .u64 (sl : Int), .string ⟨#[]⟩] 43)).alloc (.cells #[.slice (some ⟨wt.heap.size, 0, none⟩) 1 1, .slice (some ⟨gA, 0, none⟩) dA.length cA, .slice (some ⟨gB, 0, none⟩) dB.length cB] 31) := ⟨_, rfl⟩
      have hbz : Below wt.heap.size wt wz := hwz ▸ gr_below (YbulkcntwDoor.g2 _ _ _)
      have HZ : Hid (Bx (wt.heap.size + 1) 31 #[.slice (some ⟨wt.heap.size, 0, none⟩) 1 1, .slice (some ⟨gA, 0, none⟩) dA.length cA, .slice (some ⟨gB, 0, none⟩) dB.length cB] wz ∧ Row wt.heap.size [⟨sh, sl, ⟨#[]⟩⟩] wz) := hid (by
        rw [hwz]
        refine ⟨al2b _ _ _, ⟨_, _, al2a _ _ _⟩, fun k hk => ?_⟩
        have hk0 : k = 0 := by simp at hk; omega
        subst hk0
        have B : Bx wt.heap.size 43 #[.int .u64 (sh : Int), .int .u64 (sl : Int), .string ⟨#[]⟩] ((wt.alloc (.cells #[.int .u64 (sh : Int), .int .u64 (sl : Int), .string ⟨#[]⟩] 43)).alloc (.cells #[.slice (some ⟨wt.heap.size, 0, none⟩) 1 1, .slice (some ⟨gA, 0, none⟩) dA.length cA, .slice (some ⟨gB, 0, none⟩) dB.length cB] 31)) := al2a _ _ _
        exact ⟨B.cell 0, B.cell 1, B.cell 2⟩)
      have HCC := hid (concat_of grow_any (wt.heap.size + 1) 3 wt.heap.size 1 1 gA dA.length cA gB dB.length cB [⟨sh, sl, ⟨#[]⟩⟩] dA dB wz (HZ.out.1.cell 0) (HZ.out.1.cell 1) (HZ.out.1.cell 2) HZ.out.2 (HRA.out.1.read hbz) (HRA.out.2.read hbz) rfl HLN.out.1 HLN.out.2.1 (by omega) (by omega) (by have := HLN.out.2.2.1; omega) (by have := HLN.out.2.2.2; omega))
      have HBZ := hid hbz
      clear hbz
      have HLD : Hid (([⟨sh, sl, ⟨#[]⟩⟩] ++ dA ++ dB : List C).length = 1 + dA.length + dB.length) := hid (by simp [HLN.out.1, HLN.out.2.1]; omega)
      go_upto_region 12 with fail
      go_wp2_with fail
      rw [← hwz]
      have HWZ : Hid (wz.heap.size = wt.heap.size + 2) := hid (by simp [hwz])
      clear hwz
      with_reducible (refine Calls.mono HCC.out ?_)
      rintro e w4 ⟨g, cap, rfl, hg, hcap1, hcap2, hr4, hb4⟩
      have HB4 := hid ((HBT.out.trans (HBZ.out.mono HBT.out.size)).trans (hb4.mono (HBT.out.trans (HBZ.out.mono HBT.out.size)).size))
      have HG : Hid (wt.heap.size + 2 ≤ g) := hid (by have := HWZ.out; omega)
      have HS4 : Hid (Slf w.heap.size rb sh sl w4) := hid ((HSL.out.below (B := 0) HBZ.out).below (B := 0) hb4)
      have HQ := hid (sort_any w.heap.size rb sh sl g cap ([⟨sh, sl, ⟨#[]⟩⟩] ++ dA ++ dB) w4 HS4.out (by have := HG.out; have := HBT.out.size; omega) (by have := HG.out; have := HBT.out.size; have := HRB.out; omega) hr4 (by rw [HLD.out]; have := HLN.out.2.2; omega))
      rw [HLD.out] at HQ
      clear hb4 hr4
      go_wp2_with (first | (go_at_call 28; with_reducible (refine Calls.mono HQ.out ?_); rintro e w5 ⟨rfl, ds, hperm, hsrt, ho5, hr5⟩; have HDL : Hid (1 + dA.length + dB.length = ds.length) := hid (by rw [hperm.length_eq, HLD.out]); have HCM := hid (compact_any g (1 + dA.length + dB.length) cap ds w5 hr5 HDL.out (by omega) hcap2); have HO5 := hid ho5; have HPS := hid (And.intro hperm hsrt); clear hr5 ho5 hperm hsrt) | (go_at_call 30; with_reducible (refine Calls.mono HCM.out ?_); rintro e w6 ⟨rfl, ho6, hr6⟩) | fail)
      refine bodyPost_ret (v := .tuple #[.slice (some ⟨g, 0, none⟩) (comp ds (1 + dA.length + dB.length)).length cap, .bool true]) (by simp [results, Ybad.results14, go_sem]) rfl ?_
      have hcl := comp_len ds (1 + dA.length + dB.length)
      refine ⟨g, cap, comp ds (1 + dA.length + dB.length), rfl, by have := HG.out; have := HBT.out.size; omega, by omega, by have := HLN.out.2.2; omega, hcap2, hr6, (HO5.out.trans ho6).below HB4.out (by have := HB4.out.size; omega) (by have := HG.out; have := HBT.out.size; omega), by first | trivial | exact fun h => by cases h⟩
end Go.Proofs.YbulkcntwDoor
